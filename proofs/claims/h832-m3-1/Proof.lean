import JvmDerived
import JvmDerived.Pilot.@@N@@Statement
import JvmDerived.Pilot.@@N@@Code
set_option linter.unusedVariables false
set_option linter.unusedSimpArgs false
namespace Jvm.RoadKit
open Sem ClassFile Op Lib Jvm.Stand Jvm.Free Jvm.LawKit
section New
variable {p : Program} {l : Launch} {e : Env} {R : Room} {s : State} {m : MethodId} {args : Array Value} {below : List Frame} {meth : Method} {c : Code} {T : State} {locs : List Loc} {cells slots : Nat}
theorem retI (X : Stand p l e R s m args below meth c T locs cells slots) (hx : p.tables.exec = Jvm.exec) {pc : Nat} {Ls : Array Slot} {z : Int32} {rest : List Value} (hret : meth.sig.returnType = some .int) (hd : decode c.code pc = .ok (.ireturn, 1)) {fs : List Frame}
    (hl : ∀ (f : JFrame) (acts : List Action), f.method = m → f.locked = none → f.entered = [] → (doReturn e (T.setTop f) acts (some (.int z))).1 = T.setFrames fs) : Steps p.tables e below (T.setTop (mkF m pc Ls (.int z :: rest))) (T.setFrames fs) :=
  retOut X hx hret rfl (Or.inl ⟨rfl, Or.inl rfl, z, rfl⟩) hd hl
end New
end Jvm.RoadKit
namespace Jvm.Pilot.@@N@@
open Jvm Jvm.ClassFile Sem Op Lib Jvm.Free Jvm.Stand Jvm.LawKit Jvm.RoadKit Bundle Jvm.Pilot.@@N@@.Jvm.D
theorem W {a0 : Array Value} {Z : State} (hw : ∀ d ∈ tables_1, d.before a0 Z = true) (i : Nat) {d : Jvm.Cond} (h : tables_1[i]? = some d) : d.before a0 Z = true := hw d (List.mem_of_getElem? h)
theorem own_eqv {args : Array Value} {first s : State} {o : Option Outcome} {idx : List Nat} {a b : Term} {x : Value} (h : (Cond.eq a b).value args first o s idx = some true) (hb : b.eval args first o idx s = some x) : a.eval args first o idx s = some x := by
  simp only [Cond.value, hb] at h
  cases ha : a.eval args first o idx s with
  | none => rw [ha] at h; cases h
  | some y => rw [ha] at h; cases x <;> cases y <;> simp at h <;> first | rw [h] | rfl
theorem own_cat {v : Value} (h : v.isRef = true) : v.category = 1 := by rcases ref_cases h with rfl | ⟨a, rfl⟩ <;> rfl
theorem own_store {Z : State} {h h' : Heap} {a : Addr} {k : ClassId} {ty : FieldType} {z j : Int32} {vs : List Value} {dv v : Value} (F : Arv Z h a k ty z vs dv) (W : Wr h h' a j.toNatClampNeg v) (hv : fits ty v = true) (hj : ¬ j < 0 ∧ j < z) : ∃ vs', Arv Z h' a k ty z vs' dv := by
  obtain ⟨c, A, q1, S, q3, H, G⟩ := F.pad (pad_rep vs dv z.toNatClampNeg)
  have hin := inb_of S hj
  have hlt : j.toNatClampNeg < z.toNatClampNeg := by rw [← S]; exact Nat.lt_of_not_le fun q => hin (Or.inr q)
  exact ⟨_, Arv.set A q1 S q3 H G hv W _ rfl (by rw [List.length_append, List.length_replicate]; omega)⟩
def OL (val : Option Value) (n0 : Nat) (v : Option Value) (h : Heap) (L : List Loc) : Prop := v = val ∧ Fr n0 L
def OQ (val : Option Value) (h0 : Heap) (n0 : Nat) (v : Option Value) (h : Heap) (L : List Loc) : Prop := v = val ∧ Fr n0 L ∧ h = h0
abbrev Met (l : Launch) (Z : State) (y : MethodName) (w : Jvm.Cond) (ws : List Jvm.Cond) (rm : Room) (as : Array Value) (h0 : Heap) (Q : Option Value → Heap → List Loc → Prop) : Prop :=
  MetFree l y (head1 (w :: ws) rm) (fun a U => a = as ∧ Z.Warmed39 U.vm ∧ U.heap = h0) (fun _ _ _ _ _ => True) (fun _ U o U' => ∃ v L, o = .returned v ∧ Q v U'.heap L ∧ FrameEnd U o U' L rm.cells rm.slots)
abbrev MetW (l : Launch) (Z : State) (y : MethodName) (w : Jvm.Cond) (ws : List Jvm.Cond) (rm : Room) (as : Array Value) (h0 : Heap) (Q : Option Value → Heap → List Loc → Prop) : Prop :=
  MetFree l y (head1 (w :: ws) rm) (fun a U => a = as ∧ Z.Warmed39 U.vm ∧ U.heap = h0) (fun _ _ _ _ _ => True) (fun _ U o U' => ∃ v L, o = .returned v ∧ Q v U'.heap L ∧ ReturnedEndW U o U' L rm.cells rm.slots)
theorem own_body {l : Launch} {Z : State} {y : MethodName} {w : Jvm.Cond} {ws : List Jvm.Cond} {rm : Room} {as : Array Value} {h0 : Heap} {Q : Option Value → Heap → List Loc → Prop} {bytes : ByteArray} {maxL : Nat} {ret : Option FieldType} (hp : plainFor y = true)
    (his : ∀ args (s : State) m, (head1 (w :: ws) rm).pre.before args s = true → s.methodNamed? y = some m → ∃ meth c, s.vm.method? m = some meth ∧ meth.code = some c ∧ c.code = bytes ∧ c.maxLocals = maxL ∧ meth.sig.returnType = ret ∧ meth.locks = false)
    (body : ∀ (p : Program) (e : Env) (s : State) (m : MethodId) (below : List Frame) (meth : Method) (c : Code) (s₁ : State), p.tables.exec = Jvm.exec → c.code = bytes → c.maxLocals = maxL → s.vm.findClass y.cls = some m.cls → meth.name = y.name → meth.sig.returnType = ret →
      Stand p l e rm s m as below meth c s₁ [] 0 0 → Z.Warmed39 s.vm → s₁.heap = h0 → ∃ (T : State) (v : Option Value) (L : List Loc) (k n : Nat), k ≤ rm.cells ∧ n ≤ rm.slots ∧ Stand p l e rm s m as below meth c T L k n ∧ (ret = none → v = none) ∧ Q v T.heap L ∧
      ∀ fs, (∀ (f : JFrame) (acts : List Action), f.method = m → f.locked = none → f.entered = [] → (doReturn e (T.setTop f) acts v).1 = T.setFrames fs) → Steps p.tables e below (s₁.setTop (entryFrame m as maxL)) (T.setFrames fs)) : Met l Z y w ws rm as h0 Q := by
  refine MetFree.of_bodySF hp his ?_
  intro p e s m args below meth c s₁ Bd hml0 hP hK
  obtain ⟨rfl, hZ, hh⟩ := hP
  obtain ⟨T, v, L, k, n, hk, hn, X, hv, hQ, st⟩ := body p e s m below meth c s₁ Bd.exec Bd.bytes hml0 (findClass_of_methodNamed Bd.named) (name_of_methodNamed Bd.named Bd.method).1 Bd.returns (Stand.of_body Bd) hZ (by rw [← hh, Bd.state]; rfl)
  obtain ⟨fs, hr, hrun, hended, hW, hsame⟩ := X.leave (v := v) (fun h => hv (Bd.returns ▸ h))
  exact ⟨_, _, st fs hr, hrun, hended, v, L, rfl, hQ, ⟨_, rfl⟩, hW, hsame.mono hk hn⟩
theorem own_bodyW {l : Launch} {Z : State} {y : MethodName} {w : Jvm.Cond} {ws : List Jvm.Cond} {rm : Room} {as : Array Value} {h0 : Heap} {Q : Option Value → Heap → List Loc → Prop} {bytes : ByteArray} {maxL : Nat} {ret : Option FieldType} (hp : plainFor y = true)
    (his : ∀ args (s : State) m, (head1 (w :: ws) rm).pre.before args s = true → s.methodNamed? y = some m → ∃ meth c, s.vm.method? m = some meth ∧ meth.code = some c ∧ c.code = bytes ∧ c.maxLocals = maxL ∧ meth.sig.returnType = ret ∧ meth.locks = false)
    (body : ∀ (p : Program) (e : Env) (s : State) (m : MethodId) (below : List Frame) (meth : Method) (c : Code) (s₁ : State), p.tables.exec = Jvm.exec → c.code = bytes → c.maxLocals = maxL → s.vm.findClass y.cls = some m.cls → meth.name = y.name → meth.sig.returnType = ret →
      Stand p l e rm s m as below meth c s₁ [] 0 0 → Z.Warmed39 s.vm → s₁.heap = h0 → ∃ (T : State) (vm₁ : Vm) (v : Option Value) (L : List Loc) (k n j : Nat), k ≤ rm.cells ∧ n ≤ rm.slots ∧ Stand p l e rm (s.setVm vm₁) m as below meth c T L k n ∧ s.Since vm₁ j ∧ j ≤ T.heap.size ∧ (ret = none → v = none) ∧ Q v T.heap L ∧
      ∀ fs, (∀ (f : JFrame) (acts : List Action), f.method = m → f.locked = none → f.entered = [] → (doReturn e (T.setTop f) acts v).1 = T.setFrames fs) → Steps p.tables e below (s₁.setTop (entryFrame m as maxL)) (T.setFrames fs)) : MetW l Z y w ws rm as h0 Q := by
  refine MetFree.of_bodySF hp his ?_
  intro p e s m args below meth c s₁ Bd hml0 hP hK
  obtain ⟨rfl, hZ, hh⟩ := hP
  obtain ⟨T, vm₁, v, L, k, n, j, hk, hn, X, hS, hj, hv, hQ, st⟩ := body p e s m below meth c s₁ Bd.exec Bd.bytes hml0 (findClass_of_methodNamed Bd.named) (name_of_methodNamed Bd.named Bd.method).1 Bd.returns (Stand.of_body Bd) hZ (by rw [← hh, Bd.state]; rfl)
  obtain ⟨fs, hr, hrun, hended, w1, w2, w3, w4⟩ := X.leaveW hS hj (v := v) (fun h => hv (Bd.returns ▸ h))
  exact ⟨_, _, st fs hr, hrun, hended, v, L, rfl, hQ, w1, w2, w3, w4.mono hk hn⟩
abbrev Rm (f c s l : Nat) : Room := { frames := f, cells := c, slots := s, locals := l }
abbrev s_0 : String := "java/lang/String"
abbrev s_1 : String := "com/example/kalendae/kalendae/calendar/IsoText"
abbrev s_2 : String := "java/util/Arrays"
abbrev s_3 : String := "com/example/kalendae/kalendae/calendar/IsoTextWritesAsNumberPinLaw"
abbrev s_4 : String := "(I)Ljava/lang/String;"
abbrev s_5 : String := "(IIILjava/util/function/BiFunction;)I"
abbrev s_6 : String := "jdk/internal/util/Preconditions"
abbrev s_7 : String := "(Ljava/nio/charset/Charset;[BII)V"
abbrev s_8 : String := "([BIILjava/nio/charset/Charset;)V"
abbrev s_9 : String := "([BI)Ljava/lang/String;"
abbrev s_10 : String := "checkBoundsOffCount"
abbrev s_11 : String := "checkFromIndexSize"
abbrev s_12 : String := "(Ljava/lang/Object;)Ljava/lang/Object;"
abbrev s_13 : String := "copyOfRangeByte"
abbrev s_14 : String := "java/lang/Math"
abbrev s_15 : String := "writesAsNumber"
abbrev s_16 : String := "java/util/Objects"
abbrev s_17 : String := "requireNonNull"
abbrev s_18 : String := "(IILjava/util/function/BiFunction;)I"
abbrev s_19 : String := "java/lang/StringLatin1"
theorem own_nz {args : Array Value} {s : State} {t : Term} {c : Int32} (ev : t.eval args s none [] s = some (.int c)) (h : (Cond.not (Cond.eq t (.int (0 : Int32)))).value args s none s [] = some true) : ¬ (c = (0 : Int32)) := fun q => by
  have h1 := not_v h
  have h2 : (Cond.eq t (.int (0 : Int32))).value args s none s [] = some true := eq_i ev (Term.int_eval _) (by rw [q])
  rw [h2] at h1
  cases h1
theorem own_q10 {x : Int32} {B : Int} (h : -B ≤ x.toInt ∧ x.toInt ≤ B) : -(B / 10) ≤ (x / (10 : Int32)).toInt ∧ (x / (10 : Int32)).toInt ≤ B / 10 := by
  have c := c_idiv x (10 : Int32) 10 (by decide) (by decide)
  rcases Int.lt_or_le x.toInt 0 with q | q
  · rw [c.2 q]; omega
  · rw [c.1 q]; omega
theorem own_six (x : Int32) : (((((((x / (10000 : Int32)) / (10 : Int32)) / (10 : Int32)) / (10 : Int32)) / (10 : Int32)) / (10 : Int32)) / (10 : Int32)) = (0 : Int32) := by
  have r := rng32 x
  have c := c_idiv x (10000 : Int32) 10000 (by decide) (by decide)
  have h0 : -214748 ≤ (x / (10000 : Int32)).toInt ∧ (x / (10000 : Int32)).toInt ≤ 214748 := by
    rcases Int.lt_or_le x.toInt 0 with q | q
    · rw [c.2 q]; omega
    · rw [c.1 q]; omega
  have h1 := own_q10 h0
  have h2 := own_q10 h1
  have h3 := own_q10 h2
  have h4 := own_q10 h3
  have h5 := own_q10 h4
  have h6 := own_q10 h5
  have e : (0 : Int32).toInt = 0 := by decide
  rw [← Int32.toInt_inj]
  omega
theorem own_neg {x : Int32} (h : x < (0 : Int32)) : x < (1000 : Int32) := by
  have e : (0 : Int32).toInt = 0 := by decide
  have e' : (1000 : Int32).toInt = 1000 := by decide
  rw [Int32.lt_iff_toInt_lt] at h ⊢
  omega
theorem own_ng {x : Int32} (h : ¬ (x < (0 : Int32))) : (-x).toInt = -x.toInt := by
  have e : (0 : Int32).toInt = 0 := by decide
  have r := rng32 x
  have r' := rng32 (-x)
  have c := c_ineg x
  rw [Int32.lt_iff_toInt_lt] at h
  omega
theorem own_big {x : Int32} (h0 : ¬ (x < (0 : Int32))) (h : (9999 : Int32) < x) : ¬ (x < (1000 : Int32)) ∧ ¬ (((-x) / (10000 : Int32)) = (0 : Int32)) := by
  have n := own_ng h0
  have e : (9999 : Int32).toInt = 9999 := by decide
  have e' : (1000 : Int32).toInt = 1000 := by decide
  have e0 : (0 : Int32).toInt = 0 := by decide
  rw [Int32.lt_iff_toInt_lt] at h
  have c := (c_idiv (-x) (10000 : Int32) 10000 (by decide) (by decide)).2 (by omega)
  rw [Int32.lt_iff_toInt_lt, ← Int32.toInt_inj, c]
  omega
theorem own_in {x : Int32} (h0 : ¬ (x < (0 : Int32))) (h : ¬ ((9999 : Int32) < x)) : ((-x) / (10000 : Int32)) = (0 : Int32) := by
  have n := own_ng h0
  have e : (9999 : Int32).toInt = 9999 := by decide
  have e0 : (0 : Int32).toInt = 0 := by decide
  rw [Int32.lt_iff_toInt_lt] at h h0
  have c := c_idiv (-x) (10000 : Int32) 10000 (by decide) (by decide)
  rw [← Int32.toInt_inj]
  rcases Int.lt_or_le (-x).toInt 0 with q | q
  · rw [c.2 q]; omega
  · rw [c.1 q]; omega
theorem own_nd {x : Int32} {k : Int} (h : x.toInt = -k) (hk : 0 ≤ k) : (x / (10 : Int32)).toInt = -(k / 10) := by
  have c := c_idiv x (10 : Int32) 10 (by decide) (by decide)
  rcases Int.lt_or_le x.toInt 0 with q | q
  · rw [c.2 q, h, Int.neg_neg]
  · rw [c.1 q]; omega
theorem own_nr {x : Int32} {k : Int} (h : x.toInt = -k) (hk : 0 ≤ k) : (x % (10 : Int32)).toInt = -(k % 10) := by
  have c := c_irem x (10 : Int32) 10 (by decide)
  rcases Int.lt_or_le x.toInt 0 with q | q
  · rw [c.2 q, h, Int.neg_neg]
  · rw [c.1 q]; omega
theorem own_b {x : Int32} (h : 0 ≤ x.toInt ∧ x.toInt < 128) : (x.toInt8.toInt32).toInt = x.toInt := by have := c_i2b x; omega
theorem own_c {x : Int32} (h : 0 ≤ x.toInt ∧ x.toInt < 128) : (x.toUInt32.toUInt16.toUInt32.toInt32).toInt = x.toInt := by have := c_i2c x; omega
theorem own_m {x : Int32} (h : 0 ≤ x.toInt ∧ x.toInt < 128) : (x &&& (255 : Int32)).toInt = x.toInt := by have := c_mask x (255 : Int32) 8 (by decide) (by decide); omega
theorem own_dig {x : Int32} (h0 : ¬ (x < (0 : Int32))) (h : ¬ ((9999 : Int32) < x)) : ((((((((48 : Int32) - (((((-x) / (10 : Int32)) / (10 : Int32)) / (10 : Int32)) % (10 : Int32))).toInt8.toInt32).toInt8.toInt32) &&& (255 : Int32)).toUInt32.toUInt16.toUInt32.toInt32).toUInt32.toUInt16.toUInt32.toInt32).toUInt32.toUInt16.toUInt32.toInt32) = (48 : Int32) ↔ x < (1000 : Int32) := by
  have e1 := own_ng h0
  have e : (9999 : Int32).toInt = 9999 := by decide
  have e0 : (0 : Int32).toInt = 0 := by decide
  have e48 : (48 : Int32).toInt = 48 := by decide
  have e1000 : (1000 : Int32).toInt = 1000 := by decide
  rw [Int32.lt_iff_toInt_lt] at h h0
  have d1 := own_nd e1 (by omega)
  have d2 := own_nd d1 (by omega)
  have d3 := own_nd d2 (by omega)
  have d4 := own_nr d3 (by omega)
  have d5 := c_isub (48 : Int32) (((((-x) / (10 : Int32)) / (10 : Int32)) / (10 : Int32)) % (10 : Int32))
  have r5 := rng32 ((48 : Int32) - (((((-x) / (10 : Int32)) / (10 : Int32)) / (10 : Int32)) % (10 : Int32)))
  rw [d4, e48] at d5
  generalize (48 : Int32) - (((((-x) / (10 : Int32)) / (10 : Int32)) / (10 : Int32)) % (10 : Int32)) = y at *
  have y0 : y.toInt = 48 + x.toInt / 10 / 10 / 10 % 10 := by omega
  have f1 := own_b (x := y) (by omega)
  have f2 := own_b (x := y.toInt8.toInt32) (by omega)
  have f3 := own_m (x := y.toInt8.toInt32.toInt8.toInt32) (by omega)
  have f4 := own_c (x := y.toInt8.toInt32.toInt8.toInt32 &&& (255 : Int32)) (by omega)
  have f5 := own_c (x := (y.toInt8.toInt32.toInt8.toInt32 &&& (255 : Int32)).toUInt32.toUInt16.toUInt32.toInt32) (by omega)
  have f6 := own_c (x := (y.toInt8.toInt32.toInt8.toInt32 &&& (255 : Int32)).toUInt32.toUInt16.toUInt32.toInt32.toUInt32.toUInt16.toUInt32.toInt32) (by omega)
  rw [← Int32.toInt_inj, Int32.lt_iff_toInt_lt]
  omega
def Wd (Z : State) (w : Nat → Addr) (kk : Nat → ClassId) (iw : Nat → Int32) (vw : Nat → Value) : Prop :=
  Sta Z Z.heap "java/nio/charset/StandardCharsets" "ISO_8859_1" "Ljava/nio/charset/Charset;" (.ref (w 0)) ∧
  Exa Z Z.heap (w 0) "sun/nio/cs/ISO_8859_1" ∧
  Sta Z Z.heap "sun/nio/cs/UTF_8" "INSTANCE" "Lsun/nio/cs/UTF_8;" (.ref (w 1)) ∧
  Exa Z Z.heap (w 1) "sun/nio/cs/UTF_8" ∧
  Sta Z Z.heap "sun/nio/cs/ISO_8859_1" "INSTANCE" "Lsun/nio/cs/ISO_8859_1;" (.ref (w 2)) ∧
  Exa Z Z.heap (w 2) "sun/nio/cs/ISO_8859_1" ∧
  Sta Z Z.heap s_0 "COMPACT_STRINGS" "Z" (.int (iw 0)) ∧
  ¬ ((iw 0) = (0 : Int32)) ∧
  Sta Z Z.heap s_6 "SIOOBE_FORMATTER" "Ljava/util/function/BiFunction;" (vw 0) ∧
  (vw 0).isRef = true ∧
  (w 0) = (w 2)
theorem d0_0 : decode prog_22_method_4_code 0 = .ok (.bipush 11, 2) := by decide +kernel
theorem d0_2 : decode prog_22_method_4_code 2 = .ok (.newarray .byte, 2) := by decide +kernel
theorem d0_4 : decode prog_22_method_4_code 4 = .ok (.astore_n 1, 1) := by decide +kernel
theorem d0_5 : decode prog_22_method_4_code 5 = .ok (.aload_n 1, 1) := by decide +kernel
theorem d0_6 : decode prog_22_method_4_code 6 = .ok (.aload_n 1, 1) := by decide +kernel
theorem d0_7 : decode prog_22_method_4_code 7 = .ok (.iload_n 0, 1) := by decide +kernel
theorem d0_8 : decode prog_22_method_4_code 8 = .ok (.invokestatic 11, 3) := by decide +kernel
theorem d1_0 : decode prog_22_method_7_code 0 = .ok (.iload_n 1, 1) := by decide +kernel
theorem d1_1 : decode prog_22_method_7_code 1 = .ok (.ifCond .ge 13, 3) := by decide +kernel
theorem d1_4 : decode prog_22_method_7_code 4 = .ok (.aload_n 0, 1) := by decide +kernel
theorem d1_5 : decode prog_22_method_7_code 5 = .ok (.iconst 0, 1) := by decide +kernel
theorem d1_6 : decode prog_22_method_7_code 6 = .ok (.bipush 45, 2) := by decide +kernel
theorem d1_8 : decode prog_22_method_7_code 8 = .ok (.bastore, 1) := by decide +kernel
theorem d1_9 : decode prog_22_method_7_code 9 = .ok (.iconst 1, 1) := by decide +kernel
theorem d1_10 : decode prog_22_method_7_code 10 = .ok (.istore_n 2, 1) := by decide +kernel
theorem d1_11 : decode prog_22_method_7_code 11 = .ok (.goto 22, 3) := by decide +kernel
theorem d1_33 : decode prog_22_method_7_code 33 = .ok (.iload_n 1, 1) := by decide +kernel
theorem d1_34 : decode prog_22_method_7_code 34 = .ok (.ifCond .ge 7, 3) := by decide +kernel
theorem d1_37 : decode prog_22_method_7_code 37 = .ok (.iload_n 1, 1) := by decide +kernel
theorem d1_38 : decode prog_22_method_7_code 38 = .ok (.goto 5, 3) := by decide +kernel
theorem d1_43 : decode prog_22_method_7_code 43 = .ok (.istore_n 3, 1) := by decide +kernel
theorem d1_44 : decode prog_22_method_7_code 44 = .ok (.iload_n 2, 1) := by decide +kernel
theorem d1_45 : decode prog_22_method_7_code 45 = .ok (.iconst 4, 1) := by decide +kernel
theorem d1_46 : decode prog_22_method_7_code 46 = .ok (.iadd, 1) := by decide +kernel
theorem lf_0 : ((1 : Int32) + (4 : Int32)) = (5 : Int32) := by decide
theorem d1_47 : decode prog_22_method_7_code 47 = .ok (.istore 4, 2) := by decide +kernel
theorem d1_49 : decode prog_22_method_7_code 49 = .ok (.iload_n 3, 1) := by decide +kernel
theorem d1_50 : decode prog_22_method_7_code 50 = .ok (.sipush 10000, 3) := by decide +kernel
theorem d1_53 : decode prog_22_method_7_code 53 = .ok (.idiv, 1) := by decide +kernel
theorem d1_54 : decode prog_22_method_7_code 54 = .ok (.istore 5, 2) := by decide +kernel
theorem d1_56 : decode prog_22_method_7_code 56 = .ok (.iload 5, 2) := by decide +kernel
theorem d1_58 : decode prog_22_method_7_code 58 = .ok (.ifCond .eq 16, 3) := by decide +kernel
theorem d1_74 : decode prog_22_method_7_code 74 = .ok (.iload_n 3, 1) := by decide +kernel
theorem d1_75 : decode prog_22_method_7_code 75 = .ok (.istore 5, 2) := by decide +kernel
theorem d1_77 : decode prog_22_method_7_code 77 = .ok (.iload 4, 2) := by decide +kernel
theorem d1_79 : decode prog_22_method_7_code 79 = .ok (.iconst 1, 1) := by decide +kernel
theorem d1_80 : decode prog_22_method_7_code 80 = .ok (.isub, 1) := by decide +kernel
theorem lf_1 : ((5 : Int32) - (1 : Int32)) = (4 : Int32) := by decide
theorem d1_81 : decode prog_22_method_7_code 81 = .ok (.istore 6, 2) := by decide +kernel
theorem d1_83 : decode prog_22_method_7_code 83 = .ok (.iload 6, 2) := by decide +kernel
theorem d1_85 : decode prog_22_method_7_code 85 = .ok (.iload_n 2, 1) := by decide +kernel
theorem d1_86 : decode prog_22_method_7_code 86 = .ok (.if_icmp .lt 29, 3) := by decide +kernel
theorem d1_89 : decode prog_22_method_7_code 89 = .ok (.aload_n 0, 1) := by decide +kernel
theorem d1_90 : decode prog_22_method_7_code 90 = .ok (.iload 6, 2) := by decide +kernel
theorem d1_92 : decode prog_22_method_7_code 92 = .ok (.bipush 48, 2) := by decide +kernel
theorem d1_94 : decode prog_22_method_7_code 94 = .ok (.iload 5, 2) := by decide +kernel
theorem d1_96 : decode prog_22_method_7_code 96 = .ok (.bipush 10, 2) := by decide +kernel
theorem d1_98 : decode prog_22_method_7_code 98 = .ok (.irem, 1) := by decide +kernel
theorem d1_99 : decode prog_22_method_7_code 99 = .ok (.isub, 1) := by decide +kernel
theorem d1_100 : decode prog_22_method_7_code 100 = .ok (.i2b, 1) := by decide +kernel
theorem d1_101 : decode prog_22_method_7_code 101 = .ok (.bastore, 1) := by decide +kernel
theorem d1_102 : decode prog_22_method_7_code 102 = .ok (.iload 5, 2) := by decide +kernel
theorem d1_104 : decode prog_22_method_7_code 104 = .ok (.bipush 10, 2) := by decide +kernel
theorem d1_106 : decode prog_22_method_7_code 106 = .ok (.idiv, 1) := by decide +kernel
theorem d1_107 : decode prog_22_method_7_code 107 = .ok (.istore 5, 2) := by decide +kernel
theorem d1_109 : decode prog_22_method_7_code 109 = .ok (.iinc 6 (-1), 3) := by decide +kernel
theorem d1_112 : decode prog_22_method_7_code 112 = .ok (.goto (-29), 3) := by decide +kernel
set_option maxRecDepth 65536 in
set_option maxHeartbeats 40000000 in
theorem sg_1 {p : Program} {l : Launch} {e : Env} {R : Room} {s : State} {m : MethodId} {args : Array Value} {below : List Frame} {meth : Method} {c : Code} {T0 : State} {locs : List Loc} {cells slots : Nat} {Z : State} {a0 : Array Value} (w : Nat → Addr) (kk : Nat → ClassId) (iw : Nat → Int32) (vw : Nat → Value) (hN : Wd Z w kk iw vw) (o1 : Addr) (i1 : Int32) (i2 : Int32) (i3 : Int32) (i4 : Int32) (i5 : Int32) (i6 : Int32) (vl_o1 : List Value) (kc_o1 : ClassId) {h0 : Heap}
    (X0 : Stand p l e R s m args below meth c T0 locs cells slots) (hx : p.tables.exec = Jvm.exec) (hZ : Z.Warmed39 s.vm) (hw : ∀ d ∈ tables_1, d.before a0 Z = true) (hby : c.code = prog_22_method_7_code) (hml : c.maxLocals = 7) (hown : s.vm.findClass s_1 = some m.cls) (e0 : T0.heap = h0) (O0 : Old Z Z.heap.size h0) (N0 : Fr Z.heap.size locs) (gn_o1 : Z.heap.size ≤ o1) (lt_o1 : o1 < h0.size) (E_o1 : Exa Z h0 o1 "[B") (V_o1 : Arv Z h0 o1 kc_o1 .byte (11 : Int32) vl_o1 (.int (0 : Int32))) (hp0 : ¬ (i6 < i2)) (hp1 : ¬ (i6 < (0 : Int32))) (hp2 : i6 < (11 : Int32)) :
    ∃ (T' : State) (L' : List Loc) (vx1 : List Value) (z5 : Int32), Stand p l e R s m args below meth c T' L' cells slots ∧ (∀ target, Steps p.tables e below (T'.setTop (mkF m 83 #[.val (.ref o1), .val (.int i1), .val (.int i2), .val (.int i3), .val (.int i4), .val (.int z5), .val (.int (i6 + (-1 : Int32)))] [])) target → Steps p.tables e below (T0.setTop (mkF m 83 #[.val (.ref o1), .val (.int i1), .val (.int i2), .val (.int i3), .val (.int i4), .val (.int i5), .val (.int i6)] [])) target) ∧ Fr Z.heap.size L' ∧ Keep h0 T'.heap [o1] ∧ Exa Z T'.heap o1 "[B" ∧ Arv Z T'.heap o1 kc_o1 .byte (11 : Int32) vx1 (.int (0 : Int32)) := by
  have hN' := hN
  obtain ⟨hS0, hE0, hS1, hE1, hS2, hE2, hI0, hJ0, hR0, hRr0, hEq0⟩ := hN'
  have K0 : Keep h0 h0 [o1] := Keep.refl _ _
  have Vc1 := V_o1
  obtain ⟨cl1, Ar1, q1, Sz1, Ng1, Hv1, Gv1⟩ := Vc1
  have hin1 : ¬ (i6 < 0 ∨ cl1.slots.size ≤ (i6).toNatClampNeg) := inb_of Sz1 ⟨hp1, hp2⟩
  obtain ⟨T2, h2, X2, e2, W2, st2⟩ := stB X0 hx hZ e0 Ar1 (j := i6) hin1 (g := (mkF m 101 #[.val (.ref o1), .val (.int i1), .val (.int i2), .val (.int i3), .val (.int i4), .val (.int i5), .val (.int i6)] [(.int (((48 : Int32) - (i5 % (10 : Int32))).toInt8.toInt32)), (.int i6), (.ref o1)])) rfl rfl (hb hby d1_101)
  obtain ⟨vl2, V_o1_v2⟩ := own_store V_o1 W2 (fits_nar_byte _) ⟨hp1, hp2⟩
  have N2 := Fr.snoc X2 N0 gn_o1
  have E_o1_v2 := E_o1.wr W2
  have O2 := O0.wr W2 gn_o1
  have K2 : Keep h0 h2 [o1] := K0.wr W2 (Or.inl (List.mem_of_getElem? (i := 0) rfl))
  refine ⟨T2, _, vl2, (i5 / (10 : Int32)), X2, fun target kt => ?_, N2, (by rw [e2]; exact ⟨K2, E_o1_v2, V_o1_v2⟩)⟩
  show Steps p.tables e below (T0.setTop (mkF m 83 #[.val (.ref o1), .val (.int i1), .val (.int i2), .val (.int i3), .val (.int i4), .val (.int i5), .val (.int i6)] [])) _
  refine XS.iload X0.here hx rfl (hb hby d1_83) rfl ?_
  refine XS.iloadN X0.here hx rfl (hb hby d1_85) rfl ?_
  refine XS.icmpNo X0.here hx rfl (hb hby d1_86) rfl (flt hp0).1 ?_
  refine XS.aloadN X0.here hx rfl (hb hby d1_89) rfl rfl ?_
  refine XS.iload X0.here hx rfl (hb hby d1_90) rfl ?_
  refine XS.bipush X0.here hx rfl (hb hby d1_92) ?_
  refine XS.iload X0.here hx rfl (hb hby d1_94) rfl ?_
  refine XS.bipush X0.here hx rfl (hb hby d1_96) ?_
  refine iremM X0 hx rfl (hb hby d1_98) rfl (by decide : ¬ ((10 : Int32) = (0 : Int32))) ?_
  refine XS.isub X0.here hx rfl (hb hby d1_99) rfl ?_
  show Steps p.tables e below (T0.setTop (mkF m 100 #[.val (.ref o1), .val (.int i1), .val (.int i2), .val (.int i3), .val (.int i4), .val (.int i5), .val (.int i6)] [(.int ((48 : Int32) - (i5 % (10 : Int32)))), (.int i6), (.ref o1)])) _
  refine XS.i2b X0.here hx rfl (hb hby d1_100) rfl ?_
  refine st2 _ ?_
  refine XS.iload X2.here hx rfl (hb hby d1_102) rfl ?_
  refine XS.bipush X2.here hx rfl (hb hby d1_104) ?_
  refine XS.idiv X2.here hx rfl (hb hby d1_106) rfl (by decide : ¬ ((10 : Int32) = (0 : Int32))) ?_
  refine XS.istore X2.here hx rfl (hb hby d1_107) rfl (l' := #[.val (.ref o1), .val (.int i1), .val (.int i2), .val (.int i3), .val (.int i4), .val (.int (i5 / (10 : Int32))), .val (.int i6)]) rfl ?_
  refine XS.iinc X2.here hx rfl (hb hby d1_109) rfl (l' := #[.val (.ref o1), .val (.int i1), .val (.int i2), .val (.int i3), .val (.int i4), .val (.int (i5 / (10 : Int32))), .val (.int (i6 + (-1 : Int32)))]) rfl ?_
  refine XS.goto X2.here hx rfl (pc0 := 112) (pc' := 83) rfl (hb hby d1_112) (by decide) (by decide) ?_
  exact kt
theorem lf_2 : ((4 : Int32) + (-1 : Int32)) = (3 : Int32) := by decide
theorem lf_3 : ((3 : Int32) + (-1 : Int32)) = (2 : Int32) := by decide
theorem lf_4 : ((2 : Int32) + (-1 : Int32)) = (1 : Int32) := by decide
theorem lf_5 : ((1 : Int32) + (-1 : Int32)) = (0 : Int32) := by decide
theorem d1_115 : decode prog_22_method_7_code 115 = .ok (.iload 4, 2) := by decide +kernel
theorem d1_117 : decode prog_22_method_7_code 117 = .ok (.ireturn, 1) := by decide +kernel
theorem ef_0 (m : MethodId) (x0 : Value) (h0 : x0.category = 1) (x1 : Value) (h1 : x1.category = 1) : entryFrame m #[x0, x1] 7 = mkF m 0 #[.val x0, .val x1, .unset, .unset, .unset, .unset, .unset] [] := by first | (simp [entryFrame, mkF, argsToLocals, h0, h1]; done) | rfl
def Qd_0 (Z : State) (w : Nat → Addr) (kk : Nat → ClassId) (iw : Nat → Int32) (vw : Nat → Value) (o1 : Addr) (p1 : Int32) (kc_o1 : ClassId) (h0 : Heap) (n0 : Nat) (v : Option Value) (h : Heap) (L : List Loc) : Prop := ∃ (vx1 : List Value), v = some (.int (5 : Int32)) ∧ Fr n0 L ∧ Keep h0 h [o1] ∧ Exa Z h o1 "[B" ∧ Arv Z h o1 kc_o1 .byte (11 : Int32) vx1 (.int (0 : Int32))
theorem pn_0 : plainName s_1 = true := by first | (simp [plainName, overriddenIn]; done) | decide +kernel
set_option maxRecDepth 65536 in
set_option maxHeartbeats 40000000 in
theorem rm_2 (l : Launch) (Z : State) (a0 : Array Value) (hw : ∀ d ∈ tables_1, d.before a0 Z = true) (w : Nat → Addr) (kk : Nat → ClassId) (iw : Nat → Int32) (vw : Nat → Value) (hN : Wd Z w kk iw vw) (ws : List Jvm.Cond) (o1 : Addr) (p1 : Int32) (kc_o1 : ClassId) (h0 : Heap) (O0 : Old Z Z.heap.size h0) (gn_o1 : Z.heap.size ≤ o1) (lt_o1 : o1 < h0.size) (E_o1 : Exa Z h0 o1 "[B") (V_o1 : Arv Z h0 o1 kc_o1 .byte (11 : Int32) [] (.int (0 : Int32))) (hp0 : p1 < (0 : Int32)) (hp1 : (p1 / (10000 : Int32)) = (0 : Int32)) :
    Met l Z (⟨s_1, "writeYear", "([BI)I"⟩ : MethodName) (Jvm.Cond.code (⟨s_1, "writeYear", "([BI)I"⟩ : MethodName) prog_22_method_7_code 7 (some .int)) ws (Rm 0 0 0 0) #[(.ref o1), (.int p1)] h0 (Qd_0 Z w kk iw vw o1 p1 kc_o1 h0 Z.heap.size) := by
  have hN' := hN
  obtain ⟨hS0, hE0, hS1, hE1, hS2, hE2, hI0, hJ0, hR0, hRr0, hEq0⟩ := hN'
  refine own_body (plainFor_of_name pn_0) hisR ?_
  intro p e s m below meth c s₁ hx hby hml hown hnm hret X0 hZ e0
  have N0 := Fr.nil Z.heap.size
  have K0 : Keep h0 h0 [o1] := Keep.refl _ _
  have Vc1 := V_o1
  obtain ⟨cl1, Ar1, q1, Sz1, Ng1, Hv1, Gv1⟩ := Vc1
  have hin1 : ¬ ((0 : Int32) < 0 ∨ cl1.slots.size ≤ ((0 : Int32)).toNatClampNeg) := inb_of Sz1 ⟨(by decide : ¬ ((0 : Int32) < (0 : Int32))), (by decide : (0 : Int32) < (11 : Int32))⟩
  obtain ⟨T2, h2, X2, e2, W2, st2⟩ := stB X0 hx hZ e0 Ar1 (j := (0 : Int32)) hin1 (g := (mkF m 8 #[.val (.ref o1), .val (.int p1), .unset, .unset, .unset, .unset, .unset] [(.int (45 : Int32)), (.int (0 : Int32)), (.ref o1)])) rfl rfl (hb hby d1_8)
  obtain ⟨vl2, V_o1_v2⟩ := own_store V_o1 W2 (fits_nar_byte _) ⟨(by decide : ¬ ((0 : Int32) < (0 : Int32))), (by decide : (0 : Int32) < (11 : Int32))⟩
  have N2 := Fr.snoc X2 N0 gn_o1
  have E_o1_v2 := E_o1.wr W2
  have O2 := O0.wr W2 gn_o1
  have K2 : Keep h0 h2 [o1] := K0.wr W2 (Or.inl (List.mem_of_getElem? (i := 0) rfl))
  obtain ⟨T3, L3, vl3_0, z5_3, X3, st3, N3, Kq3, tk3_0, tk3_1⟩ := sg_1 w kk iw vw hN o1 p1 (1 : Int32) p1 (5 : Int32) p1 (4 : Int32) vl2 kc_o1 X2 hx hZ hw hby hml hown e2 O2 N2 gn_o1 E_o1_v2.lt E_o1_v2 V_o1_v2 (by decide : ¬ ((4 : Int32) < (1 : Int32))) (by decide : ¬ ((4 : Int32) < (0 : Int32))) (by decide : (4 : Int32) < (11 : Int32))
  have E_o1_v3 := E_o1_v2.keep Kq3
  have O3 := O2.keep Kq3 (allS gn_o1 all0)
  have K3 : Keep h0 T3.heap [o1] := K2.trans Kq3 (allS (Or.inl (List.mem_of_getElem? (i := 0) rfl)) all0)
  obtain ⟨T4, L4, vl4_0, z5_4, X4, st4, N4, Kq4, tk4_0, tk4_1⟩ := sg_1 w kk iw vw hN o1 p1 (1 : Int32) p1 (5 : Int32) z5_3 (3 : Int32) vl3_0 kc_o1 X3 hx hZ hw hby hml hown rfl O3 N3 gn_o1 tk3_0.lt tk3_0 tk3_1 (by decide : ¬ ((3 : Int32) < (1 : Int32))) (by decide : ¬ ((3 : Int32) < (0 : Int32))) (by decide : (3 : Int32) < (11 : Int32))
  have tk3_0_v4 := tk3_0.keep Kq4
  have O4 := O3.keep Kq4 (allS gn_o1 all0)
  have K4 : Keep h0 T4.heap [o1] := K3.trans Kq4 (allS (Or.inl (List.mem_of_getElem? (i := 0) rfl)) all0)
  obtain ⟨T5, L5, vl5_0, z5_5, X5, st5, N5, Kq5, tk5_0, tk5_1⟩ := sg_1 w kk iw vw hN o1 p1 (1 : Int32) p1 (5 : Int32) z5_4 (2 : Int32) vl4_0 kc_o1 X4 hx hZ hw hby hml hown rfl O4 N4 gn_o1 tk4_0.lt tk4_0 tk4_1 (by decide : ¬ ((2 : Int32) < (1 : Int32))) (by decide : ¬ ((2 : Int32) < (0 : Int32))) (by decide : (2 : Int32) < (11 : Int32))
  have tk4_0_v5 := tk4_0.keep Kq5
  have O5 := O4.keep Kq5 (allS gn_o1 all0)
  have K5 : Keep h0 T5.heap [o1] := K4.trans Kq5 (allS (Or.inl (List.mem_of_getElem? (i := 0) rfl)) all0)
  obtain ⟨T6, L6, vl6_0, z5_6, X6, st6, N6, Kq6, tk6_0, tk6_1⟩ := sg_1 w kk iw vw hN o1 p1 (1 : Int32) p1 (5 : Int32) z5_5 (1 : Int32) vl5_0 kc_o1 X5 hx hZ hw hby hml hown rfl O5 N5 gn_o1 tk5_0.lt tk5_0 tk5_1 (by decide : ¬ ((1 : Int32) < (1 : Int32))) (by decide : ¬ ((1 : Int32) < (0 : Int32))) (by decide : (1 : Int32) < (11 : Int32))
  have tk5_0_v6 := tk5_0.keep Kq6
  have O6 := O5.keep Kq6 (allS gn_o1 all0)
  have K6 : Keep h0 T6.heap [o1] := K5.trans Kq6 (allS (Or.inl (List.mem_of_getElem? (i := 0) rfl)) all0)
  refine ⟨T6, some (.int (5 : Int32)), _, _, _, by decide, by decide, X6, nofun, ⟨vl6_0, rfl, N6, K6, tk6_0, tk6_1⟩, fun fs hr => castTop (ef_0 m (.ref o1) rfl (.int p1) rfl) ?_⟩
  show Steps p.tables e below (s₁.setTop (mkF m 0 #[.val (.ref o1), .val (.int p1), .unset, .unset, .unset, .unset, .unset] [])) _
  refine XS.iloadN X0.here hx rfl (hb hby d1_0) rfl ?_
  refine XS.ifNo X0.here hx rfl (hb hby d1_1) rfl ((if0 _ _).trans (tlt hp0).2.1) ?_
  refine XS.aloadN X0.here hx rfl (hb hby d1_4) rfl rfl ?_
  refine XS.iconst X0.here hx rfl (hb hby d1_5) ?_
  refine XS.bipush X0.here hx rfl (hb hby d1_6) ?_
  refine st2 _ ?_
  refine XS.iconst X2.here hx rfl (hb hby d1_9) ?_
  refine XS.istoreN X2.here hx rfl (hb hby d1_10) rfl (l' := #[.val (.ref o1), .val (.int p1), .val (.int (1 : Int32)), .unset, .unset, .unset, .unset]) rfl ?_
  refine XS.goto X2.here hx rfl (pc0 := 11) (pc' := 33) rfl (hb hby d1_11) (by decide) (by decide) ?_
  refine XS.iloadN X2.here hx rfl (hb hby d1_33) rfl ?_
  show Steps p.tables e below (T2.setTop (mkF m 34 #[.val (.ref o1), .val (.int p1), .val (.int (1 : Int32)), .unset, .unset, .unset, .unset] [(.int p1)])) _
  refine XS.ifNo X2.here hx rfl (hb hby d1_34) rfl ((if0 _ _).trans (tlt hp0).2.1) ?_
  refine XS.iloadN X2.here hx rfl (hb hby d1_37) rfl ?_
  refine XS.goto X2.here hx rfl (pc0 := 38) (pc' := 43) rfl (hb hby d1_38) (by decide) (by decide) ?_
  refine XS.istoreN X2.here hx rfl (hb hby d1_43) rfl (l' := #[.val (.ref o1), .val (.int p1), .val (.int (1 : Int32)), .val (.int p1), .unset, .unset, .unset]) rfl ?_
  refine XS.iloadN X2.here hx rfl (hb hby d1_44) rfl ?_
  refine XS.iconst X2.here hx rfl (hb hby d1_45) ?_
  refine XS.iadd X2.here hx rfl (hb hby d1_46) rfl ?_
  show Steps p.tables e below (T2.setTop (mkF m 47 #[.val (.ref o1), .val (.int p1), .val (.int (1 : Int32)), .val (.int p1), .unset, .unset, .unset] [(.int ((1 : Int32) + (4 : Int32)))])) _
  rw [lf_0]
  refine XS.istore X2.here hx rfl (hb hby d1_47) rfl (l' := #[.val (.ref o1), .val (.int p1), .val (.int (1 : Int32)), .val (.int p1), .val (.int (5 : Int32)), .unset, .unset]) rfl ?_
  refine XS.iloadN X2.here hx rfl (hb hby d1_49) rfl ?_
  refine XS.sipush X2.here hx rfl (hb hby d1_50) ?_
  show Steps p.tables e below (T2.setTop (mkF m 53 #[.val (.ref o1), .val (.int p1), .val (.int (1 : Int32)), .val (.int p1), .val (.int (5 : Int32)), .unset, .unset] [(.int (10000 : Int32)), (.int p1)])) _
  refine XS.idiv X2.here hx rfl (hb hby d1_53) rfl (by decide : ¬ ((10000 : Int32) = (0 : Int32))) ?_
  refine XS.istore X2.here hx rfl (hb hby d1_54) rfl (l' := #[.val (.ref o1), .val (.int p1), .val (.int (1 : Int32)), .val (.int p1), .val (.int (5 : Int32)), .val (.int (p1 / (10000 : Int32))), .unset]) rfl ?_
  refine XS.iload X2.here hx rfl (hb hby d1_56) rfl ?_
  refine XS.ifYes X2.here hx rfl (pc0 := 58) (pc' := 74) rfl (hb hby d1_58) rfl ((if0 _ _).trans (teq hp1).1) (by decide) (by decide) ?_
  refine XS.iloadN X2.here hx rfl (hb hby d1_74) rfl ?_
  refine XS.istore X2.here hx rfl (hb hby d1_75) rfl (l' := #[.val (.ref o1), .val (.int p1), .val (.int (1 : Int32)), .val (.int p1), .val (.int (5 : Int32)), .val (.int p1), .unset]) rfl ?_
  refine XS.iload X2.here hx rfl (hb hby d1_77) rfl ?_
  refine XS.iconst X2.here hx rfl (hb hby d1_79) ?_
  refine XS.isub X2.here hx rfl (hb hby d1_80) rfl ?_
  show Steps p.tables e below (T2.setTop (mkF m 81 #[.val (.ref o1), .val (.int p1), .val (.int (1 : Int32)), .val (.int p1), .val (.int (5 : Int32)), .val (.int p1), .unset] [(.int ((5 : Int32) - (1 : Int32)))])) _
  rw [lf_1]
  refine XS.istore X2.here hx rfl (hb hby d1_81) rfl (l' := #[.val (.ref o1), .val (.int p1), .val (.int (1 : Int32)), .val (.int p1), .val (.int (5 : Int32)), .val (.int p1), .val (.int (4 : Int32))]) rfl ?_
  show Steps p.tables e below (T2.setTop (mkF m 83 #[.val (.ref o1), .val (.int p1), .val (.int (1 : Int32)), .val (.int p1), .val (.int (5 : Int32)), .val (.int p1), .val (.int (4 : Int32))] [])) _
  refine st3 _ ?_
  show Steps p.tables e below (T3.setTop (mkF m 83 #[.val (.ref o1), .val (.int p1), .val (.int (1 : Int32)), .val (.int p1), .val (.int (5 : Int32)), .val (.int z5_3), .val (.int ((4 : Int32) + (-1 : Int32)))] [])) _
  rw [lf_2]
  show Steps p.tables e below (T3.setTop (mkF m 83 #[.val (.ref o1), .val (.int p1), .val (.int (1 : Int32)), .val (.int p1), .val (.int (5 : Int32)), .val (.int z5_3), .val (.int (3 : Int32))] [])) _
  refine st4 _ ?_
  show Steps p.tables e below (T4.setTop (mkF m 83 #[.val (.ref o1), .val (.int p1), .val (.int (1 : Int32)), .val (.int p1), .val (.int (5 : Int32)), .val (.int z5_4), .val (.int ((3 : Int32) + (-1 : Int32)))] [])) _
  rw [lf_3]
  show Steps p.tables e below (T4.setTop (mkF m 83 #[.val (.ref o1), .val (.int p1), .val (.int (1 : Int32)), .val (.int p1), .val (.int (5 : Int32)), .val (.int z5_4), .val (.int (2 : Int32))] [])) _
  refine st5 _ ?_
  show Steps p.tables e below (T5.setTop (mkF m 83 #[.val (.ref o1), .val (.int p1), .val (.int (1 : Int32)), .val (.int p1), .val (.int (5 : Int32)), .val (.int z5_5), .val (.int ((2 : Int32) + (-1 : Int32)))] [])) _
  rw [lf_4]
  show Steps p.tables e below (T5.setTop (mkF m 83 #[.val (.ref o1), .val (.int p1), .val (.int (1 : Int32)), .val (.int p1), .val (.int (5 : Int32)), .val (.int z5_5), .val (.int (1 : Int32))] [])) _
  refine st6 _ ?_
  show Steps p.tables e below (T6.setTop (mkF m 83 #[.val (.ref o1), .val (.int p1), .val (.int (1 : Int32)), .val (.int p1), .val (.int (5 : Int32)), .val (.int z5_6), .val (.int ((1 : Int32) + (-1 : Int32)))] [])) _
  rw [lf_5]
  refine XS.iload X6.here hx rfl (hb hby d1_83) rfl ?_
  refine XS.iloadN X6.here hx rfl (hb hby d1_85) rfl ?_
  refine XS.icmpYes X6.here hx rfl (pc0 := 86) (pc' := 115) rfl (hb hby d1_86) rfl (tlt (by decide : (0 : Int32) < (1 : Int32))).1 (by decide) (by decide) ?_
  refine XS.iload X6.here hx rfl (hb hby d1_115) rfl ?_
  show Steps p.tables e below (T6.setTop (mkF m 117 #[.val (.ref o1), .val (.int p1), .val (.int (1 : Int32)), .val (.int p1), .val (.int (5 : Int32)), .val (.int z5_6), .val (.int (0 : Int32))] [(.int (5 : Int32))])) _
  exact retI X6 hx hret (hb hby d1_117) hr
theorem pd_0 : parseMethodDescriptor "([BI)I" = some ⟨[(.array .byte), .int], some .int⟩ := by decide +kernel
theorem d0_11 : decode prog_22_method_4_code 11 = .ok (.invokestatic 19, 3) := by decide +kernel
theorem d2_0 : decode prog_22_method_9_code 0 = .ok (.new 23, 3) := by decide +kernel
theorem d2_3 : decode prog_22_method_9_code 3 = .ok (.dup, 1) := by decide +kernel
theorem d2_4 : decode prog_22_method_9_code 4 = .ok (.aload_n 0, 1) := by decide +kernel
theorem d2_5 : decode prog_22_method_9_code 5 = .ok (.iconst 0, 1) := by decide +kernel
theorem d2_6 : decode prog_22_method_9_code 6 = .ok (.iload_n 1, 1) := by decide +kernel
theorem d2_7 : decode prog_22_method_9_code 7 = .ok (.getstatic 25, 3) := by decide +kernel
theorem d2_10 : decode prog_22_method_9_code 10 = .ok (.invokespecial 31, 3) := by decide +kernel
theorem d3_0 : decode jdk_42_method_10_code 0 = .ok (.aload_n 0, 1) := by decide +kernel
theorem d3_1 : decode jdk_42_method_10_code 1 = .ok (.aload 4, 2) := by decide +kernel
theorem d3_3 : decode jdk_42_method_10_code 3 = .ok (.invokestatic 78, 3) := by decide +kernel
theorem d4_0 : decode jdk_31_method_10_code 0 = .ok (.aload_n 0, 1) := by decide +kernel
theorem d4_1 : decode jdk_31_method_10_code 1 = .ok (.ifnonnull 11, 3) := by decide +kernel
theorem d4_12 : decode jdk_31_method_10_code 12 = .ok (.aload_n 0, 1) := by decide +kernel
theorem d4_13 : decode jdk_31_method_10_code 13 = .ok (.areturn, 1) := by decide +kernel
theorem ef_1 (m : MethodId) (x0 : Value) (h0 : x0.category = 1) : entryFrame m #[x0] 1 = mkF m 0 #[.val x0] [] := by first | (simp [entryFrame, mkF, argsToLocals, h0]; done) | rfl
theorem pn_1 : plainName s_16 = true := by first | (simp [plainName, overriddenIn]; done) | decide +kernel
set_option maxRecDepth 65536 in
set_option maxHeartbeats 40000000 in
theorem rm_3 (l : Launch) (Z : State) (a0 : Array Value) (hw : ∀ d ∈ tables_1, d.before a0 Z = true) (w : Nat → Addr) (kk : Nat → ClassId) (iw : Nat → Int32) (vw : Nat → Value) (hN : Wd Z w kk iw vw) (ws : List Jvm.Cond)  (h0 : Heap) (O0 : Old Z Z.heap.size h0) :
    Met l Z (⟨s_16, s_17, s_12⟩ : MethodName) (Jvm.Cond.code (⟨s_16, s_17, s_12⟩ : MethodName) jdk_31_method_10_code 1 (some (.object "java/lang/Object"))) ws (Rm 0 0 0 0) #[(.ref (w 0))] h0 (OQ (some (.ref (w 0))) h0 Z.heap.size) := by
  have hN' := hN
  obtain ⟨hS0, hE0, hS1, hE1, hS2, hE2, hI0, hJ0, hR0, hRr0, hEq0⟩ := hN'
  refine own_body (plainFor_of_name pn_1) hisR ?_
  intro p e s m below meth c s₁ hx hby hml hown hnm hret X0 hZ e0
  have N0 := Fr.nil Z.heap.size
  refine ⟨s₁, some (.ref (w 0)), _, _, _, by decide, by decide, X0, nofun, (by rw [e0]; exact ⟨rfl, N0, rfl⟩), fun fs hr => castTop (ef_1 m (.ref (w 0)) rfl) ?_⟩
  show Steps p.tables e below (s₁.setTop (mkF m 0 #[.val (.ref (w 0))] [])) _
  refine XS.aloadN X0.here hx rfl (hb hby d4_0) rfl rfl ?_
  refine XS.ifnonnullYes X0.here hx rfl (pc0 := 1) (pc' := 12) rfl (hb hby d4_1) rfl (by decide) (by decide) ?_
  refine XS.aloadN X0.here hx rfl (hb hby d4_12) rfl rfl ?_
  show Steps p.tables e below (s₁.setTop (mkF m 13 #[.val (.ref (w 0))] [(.ref (w 0))])) _
  exact retOut X0 hx hret rfl (Or.inr (Or.inr (Or.inr (Or.inr ⟨rfl, rfl, rfl⟩)))) (hb hby d4_13) hr
theorem pd_1 : parseMethodDescriptor s_12 = some ⟨[(.object "java/lang/Object")], some (.object "java/lang/Object")⟩ := by decide +kernel
theorem d3_6 : decode jdk_42_method_10_code 6 = .ok (.checkcast 84, 3) := by decide +kernel
theorem d3_9 : decode jdk_42_method_10_code 9 = .ok (.aload_n 1, 1) := by decide +kernel
theorem d3_10 : decode jdk_42_method_10_code 10 = .ok (.iload_n 2, 1) := by decide +kernel
theorem d3_11 : decode jdk_42_method_10_code 11 = .ok (.iload_n 3, 1) := by decide +kernel
theorem d3_12 : decode jdk_42_method_10_code 12 = .ok (.aload_n 1, 1) := by decide +kernel
theorem d3_13 : decode jdk_42_method_10_code 13 = .ok (.arraylength, 1) := by decide +kernel
theorem d3_14 : decode jdk_42_method_10_code 14 = .ok (.invokestatic 34, 3) := by decide +kernel
theorem d5_0 : decode jdk_42_method_157_code 0 = .ok (.iload_n 0, 1) := by decide +kernel
theorem d5_1 : decode jdk_42_method_157_code 1 = .ok (.iload_n 1, 1) := by decide +kernel
theorem d5_2 : decode jdk_42_method_157_code 2 = .ok (.iload_n 2, 1) := by decide +kernel
theorem d5_3 : decode jdk_42_method_157_code 3 = .ok (.getstatic 1053, 3) := by decide +kernel
theorem d5_6 : decode jdk_42_method_157_code 6 = .ok (.invokestatic 1065, 3) := by decide +kernel
theorem d6_0 : decode jdk_41_method_13_code 0 = .ok (.iload_n 2, 1) := by decide +kernel
theorem d6_1 : decode jdk_41_method_13_code 1 = .ok (.iload_n 0, 1) := by decide +kernel
theorem d6_2 : decode jdk_41_method_13_code 2 = .ok (.ior, 1) := by decide +kernel
theorem lf_6 : ((11 : Int32) ||| (0 : Int32)) = (11 : Int32) := by decide
theorem d6_3 : decode jdk_41_method_13_code 3 = .ok (.iload_n 1, 1) := by decide +kernel
theorem d6_4 : decode jdk_41_method_13_code 4 = .ok (.ior, 1) := by decide +kernel
theorem lf_7 : ((11 : Int32) ||| (5 : Int32)) = (15 : Int32) := by decide
theorem d6_5 : decode jdk_41_method_13_code 5 = .ok (.ifCond .lt 10, 3) := by decide +kernel
theorem d6_8 : decode jdk_41_method_13_code 8 = .ok (.iload_n 1, 1) := by decide +kernel
theorem d6_9 : decode jdk_41_method_13_code 9 = .ok (.iload_n 2, 1) := by decide +kernel
theorem d6_10 : decode jdk_41_method_13_code 10 = .ok (.iload_n 0, 1) := by decide +kernel
theorem d6_11 : decode jdk_41_method_13_code 11 = .ok (.isub, 1) := by decide +kernel
theorem lf_8 : ((11 : Int32) - (0 : Int32)) = (11 : Int32) := by decide
theorem d6_12 : decode jdk_41_method_13_code 12 = .ok (.if_icmp .le 11, 3) := by decide +kernel
theorem d6_23 : decode jdk_41_method_13_code 23 = .ok (.iload_n 0, 1) := by decide +kernel
theorem d6_24 : decode jdk_41_method_13_code 24 = .ok (.ireturn, 1) := by decide +kernel
theorem ef_2 (m : MethodId) (x0 : Value) (h0 : x0.category = 1) (x1 : Value) (h1 : x1.category = 1) (x2 : Value) (h2 : x2.category = 1) (x3 : Value) (h3 : x3.category = 1) : entryFrame m #[x0, x1, x2, x3] 4 = mkF m 0 #[.val x0, .val x1, .val x2, .val x3] [] := by first | (simp [entryFrame, mkF, argsToLocals, h0, h1, h2, h3]; done) | rfl
theorem pn_2 : plainName s_6 = true := by first | (simp [plainName, overriddenIn]; done) | decide +kernel
set_option maxRecDepth 65536 in
set_option maxHeartbeats 40000000 in
theorem rm_4 (l : Launch) (Z : State) (a0 : Array Value) (hw : ∀ d ∈ tables_1, d.before a0 Z = true) (w : Nat → Addr) (kk : Nat → ClassId) (iw : Nat → Int32) (vw : Nat → Value) (hN : Wd Z w kk iw vw) (ws : List Jvm.Cond)  (h0 : Heap) (O0 : Old Z Z.heap.size h0) :
    Met l Z (⟨s_6, s_11, s_5⟩ : MethodName) (Jvm.Cond.code (⟨s_6, s_11, s_5⟩ : MethodName) jdk_41_method_13_code 4 (some .int)) ws (Rm 0 0 0 0) #[(.int (0 : Int32)), (.int (5 : Int32)), (.int (11 : Int32)), (vw 0)] h0 (OQ (some (.int (0 : Int32))) h0 Z.heap.size) := by
  have hN' := hN
  obtain ⟨hS0, hE0, hS1, hE1, hS2, hE2, hI0, hJ0, hR0, hRr0, hEq0⟩ := hN'
  refine own_body (plainFor_of_name pn_2) hisR ?_
  intro p e s m below meth c s₁ hx hby hml hown hnm hret X0 hZ e0
  have N0 := Fr.nil Z.heap.size
  refine ⟨s₁, some (.int (0 : Int32)), _, _, _, by decide, by decide, X0, nofun, (by rw [e0]; exact ⟨rfl, N0, rfl⟩), fun fs hr => castTop (ef_2 m (.int (0 : Int32)) rfl (.int (5 : Int32)) rfl (.int (11 : Int32)) rfl (vw 0) (own_cat hRr0)) ?_⟩
  show Steps p.tables e below (s₁.setTop (mkF m 0 #[.val (.int (0 : Int32)), .val (.int (5 : Int32)), .val (.int (11 : Int32)), .val (vw 0)] [])) _
  refine XS.iloadN X0.here hx rfl (hb hby d6_0) rfl ?_
  refine XS.iloadN X0.here hx rfl (hb hby d6_1) rfl ?_
  refine XS.ior X0.here hx rfl (hb hby d6_2) rfl ?_
  show Steps p.tables e below (s₁.setTop (mkF m 3 #[.val (.int (0 : Int32)), .val (.int (5 : Int32)), .val (.int (11 : Int32)), .val (vw 0)] [(.int ((11 : Int32) ||| (0 : Int32)))])) _
  rw [lf_6]
  refine XS.iloadN X0.here hx rfl (hb hby d6_3) rfl ?_
  refine XS.ior X0.here hx rfl (hb hby d6_4) rfl ?_
  show Steps p.tables e below (s₁.setTop (mkF m 5 #[.val (.int (0 : Int32)), .val (.int (5 : Int32)), .val (.int (11 : Int32)), .val (vw 0)] [(.int ((11 : Int32) ||| (5 : Int32)))])) _
  rw [lf_7]
  refine XS.ifNo X0.here hx rfl (hb hby d6_5) rfl ((if0 _ _).trans (flt (by decide : ¬ ((15 : Int32) < (0 : Int32)))).1) ?_
  refine XS.iloadN X0.here hx rfl (hb hby d6_8) rfl ?_
  refine XS.iloadN X0.here hx rfl (hb hby d6_9) rfl ?_
  refine XS.iloadN X0.here hx rfl (hb hby d6_10) rfl ?_
  refine XS.isub X0.here hx rfl (hb hby d6_11) rfl ?_
  show Steps p.tables e below (s₁.setTop (mkF m 12 #[.val (.int (0 : Int32)), .val (.int (5 : Int32)), .val (.int (11 : Int32)), .val (vw 0)] [(.int ((11 : Int32) - (0 : Int32))), (.int (5 : Int32))])) _
  rw [lf_8]
  show Steps p.tables e below (s₁.setTop (mkF m 12 #[.val (.int (0 : Int32)), .val (.int (5 : Int32)), .val (.int (11 : Int32)), .val (vw 0)] [(.int (11 : Int32)), (.int (5 : Int32))])) _
  refine XS.icmpYes X0.here hx rfl (pc0 := 12) (pc' := 23) rfl (hb hby d6_12) rfl (flt (by decide : ¬ ((11 : Int32) < (5 : Int32)))).2.2.2 (by decide) (by decide) ?_
  refine XS.iloadN X0.here hx rfl (hb hby d6_23) rfl ?_
  show Steps p.tables e below (s₁.setTop (mkF m 24 #[.val (.int (0 : Int32)), .val (.int (5 : Int32)), .val (.int (11 : Int32)), .val (vw 0)] [(.int (0 : Int32))])) _
  exact retI X0 hx hret (hb hby d6_24) hr
theorem pd_2 : parseMethodDescriptor s_5 = some ⟨[.int, .int, .int, (.object "java/util/function/BiFunction")], some .int⟩ := by decide +kernel
theorem d5_9 : decode jdk_42_method_157_code 9 = .ok (.ireturn, 1) := by decide +kernel
theorem ef_3 (m : MethodId) (x0 : Value) (h0 : x0.category = 1) (x1 : Value) (h1 : x1.category = 1) (x2 : Value) (h2 : x2.category = 1) : entryFrame m #[x0, x1, x2] 3 = mkF m 0 #[.val x0, .val x1, .val x2] [] := by first | (simp [entryFrame, mkF, argsToLocals, h0, h1, h2]; done) | rfl
theorem pn_3 : plainName s_0 = true := by first | (simp [plainName, overriddenIn]; done) | decide +kernel
set_option maxRecDepth 65536 in
set_option maxHeartbeats 40000000 in
theorem rm_5 (l : Launch) (Z : State) (a0 : Array Value) (hw : ∀ d ∈ tables_1, d.before a0 Z = true) (w : Nat → Addr) (kk : Nat → ClassId) (iw : Nat → Int32) (vw : Nat → Value) (hN : Wd Z w kk iw vw) (ws : List Jvm.Cond)  (h0 : Heap) (O0 : Old Z Z.heap.size h0) :
    Met l Z (⟨s_0, s_10, "(III)I"⟩ : MethodName) (Jvm.Cond.code (⟨s_0, s_10, "(III)I"⟩ : MethodName) jdk_42_method_157_code 3 (some .int)) ws (Rm 1 0 0 15) #[(.int (0 : Int32)), (.int (5 : Int32)), (.int (11 : Int32))] h0 (OQ (some (.int (0 : Int32))) h0 Z.heap.size) := by
  have hN' := hN
  obtain ⟨hS0, hE0, hS1, hE1, hS2, hE2, hI0, hJ0, hR0, hRr0, hEq0⟩ := hN'
  refine own_body (plainFor_of_name pn_3) hisR ?_
  intro p e s m below meth c s₁ hx hby hml hown hnm hret X0 hZ e0
  have N0 := Fr.nil Z.heap.size
  obtain ⟨T1, X1, e1, st1⟩ := getS2 X0 hx hZ hown (host := "") (Or.inl (W hw 28 rfl)) Via.refl e0 (hR0.ext O0.2) (g := (mkF m 3 #[.val (.int (0 : Int32)), .val (.int (5 : Int32)), .val (.int (11 : Int32))] [(.int (11 : Int32)), (.int (5 : Int32)), (.int (0 : Int32))])) rfl (hb hby d5_3)
  obtain ⟨_, _, ⟨T2, L2, k2, n2⟩, -, X2, ⟨Lc2, hQ2, l2, y2, z2⟩, st2⟩ := Jvm.LawKit.callS X1 hx (y := (⟨s_6, s_11, s_5⟩ : MethodName)) hown (mvT hZ (W hw 30 rfl)) (mvT hZ (W hw 31 rfl)) (mvT hZ (W hw 29 rfl)) (mvT hZ (W hw 32 rfl)) (by decide) (backOf (W := 0) (rm_4 l Z a0 hw w kk iw vw hN [] h0 O0) hZ (W hw 32 rfl) (W hw 29 rfl) (by decide) (by decide)) (g := (mkF m 6 #[.val (.int (0 : Int32)), .val (.int (5 : Int32)), .val (.int (11 : Int32))] [(vw 0), (.int (11 : Int32)), (.int (5 : Int32)), (.int (0 : Int32))])) rfl (by rw [hml]; rfl) (argsL := [(.int (0 : Int32)), (.int (5 : Int32)), (.int (11 : Int32)), (vw 0)]) (rest := []) (lenOf pd_2 rfl) rfl (by show 2 * 0 + _ ≤ _; exact Nat.le_of_eq rfl) (hb hby d5_6) (fun _ _ => ⟨rfl, e1, (by decide : 0 + 0 ≤ _), (by decide : 0 + 0 ≤ _)⟩)
  dsimp only [Pt.U, Pt.locs, Pt.cells, Pt.slots] at X2 l2 y2 z2 st2 hQ2
  subst l2 y2 z2
  obtain ⟨rfl, N2q, e2⟩ := hQ2
  have N2 := Fr.app N0 N2q
  refine ⟨T2, some (.int (0 : Int32)), _, _, _, by decide, by decide, X2, nofun, (by rw [e2]; exact ⟨rfl, N2, rfl⟩), fun fs hr => castTop (ef_3 m (.int (0 : Int32)) rfl (.int (5 : Int32)) rfl (.int (11 : Int32)) rfl) ?_⟩
  show Steps p.tables e below (s₁.setTop (mkF m 0 #[.val (.int (0 : Int32)), .val (.int (5 : Int32)), .val (.int (11 : Int32))] [])) _
  refine XS.iloadN X0.here hx rfl (hb hby d5_0) rfl ?_
  refine XS.iloadN X0.here hx rfl (hb hby d5_1) rfl ?_
  refine XS.iloadN X0.here hx rfl (hb hby d5_2) rfl ?_
  refine st1 _ ?_
  refine st2 _ ?_
  show Steps p.tables e below (T2.setTop (mkF m 9 #[.val (.int (0 : Int32)), .val (.int (5 : Int32)), .val (.int (11 : Int32))] [(.int (0 : Int32))])) _
  exact retI X2 hx hret (hb hby d5_9) hr
theorem pd_3 : parseMethodDescriptor "(III)I" = some ⟨[.int, .int, .int], some .int⟩ := by decide +kernel
theorem d3_17 : decode jdk_42_method_10_code 17 = .ok (.iload_n 3, 1) := by decide +kernel
theorem d3_18 : decode jdk_42_method_10_code 18 = .ok (.invokespecial 75, 3) := by decide +kernel
theorem d7_0 : decode jdk_42_method_11_code 0 = .ok (.aload_n 0, 1) := by decide +kernel
theorem d7_1 : decode jdk_42_method_11_code 1 = .ok (.invokespecial 1, 3) := by decide +kernel
theorem d7_4 : decode jdk_42_method_11_code 4 = .ok (.iload 4, 2) := by decide +kernel
theorem d7_6 : decode jdk_42_method_11_code 6 = .ok (.ifCond .ne 24, 3) := by decide +kernel
theorem d7_30 : decode jdk_42_method_11_code 30 = .ok (.aload_n 1, 1) := by decide +kernel
theorem d7_31 : decode jdk_42_method_11_code 31 = .ok (.getstatic 86, 3) := by decide +kernel
theorem d7_34 : decode jdk_42_method_11_code 34 = .ok (.if_acmp .ne 312, 3) := by decide +kernel
theorem d7_346 : decode jdk_42_method_11_code 346 = .ok (.aload_n 1, 1) := by decide +kernel
theorem d7_347 : decode jdk_42_method_11_code 347 = .ok (.getstatic 116, 3) := by decide +kernel
theorem d7_350 : decode jdk_42_method_11_code 350 = .ok (.if_acmp .ne 49, 3) := by decide +kernel
theorem d7_353 : decode jdk_42_method_11_code 353 = .ok (.getstatic 38, 3) := by decide +kernel
theorem d7_356 : decode jdk_42_method_11_code 356 = .ok (.ifCond .eq 24, 3) := by decide +kernel
theorem d7_359 : decode jdk_42_method_11_code 359 = .ok (.aload_n 0, 1) := by decide +kernel
theorem d7_360 : decode jdk_42_method_11_code 360 = .ok (.aload_n 2, 1) := by decide +kernel
theorem d7_361 : decode jdk_42_method_11_code 361 = .ok (.iload_n 3, 1) := by decide +kernel
theorem d7_362 : decode jdk_42_method_11_code 362 = .ok (.iload_n 3, 1) := by decide +kernel
theorem d7_363 : decode jdk_42_method_11_code 363 = .ok (.iload 4, 2) := by decide +kernel
theorem d7_365 : decode jdk_42_method_11_code 365 = .ok (.iadd, 1) := by decide +kernel
theorem lf_9 : ((0 : Int32) + (5 : Int32)) = (5 : Int32) := by decide
theorem d7_366 : decode jdk_42_method_11_code 366 = .ok (.invokestatic 54, 3) := by decide +kernel
theorem d8_0 : decode jdk_65_method_132_code 0 = .ok (.iload_n 1, 1) := by decide +kernel
theorem d8_1 : decode jdk_65_method_132_code 1 = .ok (.ifCond .ne 9, 3) := by decide +kernel
theorem d8_4 : decode jdk_65_method_132_code 4 = .ok (.iload_n 2, 1) := by decide +kernel
theorem d8_5 : decode jdk_65_method_132_code 5 = .ok (.aload_n 0, 1) := by decide +kernel
theorem d8_6 : decode jdk_65_method_132_code 6 = .ok (.arraylength, 1) := by decide +kernel
theorem d8_7 : decode jdk_65_method_132_code 7 = .ok (.if_icmp .eq 10, 3) := by decide +kernel
theorem d8_10 : decode jdk_65_method_132_code 10 = .ok (.aload_n 0, 1) := by decide +kernel
theorem d8_11 : decode jdk_65_method_132_code 11 = .ok (.iload_n 1, 1) := by decide +kernel
theorem d8_12 : decode jdk_65_method_132_code 12 = .ok (.iload_n 2, 1) := by decide +kernel
theorem d8_13 : decode jdk_65_method_132_code 13 = .ok (.invokestatic 339, 3) := by decide +kernel
theorem d9_0 : decode jdk_65_method_133_code 0 = .ok (.iload_n 1, 1) := by decide +kernel
theorem d9_1 : decode jdk_65_method_133_code 1 = .ok (.iload_n 2, 1) := by decide +kernel
theorem d9_2 : decode jdk_65_method_133_code 2 = .ok (.invokestatic 343, 3) := by decide +kernel
theorem d10_0 : decode jdk_65_method_131_code 0 = .ok (.iload_n 1, 1) := by decide +kernel
theorem d10_1 : decode jdk_65_method_131_code 1 = .ok (.iload_n 0, 1) := by decide +kernel
theorem d10_2 : decode jdk_65_method_131_code 2 = .ok (.if_icmp .ge 35, 3) := by decide +kernel
theorem d10_37 : decode jdk_65_method_131_code 37 = .ok (.return_, 1) := by decide +kernel
theorem ef_4 (m : MethodId) (x0 : Value) (h0 : x0.category = 1) (x1 : Value) (h1 : x1.category = 1) : entryFrame m #[x0, x1] 2 = mkF m 0 #[.val x0, .val x1] [] := by first | (simp [entryFrame, mkF, argsToLocals, h0, h1]; done) | rfl
theorem pn_4 : plainName s_2 = true := by first | (simp [plainName, overriddenIn]; done) | decide +kernel
set_option maxRecDepth 65536 in
set_option maxHeartbeats 40000000 in
theorem rm_6 (l : Launch) (Z : State) (a0 : Array Value) (hw : ∀ d ∈ tables_1, d.before a0 Z = true) (w : Nat → Addr) (kk : Nat → ClassId) (iw : Nat → Int32) (vw : Nat → Value) (hN : Wd Z w kk iw vw) (ws : List Jvm.Cond)  (h0 : Heap) (O0 : Old Z Z.heap.size h0) :
    Met l Z (⟨s_2, "checkLength", "(II)V"⟩ : MethodName) (Jvm.Cond.code (⟨s_2, "checkLength", "(II)V"⟩ : MethodName) jdk_65_method_131_code 2 none) ws (Rm 0 0 0 0) #[(.int (0 : Int32)), (.int (5 : Int32))] h0 (OQ (none) h0 Z.heap.size) := by
  have hN' := hN
  obtain ⟨hS0, hE0, hS1, hE1, hS2, hE2, hI0, hJ0, hR0, hRr0, hEq0⟩ := hN'
  refine own_body (plainFor_of_name pn_4) hisR ?_
  intro p e s m below meth c s₁ hx hby hml hown hnm hret X0 hZ e0
  have N0 := Fr.nil Z.heap.size
  refine ⟨s₁, none, _, _, _, by decide, by decide, X0, (fun _ => rfl), (by rw [e0]; exact ⟨rfl, N0, rfl⟩), fun fs hr => castTop (ef_4 m (.int (0 : Int32)) rfl (.int (5 : Int32)) rfl) ?_⟩
  show Steps p.tables e below (s₁.setTop (mkF m 0 #[.val (.int (0 : Int32)), .val (.int (5 : Int32))] [])) _
  refine XS.iloadN X0.here hx rfl (hb hby d10_0) rfl ?_
  refine XS.iloadN X0.here hx rfl (hb hby d10_1) rfl ?_
  refine XS.icmpYes X0.here hx rfl (pc0 := 2) (pc' := 37) rfl (hb hby d10_2) rfl (flt (by decide : ¬ ((5 : Int32) < (0 : Int32)))).2.1 (by decide) (by decide) ?_
  show Steps p.tables e below (s₁.setTop (mkF m 37 #[.val (.int (0 : Int32)), .val (.int (5 : Int32))] [])) _
  exact X0.returnOut hx hret (hb hby d10_37) hr
theorem pd_4 : parseMethodDescriptor "(II)V" = some ⟨[.int, .int], none⟩ := by decide +kernel
theorem d9_5 : decode jdk_65_method_133_code 5 = .ok (.iload_n 2, 1) := by decide +kernel
theorem d9_6 : decode jdk_65_method_133_code 6 = .ok (.iload_n 1, 1) := by decide +kernel
theorem d9_7 : decode jdk_65_method_133_code 7 = .ok (.isub, 1) := by decide +kernel
theorem lf_10 : ((5 : Int32) - (0 : Int32)) = (5 : Int32) := by decide
theorem d9_8 : decode jdk_65_method_133_code 8 = .ok (.istore_n 3, 1) := by decide +kernel
theorem d9_9 : decode jdk_65_method_133_code 9 = .ok (.iload_n 3, 1) := by decide +kernel
theorem d9_10 : decode jdk_65_method_133_code 10 = .ok (.newarray .byte, 2) := by decide +kernel
theorem d9_12 : decode jdk_65_method_133_code 12 = .ok (.astore 4, 2) := by decide +kernel
theorem d9_14 : decode jdk_65_method_133_code 14 = .ok (.aload_n 0, 1) := by decide +kernel
theorem d9_15 : decode jdk_65_method_133_code 15 = .ok (.iload_n 1, 1) := by decide +kernel
theorem d9_16 : decode jdk_65_method_133_code 16 = .ok (.aload 4, 2) := by decide +kernel
theorem d9_18 : decode jdk_65_method_133_code 18 = .ok (.iconst 0, 1) := by decide +kernel
theorem d9_19 : decode jdk_65_method_133_code 19 = .ok (.aload_n 0, 1) := by decide +kernel
theorem d9_20 : decode jdk_65_method_133_code 20 = .ok (.arraylength, 1) := by decide +kernel
theorem d9_21 : decode jdk_65_method_133_code 21 = .ok (.iload_n 1, 1) := by decide +kernel
theorem d9_22 : decode jdk_65_method_133_code 22 = .ok (.isub, 1) := by decide +kernel
theorem d9_23 : decode jdk_65_method_133_code 23 = .ok (.iload_n 3, 1) := by decide +kernel
theorem d9_24 : decode jdk_65_method_133_code 24 = .ok (.invokestatic 304, 3) := by decide +kernel
theorem d11_0 : decode jdk_29_method_69_code 0 = .ok (.iload_n 0, 1) := by decide +kernel
theorem d11_1 : decode jdk_29_method_69_code 1 = .ok (.iload_n 1, 1) := by decide +kernel
theorem d11_2 : decode jdk_29_method_69_code 2 = .ok (.if_icmp .gt 7, 3) := by decide +kernel
theorem d11_9 : decode jdk_29_method_69_code 9 = .ok (.iload_n 1, 1) := by decide +kernel
theorem d11_10 : decode jdk_29_method_69_code 10 = .ok (.ireturn, 1) := by decide +kernel
set_option maxRecDepth 65536 in
set_option maxHeartbeats 40000000 in
theorem rm_7 (l : Launch) (Z : State) (a0 : Array Value) (hw : ∀ d ∈ tables_1, d.before a0 Z = true) (w : Nat → Addr) (kk : Nat → ClassId) (iw : Nat → Int32) (vw : Nat → Value) (hN : Wd Z w kk iw vw) (ws : List Jvm.Cond)  (h0 : Heap) (O0 : Old Z Z.heap.size h0) :
    Met l Z (⟨s_14, "min", "(II)I"⟩ : MethodName) (Jvm.Cond.code (⟨s_14, "min", "(II)I"⟩ : MethodName) jdk_29_method_69_code 2 (some .int)) ws (Rm 0 0 0 0) #[(.int (11 : Int32)), (.int (5 : Int32))] h0 (OQ (some (.int (5 : Int32))) h0 Z.heap.size) := by
  have hN' := hN
  obtain ⟨hS0, hE0, hS1, hE1, hS2, hE2, hI0, hJ0, hR0, hRr0, hEq0⟩ := hN'
  refine own_body (Jvm.Free.JP.mathPlain rfl (by decide +kernel)) hisR ?_
  intro p e s m below meth c s₁ hx hby hml hown hnm hret X0 hZ e0
  have N0 := Fr.nil Z.heap.size
  refine ⟨s₁, some (.int (5 : Int32)), _, _, _, by decide, by decide, X0, nofun, (by rw [e0]; exact ⟨rfl, N0, rfl⟩), fun fs hr => castTop (ef_4 m (.int (11 : Int32)) rfl (.int (5 : Int32)) rfl) ?_⟩
  show Steps p.tables e below (s₁.setTop (mkF m 0 #[.val (.int (11 : Int32)), .val (.int (5 : Int32))] [])) _
  refine XS.iloadN X0.here hx rfl (hb hby d11_0) rfl ?_
  refine XS.iloadN X0.here hx rfl (hb hby d11_1) rfl ?_
  refine XS.icmpYes X0.here hx rfl (pc0 := 2) (pc' := 9) rfl (hb hby d11_2) rfl (tlt (by decide : (5 : Int32) < (11 : Int32))).2.2.1 (by decide) (by decide) ?_
  refine XS.iloadN X0.here hx rfl (hb hby d11_9) rfl ?_
  show Steps p.tables e below (s₁.setTop (mkF m 10 #[.val (.int (11 : Int32)), .val (.int (5 : Int32))] [(.int (5 : Int32))])) _
  exact retI X0 hx hret (hb hby d11_10) hr
theorem pd_5 : parseMethodDescriptor "(II)I" = some ⟨[.int, .int], some .int⟩ := by decide +kernel
theorem d9_27 : decode jdk_65_method_133_code 27 = .ok (.invokestatic 150, 3) := by decide +kernel
theorem d9_30 : decode jdk_65_method_133_code 30 = .ok (.aload 4, 2) := by decide +kernel
theorem d9_32 : decode jdk_65_method_133_code 32 = .ok (.areturn, 1) := by decide +kernel
theorem ef_5 (m : MethodId) (x0 : Value) (h0 : x0.category = 1) (x1 : Value) (h1 : x1.category = 1) (x2 : Value) (h2 : x2.category = 1) : entryFrame m #[x0, x1, x2] 5 = mkF m 0 #[.val x0, .val x1, .val x2, .unset, .unset] [] := by first | (simp [entryFrame, mkF, argsToLocals, h0, h1, h2]; done) | rfl
def Qd_1 (Z : State) (w : Nat → Addr) (kk : Nat → ClassId) (iw : Nat → Int32) (vw : Nat → Value) (o1 : Addr) (vl_o1 : List Value) (kc_o1 : ClassId) (h0 : Heap) (n0 : Nat) (v : Option Value) (h : Heap) (L : List Loc) : Prop := ∃ (c1 : Addr) (kc1 : ClassId) (vx1 : List Value), v = some (.ref c1) ∧ Fr n0 L ∧ Keep h0 h [] ∧ h0.size ≤ c1 ∧ Exa Z h c1 "[B" ∧ Arv Z h c1 kc1 .byte (5 : Int32) vx1 (.int (0 : Int32))
set_option maxRecDepth 65536 in
set_option maxHeartbeats 40000000 in
theorem rm_8 (l : Launch) (Z : State) (a0 : Array Value) (hw : ∀ d ∈ tables_1, d.before a0 Z = true) (w : Nat → Addr) (kk : Nat → ClassId) (iw : Nat → Int32) (vw : Nat → Value) (hN : Wd Z w kk iw vw) (ws : List Jvm.Cond) (o1 : Addr) (vl_o1 : List Value) (kc_o1 : ClassId) (h0 : Heap) (O0 : Old Z Z.heap.size h0) (gn_o1 : Z.heap.size ≤ o1) (lt_o1 : o1 < h0.size) (E_o1 : Exa Z h0 o1 "[B") (V_o1 : Arv Z h0 o1 kc_o1 .byte (11 : Int32) vl_o1 (.int (0 : Int32))) :
    Met l Z (⟨s_2, s_13, "([BII)[B"⟩ : MethodName) (Jvm.Cond.code (⟨s_2, s_13, "([BII)[B"⟩ : MethodName) jdk_65_method_133_code 5 (some (.array .byte))) ws (Rm 1 1 5 18) #[(.ref o1), (.int (0 : Int32)), (.int (5 : Int32))] h0 (Qd_1 Z w kk iw vw o1 vl_o1 kc_o1 h0 Z.heap.size) := by
  have hN' := hN
  obtain ⟨hS0, hE0, hS1, hE1, hS2, hE2, hI0, hJ0, hR0, hRr0, hEq0⟩ := hN'
  refine own_body (plainFor_of_name pn_4) hisR ?_
  intro p e s m below meth c s₁ hx hby hml hown hnm hret X0 hZ e0
  have N0 := Fr.nil Z.heap.size
  have K0 : Keep h0 h0 [] := Keep.refl _ _
  obtain ⟨_, _, ⟨T1, L1, k1, n1⟩, -, X1, ⟨Lc1, hQ1, l1, y1, z1⟩, st1⟩ := Jvm.LawKit.callS X0 hx (y := (⟨s_2, "checkLength", "(II)V"⟩ : MethodName)) hown (mvT hZ (W hw 52 rfl)) (mvT hZ (W hw 53 rfl)) (mvT hZ (W hw 47 rfl)) (mvT hZ (W hw 54 rfl)) (by decide) (backOf (W := 0) (rm_6 l Z a0 hw w kk iw vw hN [] h0 O0) hZ (W hw 54 rfl) (W hw 47 rfl) (by decide) (by decide)) (g := (mkF m 2 #[.val (.ref o1), .val (.int (0 : Int32)), .val (.int (5 : Int32)), .unset, .unset] [(.int (5 : Int32)), (.int (0 : Int32))])) rfl (by rw [hml]; rfl) (argsL := [(.int (0 : Int32)), (.int (5 : Int32))]) (rest := []) (lenOf pd_4 rfl) rfl (by show 2 * 0 + _ ≤ _; exact Nat.le_of_eq rfl) (hb hby d9_2) (fun _ _ => ⟨rfl, e0, (by decide : 0 + 0 ≤ _), (by decide : 0 + 0 ≤ _)⟩)
  dsimp only [Pt.U, Pt.locs, Pt.cells, Pt.slots] at X1 l1 y1 z1 st1 hQ1
  subst l1 y1 z1
  obtain ⟨rfl, N1q, e1⟩ := hQ1
  have N1 := Fr.app N0 N1q
  obtain ⟨T2, h2, k2, X2, e2, E2, A2, AE2, st2⟩ := newPE X1 hx hZ (W hw 4 rfl) e1 (g := (mkF m 10 #[.val (.ref o1), .val (.int (0 : Int32)), .val (.int (5 : Int32)), .val (.int (5 : Int32)), .unset] [(.int (5 : Int32))])) rfl (hb hby d9_10) rfl (by decide) (cap := 5) (by decide) (by decide) (by decide) (by decide) (ad := "[B") rfl
  obtain ⟨b2, g2⟩ : ∃ z, z = h0.size := ⟨_, rfl⟩
  rw [← g2] at A2 st2 AE2
  have gn_b2 : Z.heap.size ≤ b2 := Nat.le_trans O0.2.1 (Nat.le_of_eq g2.symm)
  have sz_b2 : h0.size ≤ b2 := Nat.le_trans K0.1 (Nat.le_of_eq g2.symm)
  have ne_o1_b2 : o1 ≠ b2 := Nat.ne_of_lt (Nat.lt_of_lt_of_le E_o1.lt (Nat.le_of_eq g2.symm))
  have E_o1_v2 := E_o1.ext E2
  have V_o1_v2 := V_o1.ext E2
  have O2 := O0.ext E2
  have K2 := K0.ext E2
  have E_b2_v2 := AE2
  have V_b2_v2 : Arv Z h2 b2 k2 .byte (5 : Int32) [] (.int (0 : Int32)) := Arv.new A2 (by decide)
  obtain ⟨cl3, Ar3, q3, Sz3, Ng3, Hv3, Gv3⟩ := id V_o1_v2
  obtain ⟨_, _, ⟨T4, L4, k4, n4⟩, -, X4, ⟨Lc4, hQ4, l4, y4, z4⟩, st4⟩ := Jvm.LawKit.callS X2 hx (y := (⟨s_14, "min", "(II)I"⟩ : MethodName)) hown (mvT hZ (W hw 55 rfl)) (mvT hZ (W hw 56 rfl)) (mvT hZ (W hw 57 rfl)) (mvT hZ (W hw 58 rfl)) (by decide) (backOf (W := 4) (rm_7 l Z a0 hw w kk iw vw hN [] h2 O2) hZ (W hw 58 rfl) (W hw 57 rfl) (by decide) (by decide)) (g := (mkF m 24 #[.val (.ref o1), .val (.int (0 : Int32)), .val (.int (5 : Int32)), .val (.int (5 : Int32)), .val (.ref b2)] [(.int (5 : Int32)), (.int (11 : Int32)), (.int (0 : Int32)), (.ref b2), (.int (0 : Int32)), (.ref o1)])) rfl (by rw [hml]; rfl) (argsL := [(.int (11 : Int32)), (.int (5 : Int32))]) (rest := [(.int (0 : Int32)), (.ref b2), (.int (0 : Int32)), (.ref o1)]) (lenOf pd_5 rfl) rfl (by show 2 * 0 + _ ≤ _; exact Nat.le_of_eq rfl) (hb hby d9_24) (fun _ _ => ⟨rfl, e2, (by decide : 1 + 0 ≤ _), (by decide : 5 + 0 ≤ _)⟩)
  dsimp only [Pt.U, Pt.locs, Pt.cells, Pt.slots] at X4 l4 y4 z4 st4 hQ4
  subst l4 y4 z4
  obtain ⟨rfl, N4q, e4⟩ := hQ4
  have N4 := Fr.app N1 N4q
  have V_b2_v5 : Arv Z h2 b2 k2 .byte (5 : Int32) [(.int (0 : Int32)), (.int (0 : Int32)), (.int (0 : Int32)), (.int (0 : Int32)), (.int (0 : Int32))] (.int (0 : Int32)) := V_b2_v2.pad (pad_rep [] (.int (0 : Int32)) 5)
  obtain ⟨T6, h6, L6, X6, e6, N6, Kq6, Vc6, st6⟩ := cpA X4 hx hZ hown (W hw 59 rfl) (W hw 62 rfl) (W hw 60 rfl) (W hw 61 rfl) e4 V_o1_v2 V_b2_v5  (Or.inl ⟨rfl, rfl⟩) (by decide) (by decide) (by decide) (by decide) (by decide) rfl (by decide) N4 gn_b2 (g := (mkF m 27 #[.val (.ref o1), .val (.int (0 : Int32)), .val (.int (5 : Int32)), .val (.int (5 : Int32)), .val (.ref b2)] [(.int (5 : Int32)), (.int (0 : Int32)), (.ref b2), (.int (0 : Int32)), (.ref o1)])) rfl (by rw [hml]; rfl) rfl (hb hby d9_27) (by decide) (W := 0) (by show 2 * 0 + _ ≤ _; exact Nat.le_of_eq rfl) (by decide)
  have E_o1_v6 := E_o1_v2.keep Kq6
  have V_o1_v6 := V_o1_v2.keep Kq6 (ninS ne_o1_b2 nin0)
  have E_b2_v6 := E_b2_v2.keep Kq6
  have O6 := O2.keep Kq6 (allS gn_b2 all0)
  have K6 : Keep h0 h6 [] := K2.trans Kq6 (allS (Or.inr sz_b2) all0)
  obtain ⟨vl6, V_b2_v6⟩ : ∃ vs, Arv Z h6 b2 k2 .byte (5 : Int32) vs (.int (0 : Int32)) := ⟨_, Vc6⟩
  refine ⟨T6, some (.ref b2), _, _, _, by decide, by decide, X6, nofun, (by rw [e6]; exact ⟨b2, k2, vl6, rfl, N6, K6, sz_b2, E_b2_v6, V_b2_v6⟩), fun fs hr => castTop (ef_5 m (.ref o1) rfl (.int (0 : Int32)) rfl (.int (5 : Int32)) rfl) ?_⟩
  show Steps p.tables e below (s₁.setTop (mkF m 0 #[.val (.ref o1), .val (.int (0 : Int32)), .val (.int (5 : Int32)), .unset, .unset] [])) _
  refine XS.iloadN X0.here hx rfl (hb hby d9_0) rfl ?_
  refine XS.iloadN X0.here hx rfl (hb hby d9_1) rfl ?_
  refine st1 _ ?_
  refine XS.iloadN X1.here hx rfl (hb hby d9_5) rfl ?_
  refine XS.iloadN X1.here hx rfl (hb hby d9_6) rfl ?_
  refine XS.isub X1.here hx rfl (hb hby d9_7) rfl ?_
  show Steps p.tables e below (T1.setTop (mkF m 8 #[.val (.ref o1), .val (.int (0 : Int32)), .val (.int (5 : Int32)), .unset, .unset] [(.int ((5 : Int32) - (0 : Int32)))])) _
  rw [lf_10]
  refine XS.istoreN X1.here hx rfl (hb hby d9_8) rfl (l' := #[.val (.ref o1), .val (.int (0 : Int32)), .val (.int (5 : Int32)), .val (.int (5 : Int32)), .unset]) rfl ?_
  refine XS.iloadN X1.here hx rfl (hb hby d9_9) rfl ?_
  refine st2 _ ?_
  refine XS.astore X2.here hx rfl (hb hby d9_12) rfl rfl (l' := #[.val (.ref o1), .val (.int (0 : Int32)), .val (.int (5 : Int32)), .val (.int (5 : Int32)), .val (.ref b2)]) rfl ?_
  show Steps p.tables e below (T2.setTop (mkF m 14 #[.val (.ref o1), .val (.int (0 : Int32)), .val (.int (5 : Int32)), .val (.int (5 : Int32)), .val (.ref b2)] [])) _
  refine XS.aloadN X2.here hx rfl (hb hby d9_14) rfl rfl ?_
  refine XS.iloadN X2.here hx rfl (hb hby d9_15) rfl ?_
  refine XS.aload X2.here hx rfl (hb hby d9_16) rfl rfl ?_
  refine XS.iconst X2.here hx rfl (hb hby d9_18) ?_
  refine XS.aloadN X2.here hx rfl (hb hby d9_19) rfl rfl ?_
  refine X2.arraylength hx (by rw [e2]; exact Ar3.1) (State.isArrayOf_alike hZ.alike Ar3.2.1) (g := (mkF m 20 #[.val (.ref o1), .val (.int (0 : Int32)), .val (.int (5 : Int32)), .val (.int (5 : Int32)), .val (.ref b2)] [(.ref o1), (.int (0 : Int32)), (.ref b2), (.int (0 : Int32)), (.ref o1)])) rfl rfl (hb hby d9_20) _ ?_
  rw [len_of Sz3 Ng3]
  refine XS.iloadN X2.here hx rfl (hb hby d9_21) rfl ?_
  refine XS.isub X2.here hx rfl (hb hby d9_22) rfl ?_
  show Steps p.tables e below (T2.setTop (mkF m 23 #[.val (.ref o1), .val (.int (0 : Int32)), .val (.int (5 : Int32)), .val (.int (5 : Int32)), .val (.ref b2)] [(.int ((11 : Int32) - (0 : Int32))), (.int (0 : Int32)), (.ref b2), (.int (0 : Int32)), (.ref o1)])) _
  rw [lf_8]
  refine XS.iloadN X2.here hx rfl (hb hby d9_23) rfl ?_
  refine st4 _ ?_
  show Steps p.tables e below (T4.setTop (mkF m 27 #[.val (.ref o1), .val (.int (0 : Int32)), .val (.int (5 : Int32)), .val (.int (5 : Int32)), .val (.ref b2)] [(.int (5 : Int32)), (.int (0 : Int32)), (.ref b2), (.int (0 : Int32)), (.ref o1)])) _
  refine st6 _ ?_
  refine XS.aload X6.here hx rfl (hb hby d9_30) rfl rfl ?_
  show Steps p.tables e below (T6.setTop (mkF m 32 #[.val (.ref o1), .val (.int (0 : Int32)), .val (.int (5 : Int32)), .val (.int (5 : Int32)), .val (.ref b2)] [(.ref b2)])) _
  exact retOut X6 hx hret rfl (Or.inr (Or.inr (Or.inr (Or.inr ⟨rfl, rfl, rfl⟩)))) (hb hby d9_32) hr
theorem pd_6 : parseMethodDescriptor "([BII)[B" = some ⟨[(.array .byte), .int, .int], some (.array .byte)⟩ := by decide +kernel
theorem d8_16 : decode jdk_65_method_132_code 16 = .ok (.areturn, 1) := by decide +kernel
theorem ef_6 (m : MethodId) (x0 : Value) (h0 : x0.category = 1) (x1 : Value) (h1 : x1.category = 1) (x2 : Value) (h2 : x2.category = 1) : entryFrame m #[x0, x1, x2] 3 = mkF m 0 #[.val x0, .val x1, .val x2] [] := by first | (simp [entryFrame, mkF, argsToLocals, h0, h1, h2]; done) | rfl
set_option maxRecDepth 65536 in
set_option maxHeartbeats 40000000 in
theorem rm_9 (l : Launch) (Z : State) (a0 : Array Value) (hw : ∀ d ∈ tables_1, d.before a0 Z = true) (w : Nat → Addr) (kk : Nat → ClassId) (iw : Nat → Int32) (vw : Nat → Value) (hN : Wd Z w kk iw vw) (ws : List Jvm.Cond) (o1 : Addr) (vl_o1 : List Value) (kc_o1 : ClassId) (h0 : Heap) (O0 : Old Z Z.heap.size h0) (gn_o1 : Z.heap.size ≤ o1) (lt_o1 : o1 < h0.size) (E_o1 : Exa Z h0 o1 "[B") (V_o1 : Arv Z h0 o1 kc_o1 .byte (11 : Int32) vl_o1 (.int (0 : Int32))) :
    Met l Z (⟨s_2, "copyOfRange", "([BII)[B"⟩ : MethodName) (Jvm.Cond.code (⟨s_2, "copyOfRange", "([BII)[B"⟩ : MethodName) jdk_65_method_132_code 3 (some (.array .byte))) ws (Rm 2 1 5 34) #[(.ref o1), (.int (0 : Int32)), (.int (5 : Int32))] h0 (Qd_1 Z w kk iw vw o1 vl_o1 kc_o1 h0 Z.heap.size) := by
  have hN' := hN
  obtain ⟨hS0, hE0, hS1, hE1, hS2, hE2, hI0, hJ0, hR0, hRr0, hEq0⟩ := hN'
  refine own_body (plainFor_of_name pn_4) hisR ?_
  intro p e s m below meth c s₁ hx hby hml hown hnm hret X0 hZ e0
  have N0 := Fr.nil Z.heap.size
  have K0 : Keep h0 h0 [] := Keep.refl _ _
  obtain ⟨cl1, Ar1, q1, Sz1, Ng1, Hv1, Gv1⟩ := id V_o1
  obtain ⟨_, _, ⟨T2, L2, k2, n2⟩, -, X2, ⟨Lc2, hQ2, l2, y2, z2⟩, st2⟩ := Jvm.LawKit.callS X0 hx (y := (⟨s_2, s_13, "([BII)[B"⟩ : MethodName)) hown (mvT hZ (W hw 49 rfl)) (mvT hZ (W hw 50 rfl)) (mvT hZ (W hw 47 rfl)) (mvT hZ (W hw 51 rfl)) (by decide) (backOf (W := 0) (rm_8 l Z a0 hw w kk iw vw hN [] o1 vl_o1 kc_o1 h0 O0 gn_o1 E_o1.lt E_o1 V_o1) hZ (W hw 51 rfl) (W hw 47 rfl) (by decide) (by decide)) (g := (mkF m 13 #[.val (.ref o1), .val (.int (0 : Int32)), .val (.int (5 : Int32))] [(.int (5 : Int32)), (.int (0 : Int32)), (.ref o1)])) rfl (by rw [hml]; rfl) (argsL := [(.ref o1), (.int (0 : Int32)), (.int (5 : Int32))]) (rest := []) (lenOf pd_6 rfl) rfl (by show 2 * 0 + _ ≤ _; exact Nat.le_of_eq rfl) (hb hby d8_13) (fun _ _ => ⟨rfl, e0, (by decide : 0 + 1 ≤ _), (by decide : 0 + 5 ≤ _)⟩)
  dsimp only [Pt.U, Pt.locs, Pt.cells, Pt.slots] at X2 l2 y2 z2 st2 hQ2
  subst l2 y2 z2
  obtain ⟨b2_0, kb2_0, vl2_0, rfl, N2q, Kq2, tk2_0, tk2_1, tk2_2⟩ := hQ2
  have N2 := Fr.app N0 N2q
  have gn_b2_0 : Z.heap.size ≤ b2_0 := Nat.le_trans O0.2.1 tk2_0
  have sz_b2_0 : h0.size ≤ b2_0 := Nat.le_trans K0.1 tk2_0
  have ne_o1_b2_0 : o1 ≠ b2_0 := Nat.ne_of_lt (Nat.lt_of_lt_of_le E_o1.lt tk2_0)
  have E_o1_v2 := E_o1.keep Kq2
  have V_o1_v2 := V_o1.keep Kq2 nin0
  have O2 := O0.keep Kq2 all0
  have K2 : Keep h0 T2.heap [] := K0.trans Kq2 all0
  refine ⟨T2, some (.ref b2_0), _, _, _, by decide, by decide, X2, nofun, ⟨b2_0, kb2_0, vl2_0, rfl, N2, K2, sz_b2_0, tk2_1, tk2_2⟩, fun fs hr => castTop (ef_6 m (.ref o1) rfl (.int (0 : Int32)) rfl (.int (5 : Int32)) rfl) ?_⟩
  show Steps p.tables e below (s₁.setTop (mkF m 0 #[.val (.ref o1), .val (.int (0 : Int32)), .val (.int (5 : Int32))] [])) _
  refine XS.iloadN X0.here hx rfl (hb hby d8_0) rfl ?_
  refine XS.ifNo X0.here hx rfl (hb hby d8_1) rfl ((if0 _ _).trans (teq (by decide : (0 : Int32) = (0 : Int32))).2) ?_
  refine XS.iloadN X0.here hx rfl (hb hby d8_4) rfl ?_
  refine XS.aloadN X0.here hx rfl (hb hby d8_5) rfl rfl ?_
  refine X0.arraylength hx (by rw [e0]; exact Ar1.1) (State.isArrayOf_alike hZ.alike Ar1.2.1) (g := (mkF m 6 #[.val (.ref o1), .val (.int (0 : Int32)), .val (.int (5 : Int32))] [(.ref o1), (.int (5 : Int32))])) rfl rfl (hb hby d8_6) _ ?_
  rw [len_of Sz1 Ng1]
  refine XS.icmpNo X0.here hx rfl (hb hby d8_7) rfl (feq (by decide : ¬ ((5 : Int32) = (11 : Int32)))).1 ?_
  refine XS.aloadN X0.here hx rfl (hb hby d8_10) rfl rfl ?_
  refine XS.iloadN X0.here hx rfl (hb hby d8_11) rfl ?_
  refine XS.iloadN X0.here hx rfl (hb hby d8_12) rfl ?_
  refine st2 _ ?_
  show Steps p.tables e below (T2.setTop (mkF m 16 #[.val (.ref o1), .val (.int (0 : Int32)), .val (.int (5 : Int32))] [(.ref b2_0)])) _
  exact retOut X2 hx hret rfl (Or.inr (Or.inr (Or.inr (Or.inr ⟨rfl, rfl, rfl⟩)))) (hb hby d8_16) hr
theorem d7_369 : decode jdk_42_method_11_code 369 = .ok (.putfield 9, 3) := by decide +kernel
theorem sn_0 {a0 : Array Value} {Z : State} (hw : ∀ d ∈ tables_1, d.before a0 Z = true) : Jvm.RoadKit.slotOf Z s_0 "coder" "B" ≠ Jvm.RoadKit.slotOf Z s_0 "value" "[B" := slot_ne (Or.inr (W hw 66 rfl)) (Or.inr (W hw 64 rfl)) (by decide) (t := .byte) (t' := (.array .byte)) (by decide) (by decide)
theorem d7_372 : decode jdk_42_method_11_code 372 = .ok (.aload_n 0, 1) := by decide +kernel
theorem d7_373 : decode jdk_42_method_11_code 373 = .ok (.iconst 0, 1) := by decide +kernel
theorem d7_374 : decode jdk_42_method_11_code 374 = .ok (.putfield 15, 3) := by decide +kernel
theorem sn_1 {a0 : Array Value} {Z : State} (hw : ∀ d ∈ tables_1, d.before a0 Z = true) : Jvm.RoadKit.slotOf Z s_0 "value" "[B" ≠ Jvm.RoadKit.slotOf Z s_0 "coder" "B" := slot_ne (Or.inr (W hw 64 rfl)) (Or.inr (W hw 66 rfl)) (by decide) (t := (.array .byte)) (t' := .byte) (by decide) (by decide)
theorem d7_377 : decode jdk_42_method_11_code 377 = .ok (.goto 502, 3) := by decide +kernel
theorem d7_879 : decode jdk_42_method_11_code 879 = .ok (.return_, 1) := by decide +kernel
theorem ef_7 (m : MethodId) (x0 : Value) (h0 : x0.category = 1) (x1 : Value) (h1 : x1.category = 1) (x2 : Value) (h2 : x2.category = 1) (x3 : Value) (h3 : x3.category = 1) (x4 : Value) (h4 : x4.category = 1) : entryFrame m #[x0, x1, x2, x3, x4] 11 = mkF m 0 #[.val x0, .val x1, .val x2, .val x3, .val x4, .unset, .unset, .unset, .unset, .unset, .unset] [] := by first | (simp [entryFrame, mkF, argsToLocals, h0, h1, h2, h3, h4]; done) | rfl
def Qd_2 (Z : State) (w : Nat → Addr) (kk : Nat → ClassId) (iw : Nat → Int32) (vw : Nat → Value) (o1 : Addr) (o2 : Addr) (vl_o2 : List Value) (kc_o2 : ClassId) (h0 : Heap) (n0 : Nat) (v : Option Value) (h : Heap) (L : List Loc) : Prop := ∃ (c1 : Addr) (kc1 : ClassId) (vx1 : List Value), v = none ∧ Fr n0 L ∧ Keep h0 h [o1] ∧ h0.size ≤ c1 ∧ Exa Z h o1 s_0 ∧ Fld Z h o1 s_0 "value" "[B" (.ref c1) ∧ Fld Z h o1 s_0 "coder" "B" (.int (0 : Int32)) ∧ Exa Z h c1 "[B" ∧ Arv Z h c1 kc1 .byte (5 : Int32) vx1 (.int (0 : Int32))
set_option maxRecDepth 65536 in
set_option maxHeartbeats 40000000 in
theorem rm_10 (l : Launch) (Z : State) (a0 : Array Value) (hw : ∀ d ∈ tables_1, d.before a0 Z = true) (w : Nat → Addr) (kk : Nat → ClassId) (iw : Nat → Int32) (vw : Nat → Value) (hN : Wd Z w kk iw vw) (ws : List Jvm.Cond) (o1 : Addr) (o2 : Addr) (vl_o2 : List Value) (kc_o2 : ClassId) (h0 : Heap) (O0 : Old Z Z.heap.size h0) (gn_o1 : Z.heap.size ≤ o1) (lt_o1 : o1 < h0.size) (gn_o2 : Z.heap.size ≤ o2) (lt_o2 : o2 < h0.size) (E_o1 : Exa Z h0 o1 s_0) (F_o1_value : Fld Z h0 o1 s_0 "value" "[B" .null) (F_o1_coder : Fld Z h0 o1 s_0 "coder" "B" (.int (0 : Int32))) (E_o2 : Exa Z h0 o2 "[B") (V_o2 : Arv Z h0 o2 kc_o2 .byte (11 : Int32) vl_o2 (.int (0 : Int32))) (ne_o1_o2 : o1 ≠ o2) :
    Met l Z (⟨s_0, "<init>", s_7⟩ : MethodName) (Jvm.Cond.codeWith (⟨s_0, "<init>", s_7⟩ : MethodName) jdk_42_method_11_code 11 none [(800, 813, 816, 202)]) ws (Rm 3 1 5 49) #[(.ref o1), (.ref (w 0)), (.ref o2), (.int (0 : Int32)), (.int (5 : Int32))] h0 (Qd_2 Z w kk iw vw o1 o2 vl_o2 kc_o2 h0 Z.heap.size) := by
  have hN' := hN
  obtain ⟨hS0, hE0, hS1, hE1, hS2, hE2, hI0, hJ0, hR0, hRr0, hEq0⟩ := hN'
  refine own_body (plainFor_of_name pn_3) hisWith ?_
  intro p e s m below meth c s₁ hx hby hml hown hnm hret X0 hZ e0
  have N0 := Fr.nil Z.heap.size
  have K0 : Keep h0 h0 [o1] := Keep.refl _ _
  obtain ⟨T1, X1, e1, st1⟩ := initO X0 hx hZ hown (W hw 37 rfl) (W hw 38 rfl) (W hw 39 rfl) e0 (g := (mkF m 1 #[.val (.ref o1), .val (.ref (w 0)), .val (.ref o2), .val (.int (0 : Int32)), .val (.int (5 : Int32)), .unset, .unset, .unset, .unset, .unset, .unset] [(.ref o1)])) rfl (by rw [hml]; rfl) rfl (hb hby d7_1) (by decide) (W := 0) (by show 2 * 0 + _ ≤ _; exact Nat.le_of_eq rfl) (by decide)
  obtain ⟨T2, X2, e2, st2⟩ := getS2 X1 hx hZ hown (host := "") (Or.inl (W hw 40 rfl)) Via.refl e1 (hS1.ext O0.2) (g := (mkF m 31 #[.val (.ref o1), .val (.ref (w 0)), .val (.ref o2), .val (.int (0 : Int32)), .val (.int (5 : Int32)), .unset, .unset, .unset, .unset, .unset, .unset] [(.ref (w 0))])) rfl (hb hby d7_31)
  obtain ⟨T3, X3, e3, st3⟩ := getS2 X2 hx hZ hown (host := "") (Or.inl (W hw 42 rfl)) Via.refl e2 (hS2.ext O0.2) (g := (mkF m 347 #[.val (.ref o1), .val (.ref (w 0)), .val (.ref o2), .val (.int (0 : Int32)), .val (.int (5 : Int32)), .unset, .unset, .unset, .unset, .unset, .unset] [(.ref (w 0))])) rfl (hb hby d7_347)
  obtain ⟨T4, X4, e4, st4⟩ := getS2 X3 hx hZ hown (host := "") (Or.inl (W hw 44 rfl)) Via.refl e3 (hI0.ext O0.2) (g := (mkF m 353 #[.val (.ref o1), .val (.ref (w 0)), .val (.ref o2), .val (.int (0 : Int32)), .val (.int (5 : Int32)), .unset, .unset, .unset, .unset, .unset, .unset] [])) rfl (hb hby d7_353)
  obtain ⟨_, _, ⟨T5, L5, k5, n5⟩, -, X5, ⟨Lc5, hQ5, l5, y5, z5⟩, st5⟩ := Jvm.LawKit.callS X4 hx (y := (⟨s_2, "copyOfRange", "([BII)[B"⟩ : MethodName)) hown (mvT hZ (W hw 45 rfl)) (mvT hZ (W hw 46 rfl)) (mvT hZ (W hw 47 rfl)) (mvT hZ (W hw 48 rfl)) (by decide) (backOf (W := 1) (rm_9 l Z a0 hw w kk iw vw hN [] o2 vl_o2 kc_o2 h0 O0 gn_o2 E_o2.lt E_o2 V_o2) hZ (W hw 48 rfl) (W hw 47 rfl) (by decide) (by decide)) (g := (mkF m 366 #[.val (.ref o1), .val (.ref (w 0)), .val (.ref o2), .val (.int (0 : Int32)), .val (.int (5 : Int32)), .unset, .unset, .unset, .unset, .unset, .unset] [(.int (5 : Int32)), (.int (0 : Int32)), (.ref o2), (.ref o1)])) rfl (by rw [hml]; rfl) (argsL := [(.ref o2), (.int (0 : Int32)), (.int (5 : Int32))]) (rest := [(.ref o1)]) (lenOf pd_6 rfl) rfl (by show 2 * 0 + _ ≤ _; exact Nat.le_of_eq rfl) (hb hby d7_366) (fun _ _ => ⟨rfl, e4, (by decide : 0 + 1 ≤ _), (by decide : 0 + 5 ≤ _)⟩)
  dsimp only [Pt.U, Pt.locs, Pt.cells, Pt.slots] at X5 l5 y5 z5 st5 hQ5
  subst l5 y5 z5
  obtain ⟨b5_0, kb5_0, vl5_0, rfl, N5q, Kq5, tk5_0, tk5_1, tk5_2⟩ := hQ5
  have N5 := Fr.app N0 N5q
  have gn_b5_0 : Z.heap.size ≤ b5_0 := Nat.le_trans O0.2.1 tk5_0
  have sz_b5_0 : h0.size ≤ b5_0 := Nat.le_trans K0.1 tk5_0
  have ne_o2_b5_0 : o2 ≠ b5_0 := Nat.ne_of_lt (Nat.lt_of_lt_of_le E_o2.lt tk5_0)
  have ne_o1_b5_0 : o1 ≠ b5_0 := Nat.ne_of_lt (Nat.lt_of_lt_of_le E_o1.lt tk5_0)
  have E_o1_v5 := E_o1.keep Kq5
  have F_o1_value_v5 := F_o1_value.keep Kq5 nin0
  have F_o1_coder_v5 := F_o1_coder.keep Kq5 nin0
  have E_o2_v5 := E_o2.keep Kq5
  have V_o2_v5 := V_o2.keep Kq5 nin0
  have O5 := O0.keep Kq5 all0
  have K5 : Keep h0 T5.heap [o1] := K0.trans Kq5 all0
  obtain ⟨T6, h6, X6, e6, W6, st6⟩ := putF X5 hx hZ hown (host := "") (Or.inl (W hw 63 rfl)) Via.refl rfl F_o1_value_v5 E_o1_v5 (Or.inr ⟨(W hw 64 rfl), rfl, hnm⟩) (W hw 12 rfl) (ty := (.array .byte)) (by decide) rfl rfl (g := (mkF m 369 #[.val (.ref o1), .val (.ref (w 0)), .val (.ref o2), .val (.int (0 : Int32)), .val (.int (5 : Int32)), .unset, .unset, .unset, .unset, .unset, .unset] [(.ref b5_0), (.ref o1)])) rfl rfl (hb hby d7_369)
  have F_o1_value_v6 := F_o1_value_v5.same W6
  have N6 := Fr.snoc X6 N5 gn_o1
  have E_o1_v6 := E_o1_v5.wr W6
  have F_o1_coder_v6 := F_o1_coder_v5.other W6 (Or.inr (sn_0 hw))
  have E_o2_v6 := E_o2_v5.wr W6
  have V_o2_v6 := V_o2_v5.other W6 (Ne.symm ne_o1_o2)
  have tk5_1_v6 := tk5_1.wr W6
  have tk5_2_v6 := tk5_2.other W6 (Ne.symm ne_o1_b5_0)
  have O6 := O5.wr W6 gn_o1
  have K6 : Keep h0 h6 [o1] := K5.wr W6 (Or.inl (List.mem_of_getElem? (i := 0) rfl))
  obtain ⟨T7, h7, X7, e7, W7, st7⟩ := putFN X6 hx hZ hown (W hw 65 rfl) Via.refl e6 F_o1_coder_v6 E_o1_v6 (Or.inr ⟨(W hw 66 rfl), rfl, hnm⟩) (W hw 12 rfl) (ty := .byte) (v' := (.int (0 : Int32))) (by decide) rfl rfl (g := (mkF m 374 #[.val (.ref o1), .val (.ref (w 0)), .val (.ref o2), .val (.int (0 : Int32)), .val (.int (5 : Int32)), .unset, .unset, .unset, .unset, .unset, .unset] [(.int (0 : Int32)), (.ref o1)])) rfl rfl (hb hby d7_374)
  have F_o1_coder_v7 := F_o1_coder_v6.same W7
  have N7 := Fr.snoc X7 N6 gn_o1
  have E_o1_v7 := E_o1_v6.wr W7
  have F_o1_value_v7 := F_o1_value_v6.other W7 (Or.inr (sn_1 hw))
  have E_o2_v7 := E_o2_v6.wr W7
  have V_o2_v7 := V_o2_v6.other W7 (Ne.symm ne_o1_o2)
  have tk5_1_v7 := tk5_1_v6.wr W7
  have tk5_2_v7 := tk5_2_v6.other W7 (Ne.symm ne_o1_b5_0)
  have O7 := O6.wr W7 gn_o1
  have K7 : Keep h0 h7 [o1] := K6.wr W7 (Or.inl (List.mem_of_getElem? (i := 0) rfl))
  refine ⟨T7, none, _, _, _, by decide, by decide, X7, (fun _ => rfl), (by rw [e7]; exact ⟨b5_0, kb5_0, vl5_0, rfl, N7, K7, sz_b5_0, E_o1_v7, F_o1_value_v7, F_o1_coder_v7, tk5_1_v7, tk5_2_v7⟩), fun fs hr => castTop (ef_7 m (.ref o1) rfl (.ref (w 0)) rfl (.ref o2) rfl (.int (0 : Int32)) rfl (.int (5 : Int32)) rfl) ?_⟩
  show Steps p.tables e below (s₁.setTop (mkF m 0 #[.val (.ref o1), .val (.ref (w 0)), .val (.ref o2), .val (.int (0 : Int32)), .val (.int (5 : Int32)), .unset, .unset, .unset, .unset, .unset, .unset] [])) _
  refine XS.aloadN X0.here hx rfl (hb hby d7_0) rfl rfl ?_
  refine st1 _ ?_
  refine XS.iload X1.here hx rfl (hb hby d7_4) rfl ?_
  refine XS.ifYes X1.here hx rfl (pc0 := 6) (pc' := 30) rfl (hb hby d7_6) rfl ((if0 _ _).trans (feq (by decide : ¬ ((5 : Int32) = (0 : Int32)))).2) (by decide) (by decide) ?_
  refine XS.aloadN X1.here hx rfl (hb hby d7_30) rfl rfl ?_
  refine st2 _ ?_
  refine Jvm.RoadKit.acmp (g := (mkF m 34 #[.val (.ref o1), .val (.ref (w 0)), .val (.ref o2), .val (.int (0 : Int32)), .val (.int (5 : Int32)), .unset, .unset, .unset, .unset, .unset, .unset] [(.ref (w 1)), (.ref (w 0))])) X2 hx rfl rfl rfl (pc0 := 34) (pc' := 346) (same := false) rfl (hb hby d7_34) rfl (decide_eq_false fun q => (ne_exa hE0 hE1 (by decide)) (Value.ref.inj q)) (by decide) (by decide) ?_
  refine XS.aloadN X2.here hx rfl (hb hby d7_346) rfl rfl ?_
  refine st3 _ ?_
  refine Jvm.RoadKit.acmp (g := (mkF m 350 #[.val (.ref o1), .val (.ref (w 0)), .val (.ref o2), .val (.int (0 : Int32)), .val (.int (5 : Int32)), .unset, .unset, .unset, .unset, .unset, .unset] [(.ref (w 2)), (.ref (w 0))])) X3 hx rfl rfl rfl (pc0 := 350) (pc' := 353) (same := true) rfl (hb hby d7_350) rfl (decide_eq_true (congrArg Value.ref hEq0)) (by decide) (by decide) ?_
  show Steps p.tables e below (T3.setTop (mkF m 353 #[.val (.ref o1), .val (.ref (w 0)), .val (.ref o2), .val (.int (0 : Int32)), .val (.int (5 : Int32)), .unset, .unset, .unset, .unset, .unset, .unset] [])) _
  refine st4 _ ?_
  refine XS.ifNo X4.here hx rfl (hb hby d7_356) rfl ((if0 _ _).trans (feq hJ0).1) ?_
  refine XS.aloadN X4.here hx rfl (hb hby d7_359) rfl rfl ?_
  refine XS.aloadN X4.here hx rfl (hb hby d7_360) rfl rfl ?_
  refine XS.iloadN X4.here hx rfl (hb hby d7_361) rfl ?_
  refine XS.iloadN X4.here hx rfl (hb hby d7_362) rfl ?_
  refine XS.iload X4.here hx rfl (hb hby d7_363) rfl ?_
  refine XS.iadd X4.here hx rfl (hb hby d7_365) rfl ?_
  show Steps p.tables e below (T4.setTop (mkF m 366 #[.val (.ref o1), .val (.ref (w 0)), .val (.ref o2), .val (.int (0 : Int32)), .val (.int (5 : Int32)), .unset, .unset, .unset, .unset, .unset, .unset] [(.int ((0 : Int32) + (5 : Int32))), (.int (0 : Int32)), (.ref o2), (.ref o1)])) _
  rw [lf_9]
  refine st5 _ ?_
  refine st6 _ ?_
  show Steps p.tables e below (T6.setTop (mkF m 372 #[.val (.ref o1), .val (.ref (w 0)), .val (.ref o2), .val (.int (0 : Int32)), .val (.int (5 : Int32)), .unset, .unset, .unset, .unset, .unset, .unset] [])) _
  refine XS.aloadN X6.here hx rfl (hb hby d7_372) rfl rfl ?_
  refine XS.iconst X6.here hx rfl (hb hby d7_373) ?_
  refine st7 _ ?_
  refine XS.goto X7.here hx rfl (pc0 := 377) (pc' := 879) rfl (hb hby d7_377) (by decide) (by decide) ?_
  show Steps p.tables e below (T7.setTop (mkF m 879 #[.val (.ref o1), .val (.ref (w 0)), .val (.ref o2), .val (.int (0 : Int32)), .val (.int (5 : Int32)), .unset, .unset, .unset, .unset, .unset, .unset] [])) _
  exact X7.returnOut hx hret (hb hby d7_879) hr
theorem pd_7 : parseMethodDescriptor s_7 = some ⟨[(.object "java/nio/charset/Charset"), (.array .byte), .int, .int], none⟩ := by decide +kernel
theorem d3_21 : decode jdk_42_method_10_code 21 = .ok (.return_, 1) := by decide +kernel
theorem ef_8 (m : MethodId) (x0 : Value) (h0 : x0.category = 1) (x1 : Value) (h1 : x1.category = 1) (x2 : Value) (h2 : x2.category = 1) (x3 : Value) (h3 : x3.category = 1) (x4 : Value) (h4 : x4.category = 1) : entryFrame m #[x0, x1, x2, x3, x4] 5 = mkF m 0 #[.val x0, .val x1, .val x2, .val x3, .val x4] [] := by first | (simp [entryFrame, mkF, argsToLocals, h0, h1, h2, h3, h4]; done) | rfl
set_option maxRecDepth 65536 in
set_option maxHeartbeats 40000000 in
theorem rm_11 (l : Launch) (Z : State) (a0 : Array Value) (hw : ∀ d ∈ tables_1, d.before a0 Z = true) (w : Nat → Addr) (kk : Nat → ClassId) (iw : Nat → Int32) (vw : Nat → Value) (hN : Wd Z w kk iw vw) (ws : List Jvm.Cond) (o1 : Addr) (o2 : Addr) (vl_o2 : List Value) (kc_o2 : ClassId) (h0 : Heap) (O0 : Old Z Z.heap.size h0) (gn_o1 : Z.heap.size ≤ o1) (lt_o1 : o1 < h0.size) (gn_o2 : Z.heap.size ≤ o2) (lt_o2 : o2 < h0.size) (E_o1 : Exa Z h0 o1 s_0) (F_o1_value : Fld Z h0 o1 s_0 "value" "[B" .null) (F_o1_coder : Fld Z h0 o1 s_0 "coder" "B" (.int (0 : Int32))) (E_o2 : Exa Z h0 o2 "[B") (V_o2 : Arv Z h0 o2 kc_o2 .byte (11 : Int32) vl_o2 (.int (0 : Int32))) (ne_o1_o2 : o1 ≠ o2) :
    Met l Z (⟨s_0, "<init>", s_8⟩ : MethodName) (Jvm.Cond.code (⟨s_0, "<init>", s_8⟩ : MethodName) jdk_42_method_10_code 5 none) ws (Rm 4 1 5 71) #[(.ref o1), (.ref o2), (.int (0 : Int32)), (.int (5 : Int32)), (.ref (w 0))] h0 (Qd_2 Z w kk iw vw o1 o2 vl_o2 kc_o2 h0 Z.heap.size) := by
  have hN' := hN
  obtain ⟨hS0, hE0, hS1, hE1, hS2, hE2, hI0, hJ0, hR0, hRr0, hEq0⟩ := hN'
  refine own_body (plainFor_of_name pn_3) hisR ?_
  intro p e s m below meth c s₁ hx hby hml hown hnm hret X0 hZ e0
  have N0 := Fr.nil Z.heap.size
  have K0 : Keep h0 h0 [o1] := Keep.refl _ _
  obtain ⟨_, _, ⟨T1, L1, k1, n1⟩, -, X1, ⟨Lc1, hQ1, l1, y1, z1⟩, st1⟩ := Jvm.LawKit.callS X0 hx (y := (⟨s_16, s_17, s_12⟩ : MethodName)) hown (mvT hZ (W hw 19 rfl)) (mvT hZ (W hw 20 rfl)) (mvT hZ (W hw 21 rfl)) (mvT hZ (W hw 22 rfl)) (by decide) (backOf (W := 1) (rm_3 l Z a0 hw w kk iw vw hN [] h0 O0) hZ (W hw 22 rfl) (W hw 21 rfl) (by decide) (by decide)) (g := (mkF m 3 #[.val (.ref o1), .val (.ref o2), .val (.int (0 : Int32)), .val (.int (5 : Int32)), .val (.ref (w 0))] [(.ref (w 0)), (.ref o1)])) rfl (by rw [hml]; rfl) (argsL := [(.ref (w 0))]) (rest := [(.ref o1)]) (lenOf pd_1 rfl) rfl (by show 2 * 0 + _ ≤ _; exact Nat.le_of_eq rfl) (hb hby d3_3) (fun _ _ => ⟨rfl, e0, (by decide : 0 + 0 ≤ _), (by decide : 0 + 0 ≤ _)⟩)
  dsimp only [Pt.U, Pt.locs, Pt.cells, Pt.slots] at X1 l1 y1 z1 st1 hQ1
  subst l1 y1 z1
  obtain ⟨rfl, N1q, e1⟩ := hQ1
  have N1 := Fr.app N0 N1q
  obtain ⟨T2, X2, e2, st2⟩ := castY X1 hx hZ hown (W hw 23 rfl) e1 (Ins.of_exa (hE0.ext O0.2) (W hw 24 rfl)) (g := (mkF m 6 #[.val (.ref o1), .val (.ref o2), .val (.int (0 : Int32)), .val (.int (5 : Int32)), .val (.ref (w 0))] [(.ref (w 0)), (.ref o1)])) rfl rfl (hb hby d3_6)
  obtain ⟨cl3, Ar3, q3, Sz3, Ng3, Hv3, Gv3⟩ := id V_o2
  obtain ⟨_, _, ⟨T4, L4, k4, n4⟩, -, X4, ⟨Lc4, hQ4, l4, y4, z4⟩, st4⟩ := Jvm.LawKit.callS X2 hx (y := (⟨s_0, s_10, "(III)I"⟩ : MethodName)) hown (mvT hZ (W hw 25 rfl)) (mvT hZ (W hw 26 rfl)) (mvT hZ (W hw 13 rfl)) (mvT hZ (W hw 27 rfl)) (by decide) (backOf (W := 3) (rm_5 l Z a0 hw w kk iw vw hN [] h0 O0) hZ (W hw 27 rfl) (W hw 13 rfl) (by decide) (by decide)) (g := (mkF m 14 #[.val (.ref o1), .val (.ref o2), .val (.int (0 : Int32)), .val (.int (5 : Int32)), .val (.ref (w 0))] [(.int (11 : Int32)), (.int (5 : Int32)), (.int (0 : Int32)), (.ref o2), (.ref (w 0)), (.ref o1)])) rfl (by rw [hml]; rfl) (argsL := [(.int (0 : Int32)), (.int (5 : Int32)), (.int (11 : Int32))]) (rest := [(.ref o2), (.ref (w 0)), (.ref o1)]) (lenOf pd_3 rfl) rfl (by show 2 * 0 + _ ≤ _; exact Nat.le_of_eq rfl) (hb hby d3_14) (fun _ _ => ⟨rfl, e2, (by decide : 0 + 0 ≤ _), (by decide : 0 + 0 ≤ _)⟩)
  dsimp only [Pt.U, Pt.locs, Pt.cells, Pt.slots] at X4 l4 y4 z4 st4 hQ4
  subst l4 y4 z4
  obtain ⟨rfl, N4q, e4⟩ := hQ4
  have N4 := Fr.app N1 N4q
  obtain ⟨_, _, ⟨T5, L5, k5, n5⟩, -, X5, ⟨Lc5, hQ5, l5, y5, z5⟩, st5⟩ := X4.specialBackH hx (y := (⟨s_0, "<init>", s_7⟩ : MethodName)) rfl hown (mvT hZ (W hw 33 rfl)) (mvT hZ (W hw 34 rfl)) (mvT hZ (W hw 36 rfl)) (by decide) (backOfWith (W := 0) (rm_10 l Z a0 hw w kk iw vw hN [] o1 o2 vl_o2 kc_o2 h0 O0 gn_o1 E_o1.lt gn_o2 E_o2.lt E_o1 F_o1_value F_o1_coder E_o2 V_o2 ne_o1_o2) hZ (W hw 36 rfl) (W hw 13 rfl) (by decide) (by decide)) (g := (mkF m 18 #[.val (.ref o1), .val (.ref o2), .val (.int (0 : Int32)), .val (.int (5 : Int32)), .val (.ref (w 0))] [(.int (5 : Int32)), (.int (0 : Int32)), (.ref o2), (.ref (w 0)), (.ref o1)])) rfl (by rw [hml]; rfl) (Steps.refl _) (a := o1) (argsL := [(.ref (w 0)), (.ref o2), (.int (0 : Int32)), (.int (5 : Int32))]) (rest := []) (lenOf pd_7 rfl) rfl (by show 2 * 0 + _ ≤ _; exact Nat.le_of_eq rfl) (hb hby d3_18) (fun _ _ => ⟨rfl, e4, (by decide : 0 + 1 ≤ _), (by decide : 0 + 5 ≤ _)⟩)
  dsimp only [Pt.U, Pt.locs, Pt.cells, Pt.slots] at X5 l5 y5 z5 st5 hQ5
  subst l5 y5 z5
  obtain ⟨b5_0, kb5_0, vl5_0, rfl, N5q, Kq5, tk5_0, tk5_1, tk5_2, tk5_3, tk5_4, tk5_5⟩ := hQ5
  have N5 := Fr.app N4 N5q
  have gn_b5_0 : Z.heap.size ≤ b5_0 := Nat.le_trans O0.2.1 tk5_0
  have sz_b5_0 : h0.size ≤ b5_0 := Nat.le_trans K0.1 tk5_0
  have ne_o2_b5_0 : o2 ≠ b5_0 := Nat.ne_of_lt (Nat.lt_of_lt_of_le E_o2.lt tk5_0)
  have ne_o1_b5_0 : o1 ≠ b5_0 := Nat.ne_of_lt (Nat.lt_of_lt_of_le E_o1.lt tk5_0)
  have E_o1_v5 := E_o1.keep Kq5
  have E_o2_v5 := E_o2.keep Kq5
  have V_o2_v5 := V_o2.keep Kq5 (ninS (Ne.symm ne_o1_o2) nin0)
  have O5 := O0.keep Kq5 (allS gn_o1 all0)
  have K5 : Keep h0 T5.heap [o1] := K0.trans Kq5 (allS (Or.inl (List.mem_of_getElem? (i := 0) rfl)) all0)
  refine ⟨T5, none, _, _, _, by decide, by decide, X5, (fun _ => rfl), ⟨b5_0, kb5_0, vl5_0, rfl, N5, K5, sz_b5_0, tk5_1, tk5_2, tk5_3, tk5_4, tk5_5⟩, fun fs hr => castTop (ef_8 m (.ref o1) rfl (.ref o2) rfl (.int (0 : Int32)) rfl (.int (5 : Int32)) rfl (.ref (w 0)) rfl) ?_⟩
  show Steps p.tables e below (s₁.setTop (mkF m 0 #[.val (.ref o1), .val (.ref o2), .val (.int (0 : Int32)), .val (.int (5 : Int32)), .val (.ref (w 0))] [])) _
  refine XS.aloadN X0.here hx rfl (hb hby d3_0) rfl rfl ?_
  refine XS.aload X0.here hx rfl (hb hby d3_1) rfl rfl ?_
  refine st1 _ ?_
  refine st2 _ ?_
  refine XS.aloadN X2.here hx rfl (hb hby d3_9) rfl rfl ?_
  refine XS.iloadN X2.here hx rfl (hb hby d3_10) rfl ?_
  refine XS.iloadN X2.here hx rfl (hb hby d3_11) rfl ?_
  refine XS.aloadN X2.here hx rfl (hb hby d3_12) rfl rfl ?_
  refine X2.arraylength hx (by rw [e2]; exact Ar3.1) (State.isArrayOf_alike hZ.alike Ar3.2.1) (g := (mkF m 13 #[.val (.ref o1), .val (.ref o2), .val (.int (0 : Int32)), .val (.int (5 : Int32)), .val (.ref (w 0))] [(.ref o2), (.int (5 : Int32)), (.int (0 : Int32)), (.ref o2), (.ref (w 0)), (.ref o1)])) rfl rfl (hb hby d3_13) _ ?_
  rw [len_of Sz3 Ng3]
  refine st4 _ ?_
  show Steps p.tables e below (T4.setTop (mkF m 17 #[.val (.ref o1), .val (.ref o2), .val (.int (0 : Int32)), .val (.int (5 : Int32)), .val (.ref (w 0))] [(.int (0 : Int32)), (.ref o2), (.ref (w 0)), (.ref o1)])) _
  refine XS.iloadN X4.here hx rfl (hb hby d3_17) rfl ?_
  refine st5.trans ?_
  show Steps p.tables e below (T5.setTop (mkF m 21 #[.val (.ref o1), .val (.ref o2), .val (.int (0 : Int32)), .val (.int (5 : Int32)), .val (.ref (w 0))] [])) _
  exact X5.returnOut hx hret (hb hby d3_21) hr
theorem pd_8 : parseMethodDescriptor s_8 = some ⟨[(.array .byte), .int, .int, (.object "java/nio/charset/Charset")], none⟩ := by decide +kernel
theorem d2_13 : decode prog_22_method_9_code 13 = .ok (.areturn, 1) := by decide +kernel
theorem ef_9 (m : MethodId) (x0 : Value) (h0 : x0.category = 1) (x1 : Value) (h1 : x1.category = 1) : entryFrame m #[x0, x1] 2 = mkF m 0 #[.val x0, .val x1] [] := by first | (simp [entryFrame, mkF, argsToLocals, h0, h1]; done) | rfl
def Qd_3 (Z : State) (w : Nat → Addr) (kk : Nat → ClassId) (iw : Nat → Int32) (vw : Nat → Value) (o1 : Addr) (vl_o1 : List Value) (kc_o1 : ClassId) (h0 : Heap) (n0 : Nat) (v : Option Value) (h : Heap) (L : List Loc) : Prop := ∃ (c1 : Addr) (c2 : Addr) (kc1 : ClassId) (vx1 : List Value), v = some (.ref c1) ∧ Fr n0 L ∧ Keep h0 h [] ∧ h0.size ≤ c1 ∧ h0.size ≤ c2 ∧ c1 ≠ c2 ∧ Exa Z h c1 s_0 ∧ Fld Z h c1 s_0 "value" "[B" (.ref c2) ∧ Fld Z h c1 s_0 "coder" "B" (.int (0 : Int32)) ∧ Exa Z h c2 "[B" ∧ Arv Z h c2 kc1 .byte (5 : Int32) vx1 (.int (0 : Int32))
set_option maxRecDepth 65536 in
set_option maxHeartbeats 40000000 in
theorem rm_12 (l : Launch) (Z : State) (a0 : Array Value) (hw : ∀ d ∈ tables_1, d.before a0 Z = true) (w : Nat → Addr) (kk : Nat → ClassId) (iw : Nat → Int32) (vw : Nat → Value) (hN : Wd Z w kk iw vw) (ws : List Jvm.Cond) (o1 : Addr) (vl_o1 : List Value) (kc_o1 : ClassId) (h0 : Heap) (O0 : Old Z Z.heap.size h0) (gn_o1 : Z.heap.size ≤ o1) (lt_o1 : o1 < h0.size) (E_o1 : Exa Z h0 o1 "[B") (V_o1 : Arv Z h0 o1 kc_o1 .byte (11 : Int32) vl_o1 (.int (0 : Int32))) :
    Met l Z (⟨s_1, "string", s_9⟩ : MethodName) (Jvm.Cond.code (⟨s_1, "string", s_9⟩ : MethodName) prog_22_method_9_code 2 (some (.object s_0))) ws (Rm 5 2 9 88) #[(.ref o1), (.int (5 : Int32))] h0 (Qd_3 Z w kk iw vw o1 vl_o1 kc_o1 h0 Z.heap.size) := by
  have hN' := hN
  obtain ⟨hS0, hE0, hS1, hE1, hS2, hE2, hI0, hJ0, hR0, hRr0, hEq0⟩ := hN'
  refine own_body (plainFor_of_name pn_0) hisR ?_
  intro p e s m below meth c s₁ hx hby hml hown hnm hret X0 hZ e0
  have N0 := Fr.nil Z.heap.size
  have K0 : Keep h0 h0 [] := Keep.refl _ _
  obtain ⟨T1, h1, X1, e1, E1, A1, D1, -, st1⟩ := newO X0 hx hZ hown (W hw 11 rfl) (W hw 12 rfl) (W hw 13 rfl) e0 (g := (mkF m 0 #[.val (.ref o1), .val (.int (5 : Int32))] [])) rfl (hb hby d2_0) (by decide) (by decide)
  obtain ⟨b1, g1⟩ : ∃ z, z = h0.size := ⟨_, rfl⟩
  rw [← g1] at A1 st1 D1
  have gn_b1 : Z.heap.size ≤ b1 := Nat.le_trans O0.2.1 (Nat.le_of_eq g1.symm)
  have sz_b1 : h0.size ≤ b1 := Nat.le_trans K0.1 (Nat.le_of_eq g1.symm)
  have ne_o1_b1 : o1 ≠ b1 := Nat.ne_of_lt (Nat.lt_of_lt_of_le E_o1.lt (Nat.le_of_eq g1.symm))
  have E_o1_v1 := E_o1.ext E1
  have V_o1_v1 := V_o1.ext E1
  have O1 := O0.ext E1
  have K1 := K0.ext E1
  have E_b1_v1 := A1
  have F_b1_value_v1 : Fld Z h1 b1 s_0 "value" "[B" .null := D1 (Or.inr (W hw 64 rfl)) (ty := (.array .byte)) (by decide)
  have F_b1_coder_v1 : Fld Z h1 b1 s_0 "coder" "B" (.int (0 : Int32)) := D1 (Or.inr (W hw 66 rfl)) (ty := .byte) (by decide)
  obtain ⟨T2, X2, e2, st2⟩ := getS2 X1 hx hZ hown (host := "") (Or.inl (W hw 14 rfl)) Via.refl e1 (hS0.ext O1.2) (g := (mkF m 7 #[.val (.ref o1), .val (.int (5 : Int32))] [(.int (5 : Int32)), (.int (0 : Int32)), (.ref o1), (.ref b1), (.ref b1)])) rfl (hb hby d2_7)
  obtain ⟨_, _, ⟨T3, L3, k3, n3⟩, -, X3, ⟨Lc3, hQ3, l3, y3, z3⟩, st3⟩ := X2.specialBack hx (y := (⟨s_0, "<init>", s_8⟩ : MethodName)) rfl hown (mvT hZ (W hw 16 rfl)) (mvT hZ (W hw 17 rfl)) (mvT hZ (W hw 18 rfl)) (by decide) (backOf (W := 1) (rm_11 l Z a0 hw w kk iw vw hN [] b1 o1 vl_o1 kc_o1 h1 O1 gn_b1 E_b1_v1.lt gn_o1 E_o1_v1.lt E_b1_v1 F_b1_value_v1 F_b1_coder_v1 E_o1_v1 V_o1_v1 (Ne.symm ne_o1_b1)) hZ (W hw 18 rfl) (W hw 13 rfl) (by decide) (by decide)) (g := (mkF m 10 #[.val (.ref o1), .val (.int (5 : Int32))] [(.ref (w 0)), (.int (5 : Int32)), (.int (0 : Int32)), (.ref o1), (.ref b1), (.ref b1)])) rfl (by rw [hml]; rfl) (Steps.refl _) (a := b1) (argsL := [(.ref o1), (.int (0 : Int32)), (.int (5 : Int32)), (.ref (w 0))]) (rest := [(.ref b1)]) (lenOf pd_8 rfl) rfl (by show 2 * 0 + _ ≤ _; exact Nat.le_of_eq rfl) (hb hby d2_10) (fun _ _ => ⟨rfl, e2, (by decide : 1 + 1 ≤ _), (by decide : 4 + 5 ≤ _)⟩)
  dsimp only [Pt.U, Pt.locs, Pt.cells, Pt.slots] at X3 l3 y3 z3 st3 hQ3
  subst l3 y3 z3
  obtain ⟨b3_0, kb3_0, vl3_0, rfl, N3q, Kq3, tk3_0, tk3_1, tk3_2, tk3_3, tk3_4, tk3_5⟩ := hQ3
  have N3 := Fr.app N0 N3q
  have gn_b3_0 : Z.heap.size ≤ b3_0 := Nat.le_trans O1.2.1 tk3_0
  have sz_b3_0 : h0.size ≤ b3_0 := Nat.le_trans K1.1 tk3_0
  have ne_b1_b3_0 : b1 ≠ b3_0 := Nat.ne_of_lt (Nat.lt_of_lt_of_le E_b1_v1.lt tk3_0)
  have ne_o1_b3_0 : o1 ≠ b3_0 := Nat.ne_of_lt (Nat.lt_of_lt_of_le E_o1_v1.lt tk3_0)
  have E_o1_v3 := E_o1_v1.keep Kq3
  have V_o1_v3 := V_o1_v1.keep Kq3 (ninS ne_o1_b1 nin0)
  have E_b1_v3 := E_b1_v1.keep Kq3
  have O3 := O1.keep Kq3 (allS gn_b1 all0)
  have K3 : Keep h0 T3.heap [] := K1.trans Kq3 (allS (Or.inr sz_b1) all0)
  refine ⟨T3, some (.ref b1), _, _, _, by decide, by decide, X3, nofun, ⟨b1, b3_0, kb3_0, vl3_0, rfl, N3, K3, sz_b1, sz_b3_0, ne_b1_b3_0, tk3_1, tk3_2, tk3_3, tk3_4, tk3_5⟩, fun fs hr => castTop (ef_9 m (.ref o1) rfl (.int (5 : Int32)) rfl) ?_⟩
  show Steps p.tables e below (s₁.setTop (mkF m 0 #[.val (.ref o1), .val (.int (5 : Int32))] [])) _
  refine st1 _ ?_
  refine XS.dup X1.here hx rfl (hb hby d2_3) rfl rfl ?_
  refine XS.aloadN X1.here hx rfl (hb hby d2_4) rfl rfl ?_
  refine XS.iconst X1.here hx rfl (hb hby d2_5) ?_
  refine XS.iloadN X1.here hx rfl (hb hby d2_6) rfl ?_
  refine st2 _ ?_
  refine st3.trans ?_
  show Steps p.tables e below (T3.setTop (mkF m 13 #[.val (.ref o1), .val (.int (5 : Int32))] [(.ref b1)])) _
  exact retOut X3 hx hret rfl (Or.inr (Or.inr (Or.inr (Or.inr ⟨rfl, rfl, rfl⟩)))) (hb hby d2_13) hr
theorem pd_9 : parseMethodDescriptor s_9 = some ⟨[(.array .byte), .int], some (.object s_0)⟩ := by decide +kernel
theorem d0_14 : decode prog_22_method_4_code 14 = .ok (.areturn, 1) := by decide +kernel
theorem ef_10 (m : MethodId) (x0 : Value) (h0 : x0.category = 1) : entryFrame m #[x0] 2 = mkF m 0 #[.val x0, .unset] [] := by first | (simp [entryFrame, mkF, argsToLocals, h0]; done) | rfl
def Qd_4 (Z : State) (w : Nat → Addr) (kk : Nat → ClassId) (iw : Nat → Int32) (vw : Nat → Value) (p0 : Int32) (h0 : Heap) (n0 : Nat) (v : Option Value) (h : Heap) (L : List Loc) : Prop := ∃ (c1 : Addr) (c2 : Addr) (kc1 : ClassId) (vx1 : List Value), v = some (.ref c1) ∧ Fr n0 L ∧ Keep h0 h [] ∧ h0.size ≤ c1 ∧ h0.size ≤ c2 ∧ c1 ≠ c2 ∧ Exa Z h c1 s_0 ∧ Fld Z h c1 s_0 "value" "[B" (.ref c2) ∧ Fld Z h c1 s_0 "coder" "B" (.int (0 : Int32)) ∧ Exa Z h c2 "[B" ∧ Arv Z h c2 kc1 .byte (5 : Int32) vx1 (.int (0 : Int32))
set_option maxRecDepth 65536 in
set_option maxHeartbeats 40000000 in
theorem rm_13 (l : Launch) (Z : State) (a0 : Array Value) (hw : ∀ d ∈ tables_1, d.before a0 Z = true) (w : Nat → Addr) (kk : Nat → ClassId) (iw : Nat → Int32) (vw : Nat → Value) (hN : Wd Z w kk iw vw) (ws : List Jvm.Cond) (p0 : Int32) (h0 : Heap) (O0 : Old Z Z.heap.size h0) (hp0 : p0 < (0 : Int32)) (hp1 : (p0 / (10000 : Int32)) = (0 : Int32)) :
    Met l Z (⟨s_1, "yearText", s_4⟩ : MethodName) (Jvm.Cond.code (⟨s_1, "yearText", s_4⟩ : MethodName) prog_22_method_4_code 2 (some (.object s_0))) ws (Rm 6 3 20 101) #[(.int p0)] h0 (Qd_4 Z w kk iw vw p0 h0 Z.heap.size) := by
  have hN' := hN
  obtain ⟨hS0, hE0, hS1, hE1, hS2, hE2, hI0, hJ0, hR0, hRr0, hEq0⟩ := hN'
  refine own_body (plainFor_of_name pn_0) hisR ?_
  intro p e s m below meth c s₁ hx hby hml hown hnm hret X0 hZ e0
  have N0 := Fr.nil Z.heap.size
  have K0 : Keep h0 h0 [] := Keep.refl _ _
  obtain ⟨T1, h1, k1, X1, e1, E1, A1, AE1, st1⟩ := newPE X0 hx hZ (W hw 4 rfl) e0 (g := (mkF m 2 #[.val (.int p0), .unset] [(.int (11 : Int32))])) rfl (hb hby d0_2) rfl (by decide) (cap := 11) (by decide) (by decide) (by decide) (by decide) (ad := "[B") rfl
  obtain ⟨b1, g1⟩ : ∃ z, z = h0.size := ⟨_, rfl⟩
  rw [← g1] at A1 st1 AE1
  have gn_b1 : Z.heap.size ≤ b1 := Nat.le_trans O0.2.1 (Nat.le_of_eq g1.symm)
  have sz_b1 : h0.size ≤ b1 := Nat.le_trans K0.1 (Nat.le_of_eq g1.symm)
  have O1 := O0.ext E1
  have K1 := K0.ext E1
  have E_b1_v1 := AE1
  have V_b1_v1 : Arv Z h1 b1 k1 .byte (11 : Int32) [] (.int (0 : Int32)) := Arv.new A1 (by decide)
  obtain ⟨_, _, ⟨T2, L2, k2, n2⟩, -, X2, ⟨Lc2, hQ2, l2, y2, z2⟩, st2⟩ := Jvm.LawKit.callS X1 hx (y := (⟨s_1, "writeYear", "([BI)I"⟩ : MethodName)) hown (mvT hZ (W hw 5 rfl)) (mvT hZ (W hw 6 rfl)) (mvT hZ (W hw 2 rfl)) (mvT hZ (W hw 7 rfl)) (by decide) (backOf (W := 1) (rm_2 l Z a0 hw w kk iw vw hN [] b1 p0 k1 h1 O1 gn_b1 E_b1_v1.lt E_b1_v1 V_b1_v1 hp0 hp1) hZ (W hw 7 rfl) (W hw 2 rfl) (by decide) (by decide)) (g := (mkF m 8 #[.val (.int p0), .val (.ref b1)] [(.int p0), (.ref b1), (.ref b1)])) rfl (by rw [hml]; rfl) (argsL := [(.ref b1), (.int p0)]) (rest := [(.ref b1)]) (lenOf pd_0 rfl) rfl (by show 2 * 0 + _ ≤ _; exact Nat.le_of_eq rfl) (hb hby d0_8) (fun _ _ => ⟨rfl, e1, (by decide : 1 + 0 ≤ _), (by decide : 11 + 0 ≤ _)⟩)
  dsimp only [Pt.U, Pt.locs, Pt.cells, Pt.slots] at X2 l2 y2 z2 st2 hQ2
  subst l2 y2 z2
  obtain ⟨vl2_0, rfl, N2q, Kq2, tk2_0, tk2_1⟩ := hQ2
  have N2 := Fr.app N0 N2q
  have E_b1_v2 := E_b1_v1.keep Kq2
  have O2 := O1.keep Kq2 (allS gn_b1 all0)
  have K2 : Keep h0 T2.heap [] := K1.trans Kq2 (allS (Or.inr sz_b1) all0)
  obtain ⟨_, _, ⟨T3, L3, k3, n3⟩, -, X3, ⟨Lc3, hQ3, l3, y3, z3⟩, st3⟩ := Jvm.LawKit.callS X2 hx (y := (⟨s_1, "string", s_9⟩ : MethodName)) hown (mvT hZ (W hw 8 rfl)) (mvT hZ (W hw 9 rfl)) (mvT hZ (W hw 2 rfl)) (mvT hZ (W hw 10 rfl)) (by decide) (backOf (W := 0) (rm_12 l Z a0 hw w kk iw vw hN [] b1 vl2_0 k1 T2.heap O2 gn_b1 tk2_0.lt tk2_0 tk2_1) hZ (W hw 10 rfl) (W hw 2 rfl) (by decide) (by decide)) (g := (mkF m 11 #[.val (.int p0), .val (.ref b1)] [(.int (5 : Int32)), (.ref b1)])) rfl (by rw [hml]; rfl) (argsL := [(.ref b1), (.int (5 : Int32))]) (rest := []) (lenOf pd_9 rfl) rfl (by show 2 * 0 + _ ≤ _; exact Nat.le_of_eq rfl) (hb hby d0_11) (fun _ _ => ⟨rfl, rfl, (by decide : 1 + 2 ≤ _), (by decide : 11 + 9 ≤ _)⟩)
  dsimp only [Pt.U, Pt.locs, Pt.cells, Pt.slots] at X3 l3 y3 z3 st3 hQ3
  subst l3 y3 z3
  obtain ⟨b3_0, b3_1, kb3_0, vl3_0, rfl, N3q, Kq3, tk3_0, tk3_1, tk3_2, tk3_3, tk3_4, tk3_5, tk3_6, tk3_7⟩ := hQ3
  have N3 := Fr.app N2 N3q
  have gn_b3_0 : Z.heap.size ≤ b3_0 := Nat.le_trans O2.2.1 tk3_0
  have sz_b3_0 : h0.size ≤ b3_0 := Nat.le_trans K2.1 tk3_0
  have ne_b1_b3_0 : b1 ≠ b3_0 := Nat.ne_of_lt (Nat.lt_of_lt_of_le tk2_0.lt tk3_0)
  have gn_b3_1 : Z.heap.size ≤ b3_1 := Nat.le_trans O2.2.1 tk3_1
  have sz_b3_1 : h0.size ≤ b3_1 := Nat.le_trans K2.1 tk3_1
  have ne_b1_b3_1 : b1 ≠ b3_1 := Nat.ne_of_lt (Nat.lt_of_lt_of_le tk2_0.lt tk3_1)
  have tk2_0_v3 := tk2_0.keep Kq3
  have tk2_1_v3 := tk2_1.keep Kq3 nin0
  have O3 := O2.keep Kq3 all0
  have K3 : Keep h0 T3.heap [] := K2.trans Kq3 all0
  refine ⟨T3, some (.ref b3_0), _, _, _, by decide, by decide, X3, nofun, ⟨b3_0, b3_1, kb3_0, vl3_0, rfl, N3, K3, sz_b3_0, sz_b3_1, tk3_2, tk3_3, tk3_4, tk3_5, tk3_6, tk3_7⟩, fun fs hr => castTop (ef_10 m (.int p0) rfl) ?_⟩
  show Steps p.tables e below (s₁.setTop (mkF m 0 #[.val (.int p0), .unset] [])) _
  refine XS.bipush X0.here hx rfl (hb hby d0_0) ?_
  refine st1 _ ?_
  refine XS.astoreN X1.here hx rfl (hb hby d0_4) rfl rfl (l' := #[.val (.int p0), .val (.ref b1)]) rfl ?_
  refine XS.aloadN X1.here hx rfl (hb hby d0_5) rfl rfl ?_
  refine XS.aloadN X1.here hx rfl (hb hby d0_6) rfl rfl ?_
  refine XS.iloadN X1.here hx rfl (hb hby d0_7) rfl ?_
  refine st2 _ ?_
  refine st3 _ ?_
  show Steps p.tables e below (T3.setTop (mkF m 14 #[.val (.int p0), .val (.ref b1)] [(.ref b3_0)])) _
  exact retOut X3 hx hret rfl (Or.inr (Or.inr (Or.inr (Or.inr ⟨rfl, rfl, rfl⟩)))) (hb hby d0_14) hr
theorem pd_10 : parseMethodDescriptor s_4 = some ⟨[.int], some (.object s_0)⟩ := by decide +kernel
theorem d12_0 : decode jdk_42_method_54_code 0 = .ok (.aload_n 0, 1) := by decide +kernel
theorem d12_1 : decode jdk_42_method_54_code 1 = .ok (.getfield 9, 3) := by decide +kernel
theorem d12_4 : decode jdk_42_method_54_code 4 = .ok (.arraylength, 1) := by decide +kernel
theorem d12_5 : decode jdk_42_method_54_code 5 = .ok (.aload_n 0, 1) := by decide +kernel
theorem d12_6 : decode jdk_42_method_54_code 6 = .ok (.invokevirtual 335, 3) := by decide +kernel
theorem d13_0 : decode jdk_42_method_152_code 0 = .ok (.getstatic 38, 3) := by decide +kernel
theorem d13_3 : decode jdk_42_method_152_code 3 = .ok (.ifCond .eq 10, 3) := by decide +kernel
theorem d13_6 : decode jdk_42_method_152_code 6 = .ok (.aload_n 0, 1) := by decide +kernel
theorem d13_7 : decode jdk_42_method_152_code 7 = .ok (.getfield 15, 3) := by decide +kernel
theorem d13_10 : decode jdk_42_method_152_code 10 = .ok (.goto 4, 3) := by decide +kernel
theorem d13_14 : decode jdk_42_method_152_code 14 = .ok (.ireturn, 1) := by decide +kernel
set_option maxRecDepth 65536 in
set_option maxHeartbeats 40000000 in
theorem rm_14 (l : Launch) (Z : State) (a0 : Array Value) (hw : ∀ d ∈ tables_1, d.before a0 Z = true) (w : Nat → Addr) (kk : Nat → ClassId) (iw : Nat → Int32) (vw : Nat → Value) (hN : Wd Z w kk iw vw) (ws : List Jvm.Cond) (o1 : Addr) (o2 : Addr) (vl_o2 : List Value) (kc_o2 : ClassId) (h0 : Heap) (O0 : Old Z Z.heap.size h0) (gn_o1 : Z.heap.size ≤ o1) (lt_o1 : o1 < h0.size) (E_o1 : Exa Z h0 o1 s_0) (gn_o2 : Z.heap.size ≤ o2) (lt_o2 : o2 < h0.size) (F_o1_value : Fld Z h0 o1 s_0 "value" "[B" (.ref o2)) (F_o1_coder : Fld Z h0 o1 s_0 "coder" "B" (.int (0 : Int32))) (E_o2 : Exa Z h0 o2 "[B") (V_o2 : Arv Z h0 o2 kc_o2 .byte (5 : Int32) vl_o2 (.int (0 : Int32))) (ne_o1_o2 : o1 ≠ o2) :
    Met l Z (⟨s_0, "coder", "()B"⟩ : MethodName) (Jvm.Cond.code (⟨s_0, "coder", "()B"⟩ : MethodName) jdk_42_method_152_code 1 (some .byte)) ws (Rm 0 0 0 0) #[(.ref o1)] h0 (OQ (some (.int (0 : Int32))) h0 Z.heap.size) := by
  have hN' := hN
  obtain ⟨hS0, hE0, hS1, hE1, hS2, hE2, hI0, hJ0, hR0, hRr0, hEq0⟩ := hN'
  refine own_body (plainFor_of_name pn_3) hisR ?_
  intro p e s m below meth c s₁ hx hby hml hown hnm hret X0 hZ e0
  have N0 := Fr.nil Z.heap.size
  obtain ⟨T1, X1, e1, st1⟩ := getS2 X0 hx hZ hown (host := "") (Or.inl (W hw 44 rfl)) Via.refl e0 (hI0.ext O0.2) (g := (mkF m 0 #[.val (.ref o1)] [])) rfl (hb hby d13_0)
  obtain ⟨T2, X2, e2, st2⟩ := getF X1 hx hZ hown (host := "") (Or.inl (W hw 65 rfl)) Via.refl e1 F_o1_coder (g := (mkF m 7 #[.val (.ref o1)] [(.ref o1)])) rfl rfl (hb hby d13_7)
  refine ⟨T2, some (.int (0 : Int32)), _, _, _, by decide, by decide, X2, nofun, (by rw [e2]; exact ⟨rfl, N0, rfl⟩), fun fs hr => castTop (ef_1 m (.ref o1) rfl) ?_⟩
  show Steps p.tables e below (s₁.setTop (mkF m 0 #[.val (.ref o1)] [])) _
  refine st1 _ ?_
  refine XS.ifNo X1.here hx rfl (hb hby d13_3) rfl ((if0 _ _).trans (feq hJ0).1) ?_
  refine XS.aloadN X1.here hx rfl (hb hby d13_6) rfl rfl ?_
  refine st2 _ ?_
  refine XS.goto X2.here hx rfl (pc0 := 10) (pc' := 14) rfl (hb hby d13_10) (by decide) (by decide) ?_
  show Steps p.tables e below (T2.setTop (mkF m 14 #[.val (.ref o1)] [(.int (0 : Int32))])) _
  exact retN X2 hx (t := .byte) hret (by simp) (hb hby d13_14) hr
theorem pd_11 : parseMethodDescriptor "()B" = some ⟨[], some .byte⟩ := by decide +kernel
theorem d12_9 : decode jdk_42_method_54_code 9 = .ok (.ishr, 1) := by decide +kernel
theorem lf_11 : ((5 : Int32) >>> ((0 : Int32) &&& 31)) = (5 : Int32) := by decide
theorem d12_10 : decode jdk_42_method_54_code 10 = .ok (.ireturn, 1) := by decide +kernel
set_option maxRecDepth 65536 in
set_option maxHeartbeats 40000000 in
theorem rm_15 (l : Launch) (Z : State) (a0 : Array Value) (hw : ∀ d ∈ tables_1, d.before a0 Z = true) (w : Nat → Addr) (kk : Nat → ClassId) (iw : Nat → Int32) (vw : Nat → Value) (hN : Wd Z w kk iw vw) (ws : List Jvm.Cond) (o1 : Addr) (o2 : Addr) (vl_o2 : List Value) (kc_o2 : ClassId) (h0 : Heap) (O0 : Old Z Z.heap.size h0) (gn_o1 : Z.heap.size ≤ o1) (lt_o1 : o1 < h0.size) (E_o1 : Exa Z h0 o1 s_0) (gn_o2 : Z.heap.size ≤ o2) (lt_o2 : o2 < h0.size) (F_o1_value : Fld Z h0 o1 s_0 "value" "[B" (.ref o2)) (F_o1_coder : Fld Z h0 o1 s_0 "coder" "B" (.int (0 : Int32))) (E_o2 : Exa Z h0 o2 "[B") (V_o2 : Arv Z h0 o2 kc_o2 .byte (5 : Int32) vl_o2 (.int (0 : Int32))) (ne_o1_o2 : o1 ≠ o2) :
    Met l Z (⟨s_0, "length", "()I"⟩ : MethodName) (Jvm.Cond.code (⟨s_0, "length", "()I"⟩ : MethodName) jdk_42_method_54_code 1 (some .int)) ws (Rm 1 0 0 13) #[(.ref o1)] h0 (OQ (some (.int (5 : Int32))) h0 Z.heap.size) := by
  have hN' := hN
  obtain ⟨hS0, hE0, hS1, hE1, hS2, hE2, hI0, hJ0, hR0, hRr0, hEq0⟩ := hN'
  refine own_body (plainFor_of_name pn_3) hisR ?_
  intro p e s m below meth c s₁ hx hby hml hown hnm hret X0 hZ e0
  have N0 := Fr.nil Z.heap.size
  obtain ⟨T1, X1, e1, st1⟩ := getF X0 hx hZ hown (host := "") (Or.inl (W hw 63 rfl)) Via.refl e0 F_o1_value (g := (mkF m 1 #[.val (.ref o1)] [(.ref o1)])) rfl rfl (hb hby d12_1)
  obtain ⟨cl2, Ar2, q2, Sz2, Ng2, Hv2, Gv2⟩ := id V_o2
  obtain ⟨cq3, kq3, q3a, q3b, q3c⟩ := isOf hZ e1 E_o1
  obtain ⟨_, _, ⟨T3, L3, k3, n3⟩, -, X3, ⟨Lc3, hQ3, l3, y3, z3⟩, st3⟩ := X1.virtualBack hx (y := (⟨s_0, "coder", "()B"⟩ : MethodName)) (z := (⟨s_0, "coder", "()B"⟩ : MethodName)) hown (mvT hZ (W hw 72 rfl)) (mvT hZ (W hw 73 rfl)) (notFace_of_selects (args := #[]) (mvT hZ (W hw 75 rfl))) (mvT hZ (W hw 75 rfl)) (mvT hZ (W hw 74 rfl)) (by decide) (backOf (W := 1) (rm_14 l Z a0 hw w kk iw vw hN [] o1 o2 vl_o2 kc_o2 h0 O0 gn_o1 E_o1.lt E_o1 gn_o2 E_o2.lt F_o1_value F_o1_coder E_o2 V_o2 ne_o1_o2) hZ (W hw 76 rfl) (W hw 13 rfl) (by decide) (by decide)) q3a q3c (g := (mkF m 6 #[.val (.ref o1)] [(.ref o1), (.int (5 : Int32))])) rfl (by rw [hml]; rfl) (Steps.refl _) (argsL := []) (rest := [(.int (5 : Int32))]) (lenOf pd_11 rfl) rfl (by show 2 * 0 + _ ≤ _; exact Nat.le_of_eq rfl) (hb hby d12_6) (fun _ _ => ⟨rfl, e1, (by decide : 0 + 0 ≤ _), (by decide : 0 + 0 ≤ _)⟩)
  dsimp only [Pt.U, Pt.locs, Pt.cells, Pt.slots] at X3 l3 y3 z3 st3 hQ3
  subst l3 y3 z3
  obtain ⟨rfl, N3q, e3⟩ := hQ3
  have N3 := Fr.app N0 N3q
  refine ⟨T3, some (.int (5 : Int32)), _, _, _, by decide, by decide, X3, nofun, (by rw [e3]; exact ⟨rfl, N3, rfl⟩), fun fs hr => castTop (ef_1 m (.ref o1) rfl) ?_⟩
  show Steps p.tables e below (s₁.setTop (mkF m 0 #[.val (.ref o1)] [])) _
  refine XS.aloadN X0.here hx rfl (hb hby d12_0) rfl rfl ?_
  refine st1 _ ?_
  refine X1.arraylength hx (by rw [e1]; exact Ar2.1) (State.isArrayOf_alike hZ.alike Ar2.2.1) (g := (mkF m 4 #[.val (.ref o1)] [(.ref o2)])) rfl rfl (hb hby d12_4) _ ?_
  rw [len_of Sz2 Ng2]
  refine XS.aloadN X1.here hx rfl (hb hby d12_5) rfl rfl ?_
  refine st3.trans ?_
  refine XS.ishr X3.here hx rfl (hb hby d12_9) rfl ?_
  show Steps p.tables e below (T3.setTop (mkF m 10 #[.val (.ref o1)] [(.int ((5 : Int32) >>> ((0 : Int32) &&& 31)))])) _
  rw [lf_11]
  show Steps p.tables e below (T3.setTop (mkF m 10 #[.val (.ref o1)] [(.int (5 : Int32))])) _
  exact retI X3 hx hret (hb hby d12_10) hr
theorem pd_12 : parseMethodDescriptor "()I" = some ⟨[], some .int⟩ := by decide +kernel
theorem d14_0 : decode prog_22_method_5_code 0 = .ok (.iload_n 0, 1) := by decide +kernel
theorem d14_1 : decode prog_22_method_5_code 1 = .ok (.sipush 1000, 3) := by decide +kernel
theorem d14_4 : decode prog_22_method_5_code 4 = .ok (.if_icmp .lt 14, 3) := by decide +kernel
theorem d14_18 : decode prog_22_method_5_code 18 = .ok (.iconst 0, 1) := by decide +kernel
theorem d14_19 : decode prog_22_method_5_code 19 = .ok (.ireturn, 1) := by decide +kernel
theorem ef_11 (m : MethodId) (x0 : Value) (h0 : x0.category = 1) : entryFrame m #[x0] 1 = mkF m 0 #[.val x0] [] := by first | (simp [entryFrame, mkF, argsToLocals, h0]; done) | rfl
set_option maxRecDepth 65536 in
set_option maxHeartbeats 40000000 in
theorem rm_16 (l : Launch) (Z : State) (a0 : Array Value) (hw : ∀ d ∈ tables_1, d.before a0 Z = true) (w : Nat → Addr) (kk : Nat → ClassId) (iw : Nat → Int32) (vw : Nat → Value) (hN : Wd Z w kk iw vw) (ws : List Jvm.Cond) (p0 : Int32) (h0 : Heap) (O0 : Old Z Z.heap.size h0) (hp0 : p0 < (1000 : Int32)) :
    Met l Z (⟨s_1, s_15, "(I)Z"⟩ : MethodName) (Jvm.Cond.code (⟨s_1, s_15, "(I)Z"⟩ : MethodName) prog_22_method_5_code 1 (some .boolean)) ws (Rm 0 0 0 0) #[(.int p0)] h0 (OQ (some (.int (0 : Int32))) h0 Z.heap.size) := by
  have hN' := hN
  obtain ⟨hS0, hE0, hS1, hE1, hS2, hE2, hI0, hJ0, hR0, hRr0, hEq0⟩ := hN'
  refine own_body (plainFor_of_name pn_0) hisR ?_
  intro p e s m below meth c s₁ hx hby hml hown hnm hret X0 hZ e0
  have N0 := Fr.nil Z.heap.size
  refine ⟨s₁, some (.int (0 : Int32)), _, _, _, by decide, by decide, X0, nofun, (by rw [e0]; exact ⟨rfl, N0, rfl⟩), fun fs hr => castTop (ef_11 m (.int p0) rfl) ?_⟩
  show Steps p.tables e below (s₁.setTop (mkF m 0 #[.val (.int p0)] [])) _
  refine XS.iloadN X0.here hx rfl (hb hby d14_0) rfl ?_
  refine XS.sipush X0.here hx rfl (hb hby d14_1) ?_
  refine XS.icmpYes X0.here hx rfl (pc0 := 4) (pc' := 18) rfl (hb hby d14_4) rfl (tlt hp0).1 (by decide) (by decide) ?_
  refine XS.iconst X0.here hx rfl (hb hby d14_18) ?_
  show Steps p.tables e below (s₁.setTop (mkF m 19 #[.val (.int p0)] [(.int (0 : Int32))])) _
  exact retN X0 hx (t := .boolean) hret (by simp) (hb hby d14_19) hr
theorem pd_13 : parseMethodDescriptor "(I)Z" = some ⟨[.int], some .boolean⟩ := by decide +kernel
theorem ef_12 (m : MethodId) (x0 : Value) (h0 : x0.category = 1) : entryFrame m #[x0] maxLocals = mkF m 0 #[.val x0, .unset, .unset] [] := by first | (simp [entryFrame, mkF, argsToLocals, h0, maxLocals]; done) | rfl
theorem pn_5 : plainName s_3 = true := by first | (simp [plainName, overriddenIn]; done) | decide +kernel
set_option maxRecDepth 65536 in
set_option maxHeartbeats 40000000 in
theorem law_17 (l : Launch) (Z : State) (a0 : Array Value) (hw : ∀ d ∈ tables_1, d.before a0 Z = true) (w : Nat → Addr) (kk : Nat → ClassId) (iw : Nat → Int32) (vw : Nat → Value) (hN : Wd Z w kk iw vw) (ws : List Jvm.Cond) (p0 : Int32) (h0 : Heap) (O0 : Old Z Z.heap.size h0) (hp0 : p0 < (0 : Int32)) (hp1 : (p0 / (10000 : Int32)) = (0 : Int32)) (hp2 : p0 < (1000 : Int32)) :
    MetFree l x (head1 (Jvm.Cond.code x code maxLocals ret :: ws) room_1) (fun a U => a = #[(.int p0)] ∧ Z.Warmed39 U.vm ∧ U.heap = h0) (fun _ _ _ _ _ => True) (fun _ U o U' => ∃ v L, o = .returned v ∧ OL (some (.int (1 : Int32))) Z.heap.size v U'.heap L ∧ FrameEnd U o U' L 16 128) := by
  have hN' := hN
  obtain ⟨hS0, hE0, hS1, hE1, hS2, hE2, hI0, hJ0, hR0, hRr0, hEq0⟩ := hN'
  refine MetFree.of_bodySF (plainFor_of_name pn_5) hisR ?_
  intro p e s m args below meth c s₁ Bd hml0 hP hK
  obtain ⟨rfl, hZ, hh⟩ := hP
  have hx := Bd.exec
  have hby := Bd.bytes
  have hml : c.maxLocals = 3 := hml0
  have hown : s.vm.findClass s_3 = some m.cls := findClass_of_methodNamed Bd.named
  have hnm := (name_of_methodNamed Bd.named Bd.method).1
  have X0 : Stand p l e room_1 s m #[(.int p0)] below meth c s₁ [] 0 0 := Stand.of_body Bd
  have e0 : s₁.heap = h0 := by rw [← hh, Bd.state]; rfl
  have N0 := Fr.nil Z.heap.size
  obtain ⟨_, _, ⟨T1, L1, k1, n1⟩, -, X1, ⟨Lc1, hQ1, l1, y1, z1⟩, st1⟩ := Jvm.LawKit.callS X0 hx (y := (⟨s_1, "yearText", s_4⟩ : MethodName)) hown (mvT hZ (W hw 0 rfl)) (mvT hZ (W hw 1 rfl)) (mvT hZ (W hw 2 rfl)) (mvT hZ (W hw 3 rfl)) (by decide) (backOf (W := 0) (rm_13 l Z a0 hw w kk iw vw hN [] p0 h0 O0 hp0 hp1) hZ (W hw 3 rfl) (W hw 2 rfl) (by decide) (by decide)) (g := (mkF m 1 #[.val (.int p0), .unset, .unset] [(.int p0)])) rfl (by rw [hml]; rfl) (argsL := [(.int p0)]) (rest := []) (lenOf pd_10 rfl) rfl (by show 2 * 0 + _ ≤ _; exact Nat.le_of_eq rfl) (hb hby at_1) (fun _ _ => ⟨rfl, e0, (by decide : 0 + 3 ≤ _), (by decide : 0 + 20 ≤ _)⟩)
  dsimp only [Pt.U, Pt.locs, Pt.cells, Pt.slots] at X1 l1 y1 z1 st1 hQ1
  subst l1 y1 z1
  obtain ⟨b1_0, b1_1, kb1_0, vl1_0, rfl, N1q, Kq1, tk1_0, tk1_1, tk1_2, tk1_3, tk1_4, tk1_5, tk1_6, tk1_7⟩ := hQ1
  have N1 := Fr.app N0 N1q
  have gn_b1_0 : Z.heap.size ≤ b1_0 := Nat.le_trans O0.2.1 tk1_0
  have gn_b1_1 : Z.heap.size ≤ b1_1 := Nat.le_trans O0.2.1 tk1_1
  have O1 := O0.keep Kq1 all0
  obtain ⟨cq2, kq2, q2a, q2b, q2c⟩ := isOf hZ rfl tk1_3
  obtain ⟨_, _, ⟨T2, L2, k2, n2⟩, -, X2, ⟨Lc2, hQ2, l2, y2, z2⟩, st2⟩ := X1.virtualBack hx (y := (⟨s_0, "length", "()I"⟩ : MethodName)) (z := (⟨s_0, "length", "()I"⟩ : MethodName)) hown (mvT hZ (W hw 67 rfl)) (mvT hZ (W hw 68 rfl)) (notFace_of_selects (args := #[]) (mvT hZ (W hw 70 rfl))) (mvT hZ (W hw 70 rfl)) (mvT hZ (W hw 69 rfl)) (by decide) (backOf (W := 0) (rm_15 l Z a0 hw w kk iw vw hN [] b1_0 b1_1 vl1_0 kb1_0 T1.heap O1 gn_b1_0 tk1_3.lt tk1_3 gn_b1_1 tk1_6.lt tk1_4 tk1_5 tk1_6 tk1_7 tk1_2) hZ (W hw 71 rfl) (W hw 13 rfl) (by decide) (by decide)) q2a q2c (g := (mkF m 6 #[.val (.int p0), .val (.ref b1_0), .unset] [(.ref b1_0)])) rfl (by rw [hml]; rfl) (Steps.refl _) (argsL := []) (rest := []) (lenOf pd_12 rfl) rfl (by show 2 * 0 + _ ≤ _; exact Nat.le_of_eq rfl) (hb hby at_6) (fun _ _ => ⟨rfl, rfl, (by decide : 3 + 0 ≤ _), (by decide : 20 + 0 ≤ _)⟩)
  dsimp only [Pt.U, Pt.locs, Pt.cells, Pt.slots] at X2 l2 y2 z2 st2 hQ2
  subst l2 y2 z2
  obtain ⟨rfl, N2q, e2⟩ := hQ2
  have N2 := Fr.app N1 N2q
  obtain ⟨_, _, ⟨T3, L3, k3, n3⟩, -, X3, ⟨Lc3, hQ3, l3, y3, z3⟩, st3⟩ := Jvm.LawKit.callS X2 hx (y := (⟨s_1, s_15, "(I)Z"⟩ : MethodName)) hown (mvT hZ (W hw 97 rfl)) (mvT hZ (W hw 98 rfl)) (mvT hZ (W hw 2 rfl)) (mvT hZ (W hw 99 rfl)) (by decide) (backOf (W := 0) (rm_16 l Z a0 hw w kk iw vw hN [] p0 T1.heap O1 hp2) hZ (W hw 99 rfl) (W hw 2 rfl) (by decide) (by decide)) (g := (mkF m 30 #[.val (.int p0), .val (.ref b1_0), .val (.int (0 : Int32))] [(.int p0)])) rfl (by rw [hml]; rfl) (argsL := [(.int p0)]) (rest := []) (lenOf pd_13 rfl) rfl (by show 2 * 0 + _ ≤ _; exact Nat.le_of_eq rfl) (hb hby at_30) (fun _ _ => ⟨rfl, e2, (by decide : 3 + 0 ≤ _), (by decide : 20 + 0 ≤ _)⟩)
  dsimp only [Pt.U, Pt.locs, Pt.cells, Pt.slots] at X3 l3 y3 z3 st3 hQ3
  subst l3 y3 z3
  obtain ⟨rfl, N3q, e3⟩ := hQ3
  have N3 := Fr.app N2 N3q
  obtain ⟨fs, hr, hrun, hended, hW, hsame⟩ := X3.leave (v := some (.int (1 : Int32))) (fun h => by rw [Bd.returns] at h; cases h)
  refine ⟨_, _, castTop (ef_12 m (.int p0) rfl) ?_, hrun, hended, _, _, rfl, ?_, ⟨_, rfl⟩, hW, hsame.mono (by decide) (by decide)⟩
  · show Steps p.tables e below (s₁.setTop (mkF m 0 #[.val (.int p0), .unset, .unset] [])) _
    refine XS.iloadN X0.here hx rfl (hb hby at_0) rfl ?_
    refine st1 _ ?_
    refine XS.astoreN X1.here hx rfl (hb hby at_4) rfl rfl (l' := #[.val (.int p0), .val (.ref b1_0), .unset]) rfl ?_
    refine XS.aloadN X1.here hx rfl (hb hby at_5) rfl rfl ?_
    refine st2.trans ?_
    refine XS.iconst X2.here hx rfl (hb hby at_9) ?_
    refine XS.icmpYes X2.here hx rfl (pc0 := 10) (pc' := 27) rfl (hb hby at_10) rfl (feq (by decide : ¬ ((5 : Int32) = (4 : Int32)))).2 (by decide) (by decide) ?_
    refine XS.iconst X2.here hx rfl (hb hby at_27) ?_
    refine XS.istoreN X2.here hx rfl (hb hby at_28) rfl (l' := #[.val (.int p0), .val (.ref b1_0), .val (.int (0 : Int32))]) rfl ?_
    refine XS.iloadN X2.here hx rfl (hb hby at_29) rfl ?_
    show Steps p.tables e below (T2.setTop (mkF m 30 #[.val (.int p0), .val (.ref b1_0), .val (.int (0 : Int32))] [(.int p0)])) _
    refine st3 _ ?_
    refine XS.iloadN X3.here hx rfl (hb hby at_33) rfl ?_
    refine XS.icmpNo X3.here hx rfl (hb hby at_34) rfl (teq (by decide : (0 : Int32) = (0 : Int32))).2 ?_
    refine XS.iconst X3.here hx rfl (hb hby at_37) ?_
    refine XS.goto X3.here hx rfl (pc0 := 38) (pc' := 42) rfl (hb hby at_38) (by decide) (by decide) ?_
    show Steps p.tables e below (T3.setTop (mkF m 42 #[.val (.int p0), .val (.ref b1_0), .val (.int (0 : Int32))] [(.int (1 : Int32))])) _
    exact retN X3 hx (t := .boolean) Bd.returns (by simp) (hb hby at_42) hr
  · show OL (some (.int (1 : Int32))) Z.heap.size _ T3.heap _
    exact ⟨rfl, N3⟩
theorem d1_61 : decode prog_22_method_7_code 61 = .ok (.iinc 4 1, 3) := by decide +kernel
theorem d1_64 : decode prog_22_method_7_code 64 = .ok (.iload 5, 2) := by decide +kernel
theorem d1_66 : decode prog_22_method_7_code 66 = .ok (.bipush 10, 2) := by decide +kernel
theorem d1_68 : decode prog_22_method_7_code 68 = .ok (.idiv, 1) := by decide +kernel
theorem d1_69 : decode prog_22_method_7_code 69 = .ok (.istore 5, 2) := by decide +kernel
theorem d1_71 : decode prog_22_method_7_code 71 = .ok (.goto (-15), 3) := by decide +kernel
set_option maxRecDepth 65536 in
set_option maxHeartbeats 40000000 in
theorem sg_18 {p : Program} {l : Launch} {e : Env} {R : Room} {s : State} {m : MethodId} {args : Array Value} {below : List Frame} {meth : Method} {c : Code} {T0 : State} {locs : List Loc} {cells slots : Nat} {Z : State} {a0 : Array Value} (w : Nat → Addr) (kk : Nat → ClassId) (iw : Nat → Int32) (vw : Nat → Value) (hN : Wd Z w kk iw vw) (o1 : Addr) (i1 : Int32) (i2 : Int32) (i3 : Int32) (i4 : Int32) (i5 : Int32) (vl_o1 : List Value) (kc_o1 : ClassId) {h0 : Heap}
    (X0 : Stand p l e R s m args below meth c T0 locs cells slots) (hx : p.tables.exec = Jvm.exec) (hZ : Z.Warmed39 s.vm) (hw : ∀ d ∈ tables_1, d.before a0 Z = true) (hby : c.code = prog_22_method_7_code) (hml : c.maxLocals = 7) (hown : s.vm.findClass s_1 = some m.cls) (e0 : T0.heap = h0) (O0 : Old Z Z.heap.size h0) (N0 : Fr Z.heap.size locs) (gn_o1 : Z.heap.size ≤ o1) (lt_o1 : o1 < h0.size) (E_o1 : Exa Z h0 o1 "[B") (V_o1 : Arv Z h0 o1 kc_o1 .byte (11 : Int32) vl_o1 (.int (0 : Int32))) (hp0 : ¬ (i5 = (0 : Int32))) :
    ∃ (T' : State) (L' : List Loc), Stand p l e R s m args below meth c T' L' cells slots ∧ (∀ target, Steps p.tables e below (T'.setTop (mkF m 56 #[.val (.ref o1), .val (.int i1), .val (.int i2), .val (.int i3), .val (.int (i4 + (1 : Int32))), .val (.int (i5 / (10 : Int32))), .unset] [])) target → Steps p.tables e below (T0.setTop (mkF m 56 #[.val (.ref o1), .val (.int i1), .val (.int i2), .val (.int i3), .val (.int i4), .val (.int i5), .unset] [])) target) ∧ Fr Z.heap.size L' ∧ T'.heap = h0 := by
  have hN' := hN
  obtain ⟨hS0, hE0, hS1, hE1, hS2, hE2, hI0, hJ0, hR0, hRr0, hEq0⟩ := hN'
  refine ⟨T0, _, X0, fun target kt => ?_, N0, e0⟩
  show Steps p.tables e below (T0.setTop (mkF m 56 #[.val (.ref o1), .val (.int i1), .val (.int i2), .val (.int i3), .val (.int i4), .val (.int i5), .unset] [])) _
  refine XS.iload X0.here hx rfl (hb hby d1_56) rfl ?_
  refine XS.ifNo X0.here hx rfl (hb hby d1_58) rfl ((if0 _ _).trans (feq hp0).1) ?_
  refine XS.iinc X0.here hx rfl (hb hby d1_61) rfl (l' := #[.val (.ref o1), .val (.int i1), .val (.int i2), .val (.int i3), .val (.int (i4 + (1 : Int32))), .val (.int i5), .unset]) rfl ?_
  refine XS.iload X0.here hx rfl (hb hby d1_64) rfl ?_
  refine XS.bipush X0.here hx rfl (hb hby d1_66) ?_
  refine XS.idiv X0.here hx rfl (hb hby d1_68) rfl (by decide : ¬ ((10 : Int32) = (0 : Int32))) ?_
  refine XS.istore X0.here hx rfl (hb hby d1_69) rfl (l' := #[.val (.ref o1), .val (.int i1), .val (.int i2), .val (.int i3), .val (.int (i4 + (1 : Int32))), .val (.int (i5 / (10 : Int32))), .unset]) rfl ?_
  refine XS.goto X0.here hx rfl (pc0 := 71) (pc' := 56) rfl (hb hby d1_71) (by decide) (by decide) ?_
  exact kt
theorem lf_12 : ((5 : Int32) + (1 : Int32)) = (6 : Int32) := by decide
theorem lf_13 : ((6 : Int32) - (1 : Int32)) = (5 : Int32) := by decide
theorem lf_14 : ((5 : Int32) + (-1 : Int32)) = (4 : Int32) := by decide
def Qd_5 (Z : State) (w : Nat → Addr) (kk : Nat → ClassId) (iw : Nat → Int32) (vw : Nat → Value) (o1 : Addr) (p1 : Int32) (kc_o1 : ClassId) (h0 : Heap) (n0 : Nat) (v : Option Value) (h : Heap) (L : List Loc) : Prop := ∃ (vx1 : List Value), v = some (.int (6 : Int32)) ∧ Fr n0 L ∧ Keep h0 h [o1] ∧ Exa Z h o1 "[B" ∧ Arv Z h o1 kc_o1 .byte (11 : Int32) vx1 (.int (0 : Int32))
set_option maxRecDepth 65536 in
set_option maxHeartbeats 40000000 in
theorem rm_19 (l : Launch) (Z : State) (a0 : Array Value) (hw : ∀ d ∈ tables_1, d.before a0 Z = true) (w : Nat → Addr) (kk : Nat → ClassId) (iw : Nat → Int32) (vw : Nat → Value) (hN : Wd Z w kk iw vw) (ws : List Jvm.Cond) (o1 : Addr) (p1 : Int32) (kc_o1 : ClassId) (h0 : Heap) (O0 : Old Z Z.heap.size h0) (gn_o1 : Z.heap.size ≤ o1) (lt_o1 : o1 < h0.size) (E_o1 : Exa Z h0 o1 "[B") (V_o1 : Arv Z h0 o1 kc_o1 .byte (11 : Int32) [] (.int (0 : Int32))) (hp0 : p1 < (0 : Int32)) (hp1 : ¬ ((p1 / (10000 : Int32)) = (0 : Int32))) (hp2 : ((p1 / (10000 : Int32)) / (10 : Int32)) = (0 : Int32)) :
    Met l Z (⟨s_1, "writeYear", "([BI)I"⟩ : MethodName) (Jvm.Cond.code (⟨s_1, "writeYear", "([BI)I"⟩ : MethodName) prog_22_method_7_code 7 (some .int)) ws (Rm 0 0 0 0) #[(.ref o1), (.int p1)] h0 (Qd_5 Z w kk iw vw o1 p1 kc_o1 h0 Z.heap.size) := by
  have hN' := hN
  obtain ⟨hS0, hE0, hS1, hE1, hS2, hE2, hI0, hJ0, hR0, hRr0, hEq0⟩ := hN'
  refine own_body (plainFor_of_name pn_0) hisR ?_
  intro p e s m below meth c s₁ hx hby hml hown hnm hret X0 hZ e0
  have N0 := Fr.nil Z.heap.size
  have K0 : Keep h0 h0 [o1] := Keep.refl _ _
  have Vc1 := V_o1
  obtain ⟨cl1, Ar1, q1, Sz1, Ng1, Hv1, Gv1⟩ := Vc1
  have hin1 : ¬ ((0 : Int32) < 0 ∨ cl1.slots.size ≤ ((0 : Int32)).toNatClampNeg) := inb_of Sz1 ⟨(by decide : ¬ ((0 : Int32) < (0 : Int32))), (by decide : (0 : Int32) < (11 : Int32))⟩
  obtain ⟨T2, h2, X2, e2, W2, st2⟩ := stB X0 hx hZ e0 Ar1 (j := (0 : Int32)) hin1 (g := (mkF m 8 #[.val (.ref o1), .val (.int p1), .unset, .unset, .unset, .unset, .unset] [(.int (45 : Int32)), (.int (0 : Int32)), (.ref o1)])) rfl rfl (hb hby d1_8)
  obtain ⟨vl2, V_o1_v2⟩ := own_store V_o1 W2 (fits_nar_byte _) ⟨(by decide : ¬ ((0 : Int32) < (0 : Int32))), (by decide : (0 : Int32) < (11 : Int32))⟩
  have N2 := Fr.snoc X2 N0 gn_o1
  have E_o1_v2 := E_o1.wr W2
  have O2 := O0.wr W2 gn_o1
  have K2 : Keep h0 h2 [o1] := K0.wr W2 (Or.inl (List.mem_of_getElem? (i := 0) rfl))
  obtain ⟨T3, L3, X3, st3, N3, e3⟩ := sg_18 w kk iw vw hN o1 p1 (1 : Int32) p1 (5 : Int32) (p1 / (10000 : Int32)) vl2 kc_o1 X2 hx hZ hw hby hml hown e2 O2 N2 gn_o1 E_o1_v2.lt E_o1_v2 V_o1_v2 hp1
  obtain ⟨T4, L4, vl4_0, z5_4, X4, st4, N4, Kq4, tk4_0, tk4_1⟩ := sg_1 w kk iw vw hN o1 p1 (1 : Int32) p1 (6 : Int32) p1 (5 : Int32) vl2 kc_o1 X3 hx hZ hw hby hml hown e3 O2 N3 gn_o1 E_o1_v2.lt E_o1_v2 V_o1_v2 (by decide : ¬ ((5 : Int32) < (1 : Int32))) (by decide : ¬ ((5 : Int32) < (0 : Int32))) (by decide : (5 : Int32) < (11 : Int32))
  have E_o1_v4 := E_o1_v2.keep Kq4
  have O4 := O2.keep Kq4 (allS gn_o1 all0)
  have K4 : Keep h0 T4.heap [o1] := K2.trans Kq4 (allS (Or.inl (List.mem_of_getElem? (i := 0) rfl)) all0)
  obtain ⟨T5, L5, vl5_0, z5_5, X5, st5, N5, Kq5, tk5_0, tk5_1⟩ := sg_1 w kk iw vw hN o1 p1 (1 : Int32) p1 (6 : Int32) z5_4 (4 : Int32) vl4_0 kc_o1 X4 hx hZ hw hby hml hown rfl O4 N4 gn_o1 tk4_0.lt tk4_0 tk4_1 (by decide : ¬ ((4 : Int32) < (1 : Int32))) (by decide : ¬ ((4 : Int32) < (0 : Int32))) (by decide : (4 : Int32) < (11 : Int32))
  have tk4_0_v5 := tk4_0.keep Kq5
  have O5 := O4.keep Kq5 (allS gn_o1 all0)
  have K5 : Keep h0 T5.heap [o1] := K4.trans Kq5 (allS (Or.inl (List.mem_of_getElem? (i := 0) rfl)) all0)
  obtain ⟨T6, L6, vl6_0, z5_6, X6, st6, N6, Kq6, tk6_0, tk6_1⟩ := sg_1 w kk iw vw hN o1 p1 (1 : Int32) p1 (6 : Int32) z5_5 (3 : Int32) vl5_0 kc_o1 X5 hx hZ hw hby hml hown rfl O5 N5 gn_o1 tk5_0.lt tk5_0 tk5_1 (by decide : ¬ ((3 : Int32) < (1 : Int32))) (by decide : ¬ ((3 : Int32) < (0 : Int32))) (by decide : (3 : Int32) < (11 : Int32))
  have tk5_0_v6 := tk5_0.keep Kq6
  have O6 := O5.keep Kq6 (allS gn_o1 all0)
  have K6 : Keep h0 T6.heap [o1] := K5.trans Kq6 (allS (Or.inl (List.mem_of_getElem? (i := 0) rfl)) all0)
  obtain ⟨T7, L7, vl7_0, z5_7, X7, st7, N7, Kq7, tk7_0, tk7_1⟩ := sg_1 w kk iw vw hN o1 p1 (1 : Int32) p1 (6 : Int32) z5_6 (2 : Int32) vl6_0 kc_o1 X6 hx hZ hw hby hml hown rfl O6 N6 gn_o1 tk6_0.lt tk6_0 tk6_1 (by decide : ¬ ((2 : Int32) < (1 : Int32))) (by decide : ¬ ((2 : Int32) < (0 : Int32))) (by decide : (2 : Int32) < (11 : Int32))
  have tk6_0_v7 := tk6_0.keep Kq7
  have O7 := O6.keep Kq7 (allS gn_o1 all0)
  have K7 : Keep h0 T7.heap [o1] := K6.trans Kq7 (allS (Or.inl (List.mem_of_getElem? (i := 0) rfl)) all0)
  obtain ⟨T8, L8, vl8_0, z5_8, X8, st8, N8, Kq8, tk8_0, tk8_1⟩ := sg_1 w kk iw vw hN o1 p1 (1 : Int32) p1 (6 : Int32) z5_7 (1 : Int32) vl7_0 kc_o1 X7 hx hZ hw hby hml hown rfl O7 N7 gn_o1 tk7_0.lt tk7_0 tk7_1 (by decide : ¬ ((1 : Int32) < (1 : Int32))) (by decide : ¬ ((1 : Int32) < (0 : Int32))) (by decide : (1 : Int32) < (11 : Int32))
  have tk7_0_v8 := tk7_0.keep Kq8
  have O8 := O7.keep Kq8 (allS gn_o1 all0)
  have K8 : Keep h0 T8.heap [o1] := K7.trans Kq8 (allS (Or.inl (List.mem_of_getElem? (i := 0) rfl)) all0)
  refine ⟨T8, some (.int (6 : Int32)), _, _, _, by decide, by decide, X8, nofun, ⟨vl8_0, rfl, N8, K8, tk8_0, tk8_1⟩, fun fs hr => castTop (ef_0 m (.ref o1) rfl (.int p1) rfl) ?_⟩
  show Steps p.tables e below (s₁.setTop (mkF m 0 #[.val (.ref o1), .val (.int p1), .unset, .unset, .unset, .unset, .unset] [])) _
  refine XS.iloadN X0.here hx rfl (hb hby d1_0) rfl ?_
  refine XS.ifNo X0.here hx rfl (hb hby d1_1) rfl ((if0 _ _).trans (tlt hp0).2.1) ?_
  refine XS.aloadN X0.here hx rfl (hb hby d1_4) rfl rfl ?_
  refine XS.iconst X0.here hx rfl (hb hby d1_5) ?_
  refine XS.bipush X0.here hx rfl (hb hby d1_6) ?_
  refine st2 _ ?_
  refine XS.iconst X2.here hx rfl (hb hby d1_9) ?_
  refine XS.istoreN X2.here hx rfl (hb hby d1_10) rfl (l' := #[.val (.ref o1), .val (.int p1), .val (.int (1 : Int32)), .unset, .unset, .unset, .unset]) rfl ?_
  refine XS.goto X2.here hx rfl (pc0 := 11) (pc' := 33) rfl (hb hby d1_11) (by decide) (by decide) ?_
  refine XS.iloadN X2.here hx rfl (hb hby d1_33) rfl ?_
  show Steps p.tables e below (T2.setTop (mkF m 34 #[.val (.ref o1), .val (.int p1), .val (.int (1 : Int32)), .unset, .unset, .unset, .unset] [(.int p1)])) _
  refine XS.ifNo X2.here hx rfl (hb hby d1_34) rfl ((if0 _ _).trans (tlt hp0).2.1) ?_
  refine XS.iloadN X2.here hx rfl (hb hby d1_37) rfl ?_
  refine XS.goto X2.here hx rfl (pc0 := 38) (pc' := 43) rfl (hb hby d1_38) (by decide) (by decide) ?_
  refine XS.istoreN X2.here hx rfl (hb hby d1_43) rfl (l' := #[.val (.ref o1), .val (.int p1), .val (.int (1 : Int32)), .val (.int p1), .unset, .unset, .unset]) rfl ?_
  refine XS.iloadN X2.here hx rfl (hb hby d1_44) rfl ?_
  refine XS.iconst X2.here hx rfl (hb hby d1_45) ?_
  refine XS.iadd X2.here hx rfl (hb hby d1_46) rfl ?_
  show Steps p.tables e below (T2.setTop (mkF m 47 #[.val (.ref o1), .val (.int p1), .val (.int (1 : Int32)), .val (.int p1), .unset, .unset, .unset] [(.int ((1 : Int32) + (4 : Int32)))])) _
  rw [lf_0]
  refine XS.istore X2.here hx rfl (hb hby d1_47) rfl (l' := #[.val (.ref o1), .val (.int p1), .val (.int (1 : Int32)), .val (.int p1), .val (.int (5 : Int32)), .unset, .unset]) rfl ?_
  refine XS.iloadN X2.here hx rfl (hb hby d1_49) rfl ?_
  refine XS.sipush X2.here hx rfl (hb hby d1_50) ?_
  show Steps p.tables e below (T2.setTop (mkF m 53 #[.val (.ref o1), .val (.int p1), .val (.int (1 : Int32)), .val (.int p1), .val (.int (5 : Int32)), .unset, .unset] [(.int (10000 : Int32)), (.int p1)])) _
  refine XS.idiv X2.here hx rfl (hb hby d1_53) rfl (by decide : ¬ ((10000 : Int32) = (0 : Int32))) ?_
  refine XS.istore X2.here hx rfl (hb hby d1_54) rfl (l' := #[.val (.ref o1), .val (.int p1), .val (.int (1 : Int32)), .val (.int p1), .val (.int (5 : Int32)), .val (.int (p1 / (10000 : Int32))), .unset]) rfl ?_
  show Steps p.tables e below (T2.setTop (mkF m 56 #[.val (.ref o1), .val (.int p1), .val (.int (1 : Int32)), .val (.int p1), .val (.int (5 : Int32)), .val (.int (p1 / (10000 : Int32))), .unset] [])) _
  refine st3 _ ?_
  show Steps p.tables e below (T3.setTop (mkF m 56 #[.val (.ref o1), .val (.int p1), .val (.int (1 : Int32)), .val (.int p1), .val (.int ((5 : Int32) + (1 : Int32))), .val (.int ((p1 / (10000 : Int32)) / (10 : Int32))), .unset] [])) _
  rw [lf_12]
  refine XS.iload X3.here hx rfl (hb hby d1_56) rfl ?_
  refine XS.ifYes X3.here hx rfl (pc0 := 58) (pc' := 74) rfl (hb hby d1_58) rfl ((if0 _ _).trans (teq hp2).1) (by decide) (by decide) ?_
  refine XS.iloadN X3.here hx rfl (hb hby d1_74) rfl ?_
  refine XS.istore X3.here hx rfl (hb hby d1_75) rfl (l' := #[.val (.ref o1), .val (.int p1), .val (.int (1 : Int32)), .val (.int p1), .val (.int (6 : Int32)), .val (.int p1), .unset]) rfl ?_
  refine XS.iload X3.here hx rfl (hb hby d1_77) rfl ?_
  refine XS.iconst X3.here hx rfl (hb hby d1_79) ?_
  refine XS.isub X3.here hx rfl (hb hby d1_80) rfl ?_
  show Steps p.tables e below (T3.setTop (mkF m 81 #[.val (.ref o1), .val (.int p1), .val (.int (1 : Int32)), .val (.int p1), .val (.int (6 : Int32)), .val (.int p1), .unset] [(.int ((6 : Int32) - (1 : Int32)))])) _
  rw [lf_13]
  refine XS.istore X3.here hx rfl (hb hby d1_81) rfl (l' := #[.val (.ref o1), .val (.int p1), .val (.int (1 : Int32)), .val (.int p1), .val (.int (6 : Int32)), .val (.int p1), .val (.int (5 : Int32))]) rfl ?_
  show Steps p.tables e below (T3.setTop (mkF m 83 #[.val (.ref o1), .val (.int p1), .val (.int (1 : Int32)), .val (.int p1), .val (.int (6 : Int32)), .val (.int p1), .val (.int (5 : Int32))] [])) _
  refine st4 _ ?_
  show Steps p.tables e below (T4.setTop (mkF m 83 #[.val (.ref o1), .val (.int p1), .val (.int (1 : Int32)), .val (.int p1), .val (.int (6 : Int32)), .val (.int z5_4), .val (.int ((5 : Int32) + (-1 : Int32)))] [])) _
  rw [lf_14]
  show Steps p.tables e below (T4.setTop (mkF m 83 #[.val (.ref o1), .val (.int p1), .val (.int (1 : Int32)), .val (.int p1), .val (.int (6 : Int32)), .val (.int z5_4), .val (.int (4 : Int32))] [])) _
  refine st5 _ ?_
  show Steps p.tables e below (T5.setTop (mkF m 83 #[.val (.ref o1), .val (.int p1), .val (.int (1 : Int32)), .val (.int p1), .val (.int (6 : Int32)), .val (.int z5_5), .val (.int ((4 : Int32) + (-1 : Int32)))] [])) _
  rw [lf_2]
  show Steps p.tables e below (T5.setTop (mkF m 83 #[.val (.ref o1), .val (.int p1), .val (.int (1 : Int32)), .val (.int p1), .val (.int (6 : Int32)), .val (.int z5_5), .val (.int (3 : Int32))] [])) _
  refine st6 _ ?_
  show Steps p.tables e below (T6.setTop (mkF m 83 #[.val (.ref o1), .val (.int p1), .val (.int (1 : Int32)), .val (.int p1), .val (.int (6 : Int32)), .val (.int z5_6), .val (.int ((3 : Int32) + (-1 : Int32)))] [])) _
  rw [lf_3]
  show Steps p.tables e below (T6.setTop (mkF m 83 #[.val (.ref o1), .val (.int p1), .val (.int (1 : Int32)), .val (.int p1), .val (.int (6 : Int32)), .val (.int z5_6), .val (.int (2 : Int32))] [])) _
  refine st7 _ ?_
  show Steps p.tables e below (T7.setTop (mkF m 83 #[.val (.ref o1), .val (.int p1), .val (.int (1 : Int32)), .val (.int p1), .val (.int (6 : Int32)), .val (.int z5_7), .val (.int ((2 : Int32) + (-1 : Int32)))] [])) _
  rw [lf_4]
  show Steps p.tables e below (T7.setTop (mkF m 83 #[.val (.ref o1), .val (.int p1), .val (.int (1 : Int32)), .val (.int p1), .val (.int (6 : Int32)), .val (.int z5_7), .val (.int (1 : Int32))] [])) _
  refine st8 _ ?_
  show Steps p.tables e below (T8.setTop (mkF m 83 #[.val (.ref o1), .val (.int p1), .val (.int (1 : Int32)), .val (.int p1), .val (.int (6 : Int32)), .val (.int z5_8), .val (.int ((1 : Int32) + (-1 : Int32)))] [])) _
  rw [lf_5]
  refine XS.iload X8.here hx rfl (hb hby d1_83) rfl ?_
  refine XS.iloadN X8.here hx rfl (hb hby d1_85) rfl ?_
  refine XS.icmpYes X8.here hx rfl (pc0 := 86) (pc' := 115) rfl (hb hby d1_86) rfl (tlt (by decide : (0 : Int32) < (1 : Int32))).1 (by decide) (by decide) ?_
  refine XS.iload X8.here hx rfl (hb hby d1_115) rfl ?_
  show Steps p.tables e below (T8.setTop (mkF m 117 #[.val (.ref o1), .val (.int p1), .val (.int (1 : Int32)), .val (.int p1), .val (.int (6 : Int32)), .val (.int z5_8), .val (.int (0 : Int32))] [(.int (6 : Int32))])) _
  exact retI X8 hx hret (hb hby d1_117) hr
theorem lf_15 : ((11 : Int32) ||| (6 : Int32)) = (15 : Int32) := by decide
set_option maxRecDepth 65536 in
set_option maxHeartbeats 40000000 in
theorem rm_20 (l : Launch) (Z : State) (a0 : Array Value) (hw : ∀ d ∈ tables_1, d.before a0 Z = true) (w : Nat → Addr) (kk : Nat → ClassId) (iw : Nat → Int32) (vw : Nat → Value) (hN : Wd Z w kk iw vw) (ws : List Jvm.Cond)  (h0 : Heap) (O0 : Old Z Z.heap.size h0) :
    Met l Z (⟨s_6, s_11, s_5⟩ : MethodName) (Jvm.Cond.code (⟨s_6, s_11, s_5⟩ : MethodName) jdk_41_method_13_code 4 (some .int)) ws (Rm 0 0 0 0) #[(.int (0 : Int32)), (.int (6 : Int32)), (.int (11 : Int32)), (vw 0)] h0 (OQ (some (.int (0 : Int32))) h0 Z.heap.size) := by
  have hN' := hN
  obtain ⟨hS0, hE0, hS1, hE1, hS2, hE2, hI0, hJ0, hR0, hRr0, hEq0⟩ := hN'
  refine own_body (plainFor_of_name pn_2) hisR ?_
  intro p e s m below meth c s₁ hx hby hml hown hnm hret X0 hZ e0
  have N0 := Fr.nil Z.heap.size
  refine ⟨s₁, some (.int (0 : Int32)), _, _, _, by decide, by decide, X0, nofun, (by rw [e0]; exact ⟨rfl, N0, rfl⟩), fun fs hr => castTop (ef_2 m (.int (0 : Int32)) rfl (.int (6 : Int32)) rfl (.int (11 : Int32)) rfl (vw 0) (own_cat hRr0)) ?_⟩
  show Steps p.tables e below (s₁.setTop (mkF m 0 #[.val (.int (0 : Int32)), .val (.int (6 : Int32)), .val (.int (11 : Int32)), .val (vw 0)] [])) _
  refine XS.iloadN X0.here hx rfl (hb hby d6_0) rfl ?_
  refine XS.iloadN X0.here hx rfl (hb hby d6_1) rfl ?_
  refine XS.ior X0.here hx rfl (hb hby d6_2) rfl ?_
  show Steps p.tables e below (s₁.setTop (mkF m 3 #[.val (.int (0 : Int32)), .val (.int (6 : Int32)), .val (.int (11 : Int32)), .val (vw 0)] [(.int ((11 : Int32) ||| (0 : Int32)))])) _
  rw [lf_6]
  refine XS.iloadN X0.here hx rfl (hb hby d6_3) rfl ?_
  refine XS.ior X0.here hx rfl (hb hby d6_4) rfl ?_
  show Steps p.tables e below (s₁.setTop (mkF m 5 #[.val (.int (0 : Int32)), .val (.int (6 : Int32)), .val (.int (11 : Int32)), .val (vw 0)] [(.int ((11 : Int32) ||| (6 : Int32)))])) _
  rw [lf_15]
  refine XS.ifNo X0.here hx rfl (hb hby d6_5) rfl ((if0 _ _).trans (flt (by decide : ¬ ((15 : Int32) < (0 : Int32)))).1) ?_
  refine XS.iloadN X0.here hx rfl (hb hby d6_8) rfl ?_
  refine XS.iloadN X0.here hx rfl (hb hby d6_9) rfl ?_
  refine XS.iloadN X0.here hx rfl (hb hby d6_10) rfl ?_
  refine XS.isub X0.here hx rfl (hb hby d6_11) rfl ?_
  show Steps p.tables e below (s₁.setTop (mkF m 12 #[.val (.int (0 : Int32)), .val (.int (6 : Int32)), .val (.int (11 : Int32)), .val (vw 0)] [(.int ((11 : Int32) - (0 : Int32))), (.int (6 : Int32))])) _
  rw [lf_8]
  show Steps p.tables e below (s₁.setTop (mkF m 12 #[.val (.int (0 : Int32)), .val (.int (6 : Int32)), .val (.int (11 : Int32)), .val (vw 0)] [(.int (11 : Int32)), (.int (6 : Int32))])) _
  refine XS.icmpYes X0.here hx rfl (pc0 := 12) (pc' := 23) rfl (hb hby d6_12) rfl (flt (by decide : ¬ ((11 : Int32) < (6 : Int32)))).2.2.2 (by decide) (by decide) ?_
  refine XS.iloadN X0.here hx rfl (hb hby d6_23) rfl ?_
  show Steps p.tables e below (s₁.setTop (mkF m 24 #[.val (.int (0 : Int32)), .val (.int (6 : Int32)), .val (.int (11 : Int32)), .val (vw 0)] [(.int (0 : Int32))])) _
  exact retI X0 hx hret (hb hby d6_24) hr
set_option maxRecDepth 65536 in
set_option maxHeartbeats 40000000 in
theorem rm_21 (l : Launch) (Z : State) (a0 : Array Value) (hw : ∀ d ∈ tables_1, d.before a0 Z = true) (w : Nat → Addr) (kk : Nat → ClassId) (iw : Nat → Int32) (vw : Nat → Value) (hN : Wd Z w kk iw vw) (ws : List Jvm.Cond)  (h0 : Heap) (O0 : Old Z Z.heap.size h0) :
    Met l Z (⟨s_0, s_10, "(III)I"⟩ : MethodName) (Jvm.Cond.code (⟨s_0, s_10, "(III)I"⟩ : MethodName) jdk_42_method_157_code 3 (some .int)) ws (Rm 1 0 0 15) #[(.int (0 : Int32)), (.int (6 : Int32)), (.int (11 : Int32))] h0 (OQ (some (.int (0 : Int32))) h0 Z.heap.size) := by
  have hN' := hN
  obtain ⟨hS0, hE0, hS1, hE1, hS2, hE2, hI0, hJ0, hR0, hRr0, hEq0⟩ := hN'
  refine own_body (plainFor_of_name pn_3) hisR ?_
  intro p e s m below meth c s₁ hx hby hml hown hnm hret X0 hZ e0
  have N0 := Fr.nil Z.heap.size
  obtain ⟨T1, X1, e1, st1⟩ := getS2 X0 hx hZ hown (host := "") (Or.inl (W hw 28 rfl)) Via.refl e0 (hR0.ext O0.2) (g := (mkF m 3 #[.val (.int (0 : Int32)), .val (.int (6 : Int32)), .val (.int (11 : Int32))] [(.int (11 : Int32)), (.int (6 : Int32)), (.int (0 : Int32))])) rfl (hb hby d5_3)
  obtain ⟨_, _, ⟨T2, L2, k2, n2⟩, -, X2, ⟨Lc2, hQ2, l2, y2, z2⟩, st2⟩ := Jvm.LawKit.callS X1 hx (y := (⟨s_6, s_11, s_5⟩ : MethodName)) hown (mvT hZ (W hw 30 rfl)) (mvT hZ (W hw 31 rfl)) (mvT hZ (W hw 29 rfl)) (mvT hZ (W hw 32 rfl)) (by decide) (backOf (W := 0) (rm_20 l Z a0 hw w kk iw vw hN [] h0 O0) hZ (W hw 32 rfl) (W hw 29 rfl) (by decide) (by decide)) (g := (mkF m 6 #[.val (.int (0 : Int32)), .val (.int (6 : Int32)), .val (.int (11 : Int32))] [(vw 0), (.int (11 : Int32)), (.int (6 : Int32)), (.int (0 : Int32))])) rfl (by rw [hml]; rfl) (argsL := [(.int (0 : Int32)), (.int (6 : Int32)), (.int (11 : Int32)), (vw 0)]) (rest := []) (lenOf pd_2 rfl) rfl (by show 2 * 0 + _ ≤ _; exact Nat.le_of_eq rfl) (hb hby d5_6) (fun _ _ => ⟨rfl, e1, (by decide : 0 + 0 ≤ _), (by decide : 0 + 0 ≤ _)⟩)
  dsimp only [Pt.U, Pt.locs, Pt.cells, Pt.slots] at X2 l2 y2 z2 st2 hQ2
  subst l2 y2 z2
  obtain ⟨rfl, N2q, e2⟩ := hQ2
  have N2 := Fr.app N0 N2q
  refine ⟨T2, some (.int (0 : Int32)), _, _, _, by decide, by decide, X2, nofun, (by rw [e2]; exact ⟨rfl, N2, rfl⟩), fun fs hr => castTop (ef_3 m (.int (0 : Int32)) rfl (.int (6 : Int32)) rfl (.int (11 : Int32)) rfl) ?_⟩
  show Steps p.tables e below (s₁.setTop (mkF m 0 #[.val (.int (0 : Int32)), .val (.int (6 : Int32)), .val (.int (11 : Int32))] [])) _
  refine XS.iloadN X0.here hx rfl (hb hby d5_0) rfl ?_
  refine XS.iloadN X0.here hx rfl (hb hby d5_1) rfl ?_
  refine XS.iloadN X0.here hx rfl (hb hby d5_2) rfl ?_
  refine st1 _ ?_
  refine st2 _ ?_
  show Steps p.tables e below (T2.setTop (mkF m 9 #[.val (.int (0 : Int32)), .val (.int (6 : Int32)), .val (.int (11 : Int32))] [(.int (0 : Int32))])) _
  exact retI X2 hx hret (hb hby d5_9) hr
theorem lf_16 : ((0 : Int32) + (6 : Int32)) = (6 : Int32) := by decide
set_option maxRecDepth 65536 in
set_option maxHeartbeats 40000000 in
theorem rm_22 (l : Launch) (Z : State) (a0 : Array Value) (hw : ∀ d ∈ tables_1, d.before a0 Z = true) (w : Nat → Addr) (kk : Nat → ClassId) (iw : Nat → Int32) (vw : Nat → Value) (hN : Wd Z w kk iw vw) (ws : List Jvm.Cond)  (h0 : Heap) (O0 : Old Z Z.heap.size h0) :
    Met l Z (⟨s_2, "checkLength", "(II)V"⟩ : MethodName) (Jvm.Cond.code (⟨s_2, "checkLength", "(II)V"⟩ : MethodName) jdk_65_method_131_code 2 none) ws (Rm 0 0 0 0) #[(.int (0 : Int32)), (.int (6 : Int32))] h0 (OQ (none) h0 Z.heap.size) := by
  have hN' := hN
  obtain ⟨hS0, hE0, hS1, hE1, hS2, hE2, hI0, hJ0, hR0, hRr0, hEq0⟩ := hN'
  refine own_body (plainFor_of_name pn_4) hisR ?_
  intro p e s m below meth c s₁ hx hby hml hown hnm hret X0 hZ e0
  have N0 := Fr.nil Z.heap.size
  refine ⟨s₁, none, _, _, _, by decide, by decide, X0, (fun _ => rfl), (by rw [e0]; exact ⟨rfl, N0, rfl⟩), fun fs hr => castTop (ef_4 m (.int (0 : Int32)) rfl (.int (6 : Int32)) rfl) ?_⟩
  show Steps p.tables e below (s₁.setTop (mkF m 0 #[.val (.int (0 : Int32)), .val (.int (6 : Int32))] [])) _
  refine XS.iloadN X0.here hx rfl (hb hby d10_0) rfl ?_
  refine XS.iloadN X0.here hx rfl (hb hby d10_1) rfl ?_
  refine XS.icmpYes X0.here hx rfl (pc0 := 2) (pc' := 37) rfl (hb hby d10_2) rfl (flt (by decide : ¬ ((6 : Int32) < (0 : Int32)))).2.1 (by decide) (by decide) ?_
  show Steps p.tables e below (s₁.setTop (mkF m 37 #[.val (.int (0 : Int32)), .val (.int (6 : Int32))] [])) _
  exact X0.returnOut hx hret (hb hby d10_37) hr
theorem lf_17 : ((6 : Int32) - (0 : Int32)) = (6 : Int32) := by decide
set_option maxRecDepth 65536 in
set_option maxHeartbeats 40000000 in
theorem rm_23 (l : Launch) (Z : State) (a0 : Array Value) (hw : ∀ d ∈ tables_1, d.before a0 Z = true) (w : Nat → Addr) (kk : Nat → ClassId) (iw : Nat → Int32) (vw : Nat → Value) (hN : Wd Z w kk iw vw) (ws : List Jvm.Cond)  (h0 : Heap) (O0 : Old Z Z.heap.size h0) :
    Met l Z (⟨s_14, "min", "(II)I"⟩ : MethodName) (Jvm.Cond.code (⟨s_14, "min", "(II)I"⟩ : MethodName) jdk_29_method_69_code 2 (some .int)) ws (Rm 0 0 0 0) #[(.int (11 : Int32)), (.int (6 : Int32))] h0 (OQ (some (.int (6 : Int32))) h0 Z.heap.size) := by
  have hN' := hN
  obtain ⟨hS0, hE0, hS1, hE1, hS2, hE2, hI0, hJ0, hR0, hRr0, hEq0⟩ := hN'
  refine own_body (Jvm.Free.JP.mathPlain rfl (by decide +kernel)) hisR ?_
  intro p e s m below meth c s₁ hx hby hml hown hnm hret X0 hZ e0
  have N0 := Fr.nil Z.heap.size
  refine ⟨s₁, some (.int (6 : Int32)), _, _, _, by decide, by decide, X0, nofun, (by rw [e0]; exact ⟨rfl, N0, rfl⟩), fun fs hr => castTop (ef_4 m (.int (11 : Int32)) rfl (.int (6 : Int32)) rfl) ?_⟩
  show Steps p.tables e below (s₁.setTop (mkF m 0 #[.val (.int (11 : Int32)), .val (.int (6 : Int32))] [])) _
  refine XS.iloadN X0.here hx rfl (hb hby d11_0) rfl ?_
  refine XS.iloadN X0.here hx rfl (hb hby d11_1) rfl ?_
  refine XS.icmpYes X0.here hx rfl (pc0 := 2) (pc' := 9) rfl (hb hby d11_2) rfl (tlt (by decide : (6 : Int32) < (11 : Int32))).2.2.1 (by decide) (by decide) ?_
  refine XS.iloadN X0.here hx rfl (hb hby d11_9) rfl ?_
  show Steps p.tables e below (s₁.setTop (mkF m 10 #[.val (.int (11 : Int32)), .val (.int (6 : Int32))] [(.int (6 : Int32))])) _
  exact retI X0 hx hret (hb hby d11_10) hr
def Qd_6 (Z : State) (w : Nat → Addr) (kk : Nat → ClassId) (iw : Nat → Int32) (vw : Nat → Value) (o1 : Addr) (vl_o1 : List Value) (kc_o1 : ClassId) (h0 : Heap) (n0 : Nat) (v : Option Value) (h : Heap) (L : List Loc) : Prop := ∃ (c1 : Addr) (kc1 : ClassId) (vx1 : List Value), v = some (.ref c1) ∧ Fr n0 L ∧ Keep h0 h [] ∧ h0.size ≤ c1 ∧ Exa Z h c1 "[B" ∧ Arv Z h c1 kc1 .byte (6 : Int32) vx1 (.int (0 : Int32))
set_option maxRecDepth 65536 in
set_option maxHeartbeats 40000000 in
theorem rm_24 (l : Launch) (Z : State) (a0 : Array Value) (hw : ∀ d ∈ tables_1, d.before a0 Z = true) (w : Nat → Addr) (kk : Nat → ClassId) (iw : Nat → Int32) (vw : Nat → Value) (hN : Wd Z w kk iw vw) (ws : List Jvm.Cond) (o1 : Addr) (vl_o1 : List Value) (kc_o1 : ClassId) (h0 : Heap) (O0 : Old Z Z.heap.size h0) (gn_o1 : Z.heap.size ≤ o1) (lt_o1 : o1 < h0.size) (E_o1 : Exa Z h0 o1 "[B") (V_o1 : Arv Z h0 o1 kc_o1 .byte (11 : Int32) vl_o1 (.int (0 : Int32))) :
    Met l Z (⟨s_2, s_13, "([BII)[B"⟩ : MethodName) (Jvm.Cond.code (⟨s_2, s_13, "([BII)[B"⟩ : MethodName) jdk_65_method_133_code 5 (some (.array .byte))) ws (Rm 1 1 6 18) #[(.ref o1), (.int (0 : Int32)), (.int (6 : Int32))] h0 (Qd_6 Z w kk iw vw o1 vl_o1 kc_o1 h0 Z.heap.size) := by
  have hN' := hN
  obtain ⟨hS0, hE0, hS1, hE1, hS2, hE2, hI0, hJ0, hR0, hRr0, hEq0⟩ := hN'
  refine own_body (plainFor_of_name pn_4) hisR ?_
  intro p e s m below meth c s₁ hx hby hml hown hnm hret X0 hZ e0
  have N0 := Fr.nil Z.heap.size
  have K0 : Keep h0 h0 [] := Keep.refl _ _
  obtain ⟨_, _, ⟨T1, L1, k1, n1⟩, -, X1, ⟨Lc1, hQ1, l1, y1, z1⟩, st1⟩ := Jvm.LawKit.callS X0 hx (y := (⟨s_2, "checkLength", "(II)V"⟩ : MethodName)) hown (mvT hZ (W hw 52 rfl)) (mvT hZ (W hw 53 rfl)) (mvT hZ (W hw 47 rfl)) (mvT hZ (W hw 54 rfl)) (by decide) (backOf (W := 0) (rm_22 l Z a0 hw w kk iw vw hN [] h0 O0) hZ (W hw 54 rfl) (W hw 47 rfl) (by decide) (by decide)) (g := (mkF m 2 #[.val (.ref o1), .val (.int (0 : Int32)), .val (.int (6 : Int32)), .unset, .unset] [(.int (6 : Int32)), (.int (0 : Int32))])) rfl (by rw [hml]; rfl) (argsL := [(.int (0 : Int32)), (.int (6 : Int32))]) (rest := []) (lenOf pd_4 rfl) rfl (by show 2 * 0 + _ ≤ _; exact Nat.le_of_eq rfl) (hb hby d9_2) (fun _ _ => ⟨rfl, e0, (by decide : 0 + 0 ≤ _), (by decide : 0 + 0 ≤ _)⟩)
  dsimp only [Pt.U, Pt.locs, Pt.cells, Pt.slots] at X1 l1 y1 z1 st1 hQ1
  subst l1 y1 z1
  obtain ⟨rfl, N1q, e1⟩ := hQ1
  have N1 := Fr.app N0 N1q
  obtain ⟨T2, h2, k2, X2, e2, E2, A2, AE2, st2⟩ := newPE X1 hx hZ (W hw 4 rfl) e1 (g := (mkF m 10 #[.val (.ref o1), .val (.int (0 : Int32)), .val (.int (6 : Int32)), .val (.int (6 : Int32)), .unset] [(.int (6 : Int32))])) rfl (hb hby d9_10) rfl (by decide) (cap := 6) (by decide) (by decide) (by decide) (by decide) (ad := "[B") rfl
  obtain ⟨b2, g2⟩ : ∃ z, z = h0.size := ⟨_, rfl⟩
  rw [← g2] at A2 st2 AE2
  have gn_b2 : Z.heap.size ≤ b2 := Nat.le_trans O0.2.1 (Nat.le_of_eq g2.symm)
  have sz_b2 : h0.size ≤ b2 := Nat.le_trans K0.1 (Nat.le_of_eq g2.symm)
  have ne_o1_b2 : o1 ≠ b2 := Nat.ne_of_lt (Nat.lt_of_lt_of_le E_o1.lt (Nat.le_of_eq g2.symm))
  have E_o1_v2 := E_o1.ext E2
  have V_o1_v2 := V_o1.ext E2
  have O2 := O0.ext E2
  have K2 := K0.ext E2
  have E_b2_v2 := AE2
  have V_b2_v2 : Arv Z h2 b2 k2 .byte (6 : Int32) [] (.int (0 : Int32)) := Arv.new A2 (by decide)
  obtain ⟨cl3, Ar3, q3, Sz3, Ng3, Hv3, Gv3⟩ := id V_o1_v2
  obtain ⟨_, _, ⟨T4, L4, k4, n4⟩, -, X4, ⟨Lc4, hQ4, l4, y4, z4⟩, st4⟩ := Jvm.LawKit.callS X2 hx (y := (⟨s_14, "min", "(II)I"⟩ : MethodName)) hown (mvT hZ (W hw 55 rfl)) (mvT hZ (W hw 56 rfl)) (mvT hZ (W hw 57 rfl)) (mvT hZ (W hw 58 rfl)) (by decide) (backOf (W := 4) (rm_23 l Z a0 hw w kk iw vw hN [] h2 O2) hZ (W hw 58 rfl) (W hw 57 rfl) (by decide) (by decide)) (g := (mkF m 24 #[.val (.ref o1), .val (.int (0 : Int32)), .val (.int (6 : Int32)), .val (.int (6 : Int32)), .val (.ref b2)] [(.int (6 : Int32)), (.int (11 : Int32)), (.int (0 : Int32)), (.ref b2), (.int (0 : Int32)), (.ref o1)])) rfl (by rw [hml]; rfl) (argsL := [(.int (11 : Int32)), (.int (6 : Int32))]) (rest := [(.int (0 : Int32)), (.ref b2), (.int (0 : Int32)), (.ref o1)]) (lenOf pd_5 rfl) rfl (by show 2 * 0 + _ ≤ _; exact Nat.le_of_eq rfl) (hb hby d9_24) (fun _ _ => ⟨rfl, e2, (by decide : 1 + 0 ≤ _), (by decide : 6 + 0 ≤ _)⟩)
  dsimp only [Pt.U, Pt.locs, Pt.cells, Pt.slots] at X4 l4 y4 z4 st4 hQ4
  subst l4 y4 z4
  obtain ⟨rfl, N4q, e4⟩ := hQ4
  have N4 := Fr.app N1 N4q
  have V_b2_v5 : Arv Z h2 b2 k2 .byte (6 : Int32) [(.int (0 : Int32)), (.int (0 : Int32)), (.int (0 : Int32)), (.int (0 : Int32)), (.int (0 : Int32)), (.int (0 : Int32))] (.int (0 : Int32)) := V_b2_v2.pad (pad_rep [] (.int (0 : Int32)) 6)
  obtain ⟨T6, h6, L6, X6, e6, N6, Kq6, Vc6, st6⟩ := cpA X4 hx hZ hown (W hw 59 rfl) (W hw 62 rfl) (W hw 60 rfl) (W hw 61 rfl) e4 V_o1_v2 V_b2_v5  (Or.inl ⟨rfl, rfl⟩) (by decide) (by decide) (by decide) (by decide) (by decide) rfl (by decide) N4 gn_b2 (g := (mkF m 27 #[.val (.ref o1), .val (.int (0 : Int32)), .val (.int (6 : Int32)), .val (.int (6 : Int32)), .val (.ref b2)] [(.int (6 : Int32)), (.int (0 : Int32)), (.ref b2), (.int (0 : Int32)), (.ref o1)])) rfl (by rw [hml]; rfl) rfl (hb hby d9_27) (by decide) (W := 0) (by show 2 * 0 + _ ≤ _; exact Nat.le_of_eq rfl) (by decide)
  have E_o1_v6 := E_o1_v2.keep Kq6
  have V_o1_v6 := V_o1_v2.keep Kq6 (ninS ne_o1_b2 nin0)
  have E_b2_v6 := E_b2_v2.keep Kq6
  have O6 := O2.keep Kq6 (allS gn_b2 all0)
  have K6 : Keep h0 h6 [] := K2.trans Kq6 (allS (Or.inr sz_b2) all0)
  obtain ⟨vl6, V_b2_v6⟩ : ∃ vs, Arv Z h6 b2 k2 .byte (6 : Int32) vs (.int (0 : Int32)) := ⟨_, Vc6⟩
  refine ⟨T6, some (.ref b2), _, _, _, by decide, by decide, X6, nofun, (by rw [e6]; exact ⟨b2, k2, vl6, rfl, N6, K6, sz_b2, E_b2_v6, V_b2_v6⟩), fun fs hr => castTop (ef_5 m (.ref o1) rfl (.int (0 : Int32)) rfl (.int (6 : Int32)) rfl) ?_⟩
  show Steps p.tables e below (s₁.setTop (mkF m 0 #[.val (.ref o1), .val (.int (0 : Int32)), .val (.int (6 : Int32)), .unset, .unset] [])) _
  refine XS.iloadN X0.here hx rfl (hb hby d9_0) rfl ?_
  refine XS.iloadN X0.here hx rfl (hb hby d9_1) rfl ?_
  refine st1 _ ?_
  refine XS.iloadN X1.here hx rfl (hb hby d9_5) rfl ?_
  refine XS.iloadN X1.here hx rfl (hb hby d9_6) rfl ?_
  refine XS.isub X1.here hx rfl (hb hby d9_7) rfl ?_
  show Steps p.tables e below (T1.setTop (mkF m 8 #[.val (.ref o1), .val (.int (0 : Int32)), .val (.int (6 : Int32)), .unset, .unset] [(.int ((6 : Int32) - (0 : Int32)))])) _
  rw [lf_17]
  refine XS.istoreN X1.here hx rfl (hb hby d9_8) rfl (l' := #[.val (.ref o1), .val (.int (0 : Int32)), .val (.int (6 : Int32)), .val (.int (6 : Int32)), .unset]) rfl ?_
  refine XS.iloadN X1.here hx rfl (hb hby d9_9) rfl ?_
  refine st2 _ ?_
  refine XS.astore X2.here hx rfl (hb hby d9_12) rfl rfl (l' := #[.val (.ref o1), .val (.int (0 : Int32)), .val (.int (6 : Int32)), .val (.int (6 : Int32)), .val (.ref b2)]) rfl ?_
  show Steps p.tables e below (T2.setTop (mkF m 14 #[.val (.ref o1), .val (.int (0 : Int32)), .val (.int (6 : Int32)), .val (.int (6 : Int32)), .val (.ref b2)] [])) _
  refine XS.aloadN X2.here hx rfl (hb hby d9_14) rfl rfl ?_
  refine XS.iloadN X2.here hx rfl (hb hby d9_15) rfl ?_
  refine XS.aload X2.here hx rfl (hb hby d9_16) rfl rfl ?_
  refine XS.iconst X2.here hx rfl (hb hby d9_18) ?_
  refine XS.aloadN X2.here hx rfl (hb hby d9_19) rfl rfl ?_
  refine X2.arraylength hx (by rw [e2]; exact Ar3.1) (State.isArrayOf_alike hZ.alike Ar3.2.1) (g := (mkF m 20 #[.val (.ref o1), .val (.int (0 : Int32)), .val (.int (6 : Int32)), .val (.int (6 : Int32)), .val (.ref b2)] [(.ref o1), (.int (0 : Int32)), (.ref b2), (.int (0 : Int32)), (.ref o1)])) rfl rfl (hb hby d9_20) _ ?_
  rw [len_of Sz3 Ng3]
  refine XS.iloadN X2.here hx rfl (hb hby d9_21) rfl ?_
  refine XS.isub X2.here hx rfl (hb hby d9_22) rfl ?_
  show Steps p.tables e below (T2.setTop (mkF m 23 #[.val (.ref o1), .val (.int (0 : Int32)), .val (.int (6 : Int32)), .val (.int (6 : Int32)), .val (.ref b2)] [(.int ((11 : Int32) - (0 : Int32))), (.int (0 : Int32)), (.ref b2), (.int (0 : Int32)), (.ref o1)])) _
  rw [lf_8]
  refine XS.iloadN X2.here hx rfl (hb hby d9_23) rfl ?_
  refine st4 _ ?_
  show Steps p.tables e below (T4.setTop (mkF m 27 #[.val (.ref o1), .val (.int (0 : Int32)), .val (.int (6 : Int32)), .val (.int (6 : Int32)), .val (.ref b2)] [(.int (6 : Int32)), (.int (0 : Int32)), (.ref b2), (.int (0 : Int32)), (.ref o1)])) _
  refine st6 _ ?_
  refine XS.aload X6.here hx rfl (hb hby d9_30) rfl rfl ?_
  show Steps p.tables e below (T6.setTop (mkF m 32 #[.val (.ref o1), .val (.int (0 : Int32)), .val (.int (6 : Int32)), .val (.int (6 : Int32)), .val (.ref b2)] [(.ref b2)])) _
  exact retOut X6 hx hret rfl (Or.inr (Or.inr (Or.inr (Or.inr ⟨rfl, rfl, rfl⟩)))) (hb hby d9_32) hr
set_option maxRecDepth 65536 in
set_option maxHeartbeats 40000000 in
theorem rm_25 (l : Launch) (Z : State) (a0 : Array Value) (hw : ∀ d ∈ tables_1, d.before a0 Z = true) (w : Nat → Addr) (kk : Nat → ClassId) (iw : Nat → Int32) (vw : Nat → Value) (hN : Wd Z w kk iw vw) (ws : List Jvm.Cond) (o1 : Addr) (vl_o1 : List Value) (kc_o1 : ClassId) (h0 : Heap) (O0 : Old Z Z.heap.size h0) (gn_o1 : Z.heap.size ≤ o1) (lt_o1 : o1 < h0.size) (E_o1 : Exa Z h0 o1 "[B") (V_o1 : Arv Z h0 o1 kc_o1 .byte (11 : Int32) vl_o1 (.int (0 : Int32))) :
    Met l Z (⟨s_2, "copyOfRange", "([BII)[B"⟩ : MethodName) (Jvm.Cond.code (⟨s_2, "copyOfRange", "([BII)[B"⟩ : MethodName) jdk_65_method_132_code 3 (some (.array .byte))) ws (Rm 2 1 6 34) #[(.ref o1), (.int (0 : Int32)), (.int (6 : Int32))] h0 (Qd_6 Z w kk iw vw o1 vl_o1 kc_o1 h0 Z.heap.size) := by
  have hN' := hN
  obtain ⟨hS0, hE0, hS1, hE1, hS2, hE2, hI0, hJ0, hR0, hRr0, hEq0⟩ := hN'
  refine own_body (plainFor_of_name pn_4) hisR ?_
  intro p e s m below meth c s₁ hx hby hml hown hnm hret X0 hZ e0
  have N0 := Fr.nil Z.heap.size
  have K0 : Keep h0 h0 [] := Keep.refl _ _
  obtain ⟨cl1, Ar1, q1, Sz1, Ng1, Hv1, Gv1⟩ := id V_o1
  obtain ⟨_, _, ⟨T2, L2, k2, n2⟩, -, X2, ⟨Lc2, hQ2, l2, y2, z2⟩, st2⟩ := Jvm.LawKit.callS X0 hx (y := (⟨s_2, s_13, "([BII)[B"⟩ : MethodName)) hown (mvT hZ (W hw 49 rfl)) (mvT hZ (W hw 50 rfl)) (mvT hZ (W hw 47 rfl)) (mvT hZ (W hw 51 rfl)) (by decide) (backOf (W := 0) (rm_24 l Z a0 hw w kk iw vw hN [] o1 vl_o1 kc_o1 h0 O0 gn_o1 E_o1.lt E_o1 V_o1) hZ (W hw 51 rfl) (W hw 47 rfl) (by decide) (by decide)) (g := (mkF m 13 #[.val (.ref o1), .val (.int (0 : Int32)), .val (.int (6 : Int32))] [(.int (6 : Int32)), (.int (0 : Int32)), (.ref o1)])) rfl (by rw [hml]; rfl) (argsL := [(.ref o1), (.int (0 : Int32)), (.int (6 : Int32))]) (rest := []) (lenOf pd_6 rfl) rfl (by show 2 * 0 + _ ≤ _; exact Nat.le_of_eq rfl) (hb hby d8_13) (fun _ _ => ⟨rfl, e0, (by decide : 0 + 1 ≤ _), (by decide : 0 + 6 ≤ _)⟩)
  dsimp only [Pt.U, Pt.locs, Pt.cells, Pt.slots] at X2 l2 y2 z2 st2 hQ2
  subst l2 y2 z2
  obtain ⟨b2_0, kb2_0, vl2_0, rfl, N2q, Kq2, tk2_0, tk2_1, tk2_2⟩ := hQ2
  have N2 := Fr.app N0 N2q
  have gn_b2_0 : Z.heap.size ≤ b2_0 := Nat.le_trans O0.2.1 tk2_0
  have sz_b2_0 : h0.size ≤ b2_0 := Nat.le_trans K0.1 tk2_0
  have ne_o1_b2_0 : o1 ≠ b2_0 := Nat.ne_of_lt (Nat.lt_of_lt_of_le E_o1.lt tk2_0)
  have E_o1_v2 := E_o1.keep Kq2
  have V_o1_v2 := V_o1.keep Kq2 nin0
  have O2 := O0.keep Kq2 all0
  have K2 : Keep h0 T2.heap [] := K0.trans Kq2 all0
  refine ⟨T2, some (.ref b2_0), _, _, _, by decide, by decide, X2, nofun, ⟨b2_0, kb2_0, vl2_0, rfl, N2, K2, sz_b2_0, tk2_1, tk2_2⟩, fun fs hr => castTop (ef_6 m (.ref o1) rfl (.int (0 : Int32)) rfl (.int (6 : Int32)) rfl) ?_⟩
  show Steps p.tables e below (s₁.setTop (mkF m 0 #[.val (.ref o1), .val (.int (0 : Int32)), .val (.int (6 : Int32))] [])) _
  refine XS.iloadN X0.here hx rfl (hb hby d8_0) rfl ?_
  refine XS.ifNo X0.here hx rfl (hb hby d8_1) rfl ((if0 _ _).trans (teq (by decide : (0 : Int32) = (0 : Int32))).2) ?_
  refine XS.iloadN X0.here hx rfl (hb hby d8_4) rfl ?_
  refine XS.aloadN X0.here hx rfl (hb hby d8_5) rfl rfl ?_
  refine X0.arraylength hx (by rw [e0]; exact Ar1.1) (State.isArrayOf_alike hZ.alike Ar1.2.1) (g := (mkF m 6 #[.val (.ref o1), .val (.int (0 : Int32)), .val (.int (6 : Int32))] [(.ref o1), (.int (6 : Int32))])) rfl rfl (hb hby d8_6) _ ?_
  rw [len_of Sz1 Ng1]
  refine XS.icmpNo X0.here hx rfl (hb hby d8_7) rfl (feq (by decide : ¬ ((6 : Int32) = (11 : Int32)))).1 ?_
  refine XS.aloadN X0.here hx rfl (hb hby d8_10) rfl rfl ?_
  refine XS.iloadN X0.here hx rfl (hb hby d8_11) rfl ?_
  refine XS.iloadN X0.here hx rfl (hb hby d8_12) rfl ?_
  refine st2 _ ?_
  show Steps p.tables e below (T2.setTop (mkF m 16 #[.val (.ref o1), .val (.int (0 : Int32)), .val (.int (6 : Int32))] [(.ref b2_0)])) _
  exact retOut X2 hx hret rfl (Or.inr (Or.inr (Or.inr (Or.inr ⟨rfl, rfl, rfl⟩)))) (hb hby d8_16) hr
def Qd_7 (Z : State) (w : Nat → Addr) (kk : Nat → ClassId) (iw : Nat → Int32) (vw : Nat → Value) (o1 : Addr) (o2 : Addr) (vl_o2 : List Value) (kc_o2 : ClassId) (h0 : Heap) (n0 : Nat) (v : Option Value) (h : Heap) (L : List Loc) : Prop := ∃ (c1 : Addr) (kc1 : ClassId) (vx1 : List Value), v = none ∧ Fr n0 L ∧ Keep h0 h [o1] ∧ h0.size ≤ c1 ∧ Exa Z h o1 s_0 ∧ Fld Z h o1 s_0 "value" "[B" (.ref c1) ∧ Fld Z h o1 s_0 "coder" "B" (.int (0 : Int32)) ∧ Exa Z h c1 "[B" ∧ Arv Z h c1 kc1 .byte (6 : Int32) vx1 (.int (0 : Int32))
set_option maxRecDepth 65536 in
set_option maxHeartbeats 40000000 in
theorem rm_26 (l : Launch) (Z : State) (a0 : Array Value) (hw : ∀ d ∈ tables_1, d.before a0 Z = true) (w : Nat → Addr) (kk : Nat → ClassId) (iw : Nat → Int32) (vw : Nat → Value) (hN : Wd Z w kk iw vw) (ws : List Jvm.Cond) (o1 : Addr) (o2 : Addr) (vl_o2 : List Value) (kc_o2 : ClassId) (h0 : Heap) (O0 : Old Z Z.heap.size h0) (gn_o1 : Z.heap.size ≤ o1) (lt_o1 : o1 < h0.size) (gn_o2 : Z.heap.size ≤ o2) (lt_o2 : o2 < h0.size) (E_o1 : Exa Z h0 o1 s_0) (F_o1_value : Fld Z h0 o1 s_0 "value" "[B" .null) (F_o1_coder : Fld Z h0 o1 s_0 "coder" "B" (.int (0 : Int32))) (E_o2 : Exa Z h0 o2 "[B") (V_o2 : Arv Z h0 o2 kc_o2 .byte (11 : Int32) vl_o2 (.int (0 : Int32))) (ne_o1_o2 : o1 ≠ o2) :
    Met l Z (⟨s_0, "<init>", s_7⟩ : MethodName) (Jvm.Cond.codeWith (⟨s_0, "<init>", s_7⟩ : MethodName) jdk_42_method_11_code 11 none [(800, 813, 816, 202)]) ws (Rm 3 1 6 49) #[(.ref o1), (.ref (w 0)), (.ref o2), (.int (0 : Int32)), (.int (6 : Int32))] h0 (Qd_7 Z w kk iw vw o1 o2 vl_o2 kc_o2 h0 Z.heap.size) := by
  have hN' := hN
  obtain ⟨hS0, hE0, hS1, hE1, hS2, hE2, hI0, hJ0, hR0, hRr0, hEq0⟩ := hN'
  refine own_body (plainFor_of_name pn_3) hisWith ?_
  intro p e s m below meth c s₁ hx hby hml hown hnm hret X0 hZ e0
  have N0 := Fr.nil Z.heap.size
  have K0 : Keep h0 h0 [o1] := Keep.refl _ _
  obtain ⟨T1, X1, e1, st1⟩ := initO X0 hx hZ hown (W hw 37 rfl) (W hw 38 rfl) (W hw 39 rfl) e0 (g := (mkF m 1 #[.val (.ref o1), .val (.ref (w 0)), .val (.ref o2), .val (.int (0 : Int32)), .val (.int (6 : Int32)), .unset, .unset, .unset, .unset, .unset, .unset] [(.ref o1)])) rfl (by rw [hml]; rfl) rfl (hb hby d7_1) (by decide) (W := 0) (by show 2 * 0 + _ ≤ _; exact Nat.le_of_eq rfl) (by decide)
  obtain ⟨T2, X2, e2, st2⟩ := getS2 X1 hx hZ hown (host := "") (Or.inl (W hw 40 rfl)) Via.refl e1 (hS1.ext O0.2) (g := (mkF m 31 #[.val (.ref o1), .val (.ref (w 0)), .val (.ref o2), .val (.int (0 : Int32)), .val (.int (6 : Int32)), .unset, .unset, .unset, .unset, .unset, .unset] [(.ref (w 0))])) rfl (hb hby d7_31)
  obtain ⟨T3, X3, e3, st3⟩ := getS2 X2 hx hZ hown (host := "") (Or.inl (W hw 42 rfl)) Via.refl e2 (hS2.ext O0.2) (g := (mkF m 347 #[.val (.ref o1), .val (.ref (w 0)), .val (.ref o2), .val (.int (0 : Int32)), .val (.int (6 : Int32)), .unset, .unset, .unset, .unset, .unset, .unset] [(.ref (w 0))])) rfl (hb hby d7_347)
  obtain ⟨T4, X4, e4, st4⟩ := getS2 X3 hx hZ hown (host := "") (Or.inl (W hw 44 rfl)) Via.refl e3 (hI0.ext O0.2) (g := (mkF m 353 #[.val (.ref o1), .val (.ref (w 0)), .val (.ref o2), .val (.int (0 : Int32)), .val (.int (6 : Int32)), .unset, .unset, .unset, .unset, .unset, .unset] [])) rfl (hb hby d7_353)
  obtain ⟨_, _, ⟨T5, L5, k5, n5⟩, -, X5, ⟨Lc5, hQ5, l5, y5, z5⟩, st5⟩ := Jvm.LawKit.callS X4 hx (y := (⟨s_2, "copyOfRange", "([BII)[B"⟩ : MethodName)) hown (mvT hZ (W hw 45 rfl)) (mvT hZ (W hw 46 rfl)) (mvT hZ (W hw 47 rfl)) (mvT hZ (W hw 48 rfl)) (by decide) (backOf (W := 1) (rm_25 l Z a0 hw w kk iw vw hN [] o2 vl_o2 kc_o2 h0 O0 gn_o2 E_o2.lt E_o2 V_o2) hZ (W hw 48 rfl) (W hw 47 rfl) (by decide) (by decide)) (g := (mkF m 366 #[.val (.ref o1), .val (.ref (w 0)), .val (.ref o2), .val (.int (0 : Int32)), .val (.int (6 : Int32)), .unset, .unset, .unset, .unset, .unset, .unset] [(.int (6 : Int32)), (.int (0 : Int32)), (.ref o2), (.ref o1)])) rfl (by rw [hml]; rfl) (argsL := [(.ref o2), (.int (0 : Int32)), (.int (6 : Int32))]) (rest := [(.ref o1)]) (lenOf pd_6 rfl) rfl (by show 2 * 0 + _ ≤ _; exact Nat.le_of_eq rfl) (hb hby d7_366) (fun _ _ => ⟨rfl, e4, (by decide : 0 + 1 ≤ _), (by decide : 0 + 6 ≤ _)⟩)
  dsimp only [Pt.U, Pt.locs, Pt.cells, Pt.slots] at X5 l5 y5 z5 st5 hQ5
  subst l5 y5 z5
  obtain ⟨b5_0, kb5_0, vl5_0, rfl, N5q, Kq5, tk5_0, tk5_1, tk5_2⟩ := hQ5
  have N5 := Fr.app N0 N5q
  have gn_b5_0 : Z.heap.size ≤ b5_0 := Nat.le_trans O0.2.1 tk5_0
  have sz_b5_0 : h0.size ≤ b5_0 := Nat.le_trans K0.1 tk5_0
  have ne_o2_b5_0 : o2 ≠ b5_0 := Nat.ne_of_lt (Nat.lt_of_lt_of_le E_o2.lt tk5_0)
  have ne_o1_b5_0 : o1 ≠ b5_0 := Nat.ne_of_lt (Nat.lt_of_lt_of_le E_o1.lt tk5_0)
  have E_o1_v5 := E_o1.keep Kq5
  have F_o1_value_v5 := F_o1_value.keep Kq5 nin0
  have F_o1_coder_v5 := F_o1_coder.keep Kq5 nin0
  have E_o2_v5 := E_o2.keep Kq5
  have V_o2_v5 := V_o2.keep Kq5 nin0
  have O5 := O0.keep Kq5 all0
  have K5 : Keep h0 T5.heap [o1] := K0.trans Kq5 all0
  obtain ⟨T6, h6, X6, e6, W6, st6⟩ := putF X5 hx hZ hown (host := "") (Or.inl (W hw 63 rfl)) Via.refl rfl F_o1_value_v5 E_o1_v5 (Or.inr ⟨(W hw 64 rfl), rfl, hnm⟩) (W hw 12 rfl) (ty := (.array .byte)) (by decide) rfl rfl (g := (mkF m 369 #[.val (.ref o1), .val (.ref (w 0)), .val (.ref o2), .val (.int (0 : Int32)), .val (.int (6 : Int32)), .unset, .unset, .unset, .unset, .unset, .unset] [(.ref b5_0), (.ref o1)])) rfl rfl (hb hby d7_369)
  have F_o1_value_v6 := F_o1_value_v5.same W6
  have N6 := Fr.snoc X6 N5 gn_o1
  have E_o1_v6 := E_o1_v5.wr W6
  have F_o1_coder_v6 := F_o1_coder_v5.other W6 (Or.inr (sn_0 hw))
  have E_o2_v6 := E_o2_v5.wr W6
  have V_o2_v6 := V_o2_v5.other W6 (Ne.symm ne_o1_o2)
  have tk5_1_v6 := tk5_1.wr W6
  have tk5_2_v6 := tk5_2.other W6 (Ne.symm ne_o1_b5_0)
  have O6 := O5.wr W6 gn_o1
  have K6 : Keep h0 h6 [o1] := K5.wr W6 (Or.inl (List.mem_of_getElem? (i := 0) rfl))
  obtain ⟨T7, h7, X7, e7, W7, st7⟩ := putFN X6 hx hZ hown (W hw 65 rfl) Via.refl e6 F_o1_coder_v6 E_o1_v6 (Or.inr ⟨(W hw 66 rfl), rfl, hnm⟩) (W hw 12 rfl) (ty := .byte) (v' := (.int (0 : Int32))) (by decide) rfl rfl (g := (mkF m 374 #[.val (.ref o1), .val (.ref (w 0)), .val (.ref o2), .val (.int (0 : Int32)), .val (.int (6 : Int32)), .unset, .unset, .unset, .unset, .unset, .unset] [(.int (0 : Int32)), (.ref o1)])) rfl rfl (hb hby d7_374)
  have F_o1_coder_v7 := F_o1_coder_v6.same W7
  have N7 := Fr.snoc X7 N6 gn_o1
  have E_o1_v7 := E_o1_v6.wr W7
  have F_o1_value_v7 := F_o1_value_v6.other W7 (Or.inr (sn_1 hw))
  have E_o2_v7 := E_o2_v6.wr W7
  have V_o2_v7 := V_o2_v6.other W7 (Ne.symm ne_o1_o2)
  have tk5_1_v7 := tk5_1_v6.wr W7
  have tk5_2_v7 := tk5_2_v6.other W7 (Ne.symm ne_o1_b5_0)
  have O7 := O6.wr W7 gn_o1
  have K7 : Keep h0 h7 [o1] := K6.wr W7 (Or.inl (List.mem_of_getElem? (i := 0) rfl))
  refine ⟨T7, none, _, _, _, by decide, by decide, X7, (fun _ => rfl), (by rw [e7]; exact ⟨b5_0, kb5_0, vl5_0, rfl, N7, K7, sz_b5_0, E_o1_v7, F_o1_value_v7, F_o1_coder_v7, tk5_1_v7, tk5_2_v7⟩), fun fs hr => castTop (ef_7 m (.ref o1) rfl (.ref (w 0)) rfl (.ref o2) rfl (.int (0 : Int32)) rfl (.int (6 : Int32)) rfl) ?_⟩
  show Steps p.tables e below (s₁.setTop (mkF m 0 #[.val (.ref o1), .val (.ref (w 0)), .val (.ref o2), .val (.int (0 : Int32)), .val (.int (6 : Int32)), .unset, .unset, .unset, .unset, .unset, .unset] [])) _
  refine XS.aloadN X0.here hx rfl (hb hby d7_0) rfl rfl ?_
  refine st1 _ ?_
  refine XS.iload X1.here hx rfl (hb hby d7_4) rfl ?_
  refine XS.ifYes X1.here hx rfl (pc0 := 6) (pc' := 30) rfl (hb hby d7_6) rfl ((if0 _ _).trans (feq (by decide : ¬ ((6 : Int32) = (0 : Int32)))).2) (by decide) (by decide) ?_
  refine XS.aloadN X1.here hx rfl (hb hby d7_30) rfl rfl ?_
  refine st2 _ ?_
  refine Jvm.RoadKit.acmp (g := (mkF m 34 #[.val (.ref o1), .val (.ref (w 0)), .val (.ref o2), .val (.int (0 : Int32)), .val (.int (6 : Int32)), .unset, .unset, .unset, .unset, .unset, .unset] [(.ref (w 1)), (.ref (w 0))])) X2 hx rfl rfl rfl (pc0 := 34) (pc' := 346) (same := false) rfl (hb hby d7_34) rfl (decide_eq_false fun q => (ne_exa hE0 hE1 (by decide)) (Value.ref.inj q)) (by decide) (by decide) ?_
  refine XS.aloadN X2.here hx rfl (hb hby d7_346) rfl rfl ?_
  refine st3 _ ?_
  refine Jvm.RoadKit.acmp (g := (mkF m 350 #[.val (.ref o1), .val (.ref (w 0)), .val (.ref o2), .val (.int (0 : Int32)), .val (.int (6 : Int32)), .unset, .unset, .unset, .unset, .unset, .unset] [(.ref (w 2)), (.ref (w 0))])) X3 hx rfl rfl rfl (pc0 := 350) (pc' := 353) (same := true) rfl (hb hby d7_350) rfl (decide_eq_true (congrArg Value.ref hEq0)) (by decide) (by decide) ?_
  show Steps p.tables e below (T3.setTop (mkF m 353 #[.val (.ref o1), .val (.ref (w 0)), .val (.ref o2), .val (.int (0 : Int32)), .val (.int (6 : Int32)), .unset, .unset, .unset, .unset, .unset, .unset] [])) _
  refine st4 _ ?_
  refine XS.ifNo X4.here hx rfl (hb hby d7_356) rfl ((if0 _ _).trans (feq hJ0).1) ?_
  refine XS.aloadN X4.here hx rfl (hb hby d7_359) rfl rfl ?_
  refine XS.aloadN X4.here hx rfl (hb hby d7_360) rfl rfl ?_
  refine XS.iloadN X4.here hx rfl (hb hby d7_361) rfl ?_
  refine XS.iloadN X4.here hx rfl (hb hby d7_362) rfl ?_
  refine XS.iload X4.here hx rfl (hb hby d7_363) rfl ?_
  refine XS.iadd X4.here hx rfl (hb hby d7_365) rfl ?_
  show Steps p.tables e below (T4.setTop (mkF m 366 #[.val (.ref o1), .val (.ref (w 0)), .val (.ref o2), .val (.int (0 : Int32)), .val (.int (6 : Int32)), .unset, .unset, .unset, .unset, .unset, .unset] [(.int ((0 : Int32) + (6 : Int32))), (.int (0 : Int32)), (.ref o2), (.ref o1)])) _
  rw [lf_16]
  refine st5 _ ?_
  refine st6 _ ?_
  show Steps p.tables e below (T6.setTop (mkF m 372 #[.val (.ref o1), .val (.ref (w 0)), .val (.ref o2), .val (.int (0 : Int32)), .val (.int (6 : Int32)), .unset, .unset, .unset, .unset, .unset, .unset] [])) _
  refine XS.aloadN X6.here hx rfl (hb hby d7_372) rfl rfl ?_
  refine XS.iconst X6.here hx rfl (hb hby d7_373) ?_
  refine st7 _ ?_
  refine XS.goto X7.here hx rfl (pc0 := 377) (pc' := 879) rfl (hb hby d7_377) (by decide) (by decide) ?_
  show Steps p.tables e below (T7.setTop (mkF m 879 #[.val (.ref o1), .val (.ref (w 0)), .val (.ref o2), .val (.int (0 : Int32)), .val (.int (6 : Int32)), .unset, .unset, .unset, .unset, .unset, .unset] [])) _
  exact X7.returnOut hx hret (hb hby d7_879) hr
set_option maxRecDepth 65536 in
set_option maxHeartbeats 40000000 in
theorem rm_27 (l : Launch) (Z : State) (a0 : Array Value) (hw : ∀ d ∈ tables_1, d.before a0 Z = true) (w : Nat → Addr) (kk : Nat → ClassId) (iw : Nat → Int32) (vw : Nat → Value) (hN : Wd Z w kk iw vw) (ws : List Jvm.Cond) (o1 : Addr) (o2 : Addr) (vl_o2 : List Value) (kc_o2 : ClassId) (h0 : Heap) (O0 : Old Z Z.heap.size h0) (gn_o1 : Z.heap.size ≤ o1) (lt_o1 : o1 < h0.size) (gn_o2 : Z.heap.size ≤ o2) (lt_o2 : o2 < h0.size) (E_o1 : Exa Z h0 o1 s_0) (F_o1_value : Fld Z h0 o1 s_0 "value" "[B" .null) (F_o1_coder : Fld Z h0 o1 s_0 "coder" "B" (.int (0 : Int32))) (E_o2 : Exa Z h0 o2 "[B") (V_o2 : Arv Z h0 o2 kc_o2 .byte (11 : Int32) vl_o2 (.int (0 : Int32))) (ne_o1_o2 : o1 ≠ o2) :
    Met l Z (⟨s_0, "<init>", s_8⟩ : MethodName) (Jvm.Cond.code (⟨s_0, "<init>", s_8⟩ : MethodName) jdk_42_method_10_code 5 none) ws (Rm 4 1 6 71) #[(.ref o1), (.ref o2), (.int (0 : Int32)), (.int (6 : Int32)), (.ref (w 0))] h0 (Qd_7 Z w kk iw vw o1 o2 vl_o2 kc_o2 h0 Z.heap.size) := by
  have hN' := hN
  obtain ⟨hS0, hE0, hS1, hE1, hS2, hE2, hI0, hJ0, hR0, hRr0, hEq0⟩ := hN'
  refine own_body (plainFor_of_name pn_3) hisR ?_
  intro p e s m below meth c s₁ hx hby hml hown hnm hret X0 hZ e0
  have N0 := Fr.nil Z.heap.size
  have K0 : Keep h0 h0 [o1] := Keep.refl _ _
  obtain ⟨_, _, ⟨T1, L1, k1, n1⟩, -, X1, ⟨Lc1, hQ1, l1, y1, z1⟩, st1⟩ := Jvm.LawKit.callS X0 hx (y := (⟨s_16, s_17, s_12⟩ : MethodName)) hown (mvT hZ (W hw 19 rfl)) (mvT hZ (W hw 20 rfl)) (mvT hZ (W hw 21 rfl)) (mvT hZ (W hw 22 rfl)) (by decide) (backOf (W := 1) (rm_3 l Z a0 hw w kk iw vw hN [] h0 O0) hZ (W hw 22 rfl) (W hw 21 rfl) (by decide) (by decide)) (g := (mkF m 3 #[.val (.ref o1), .val (.ref o2), .val (.int (0 : Int32)), .val (.int (6 : Int32)), .val (.ref (w 0))] [(.ref (w 0)), (.ref o1)])) rfl (by rw [hml]; rfl) (argsL := [(.ref (w 0))]) (rest := [(.ref o1)]) (lenOf pd_1 rfl) rfl (by show 2 * 0 + _ ≤ _; exact Nat.le_of_eq rfl) (hb hby d3_3) (fun _ _ => ⟨rfl, e0, (by decide : 0 + 0 ≤ _), (by decide : 0 + 0 ≤ _)⟩)
  dsimp only [Pt.U, Pt.locs, Pt.cells, Pt.slots] at X1 l1 y1 z1 st1 hQ1
  subst l1 y1 z1
  obtain ⟨rfl, N1q, e1⟩ := hQ1
  have N1 := Fr.app N0 N1q
  obtain ⟨T2, X2, e2, st2⟩ := castY X1 hx hZ hown (W hw 23 rfl) e1 (Ins.of_exa (hE0.ext O0.2) (W hw 24 rfl)) (g := (mkF m 6 #[.val (.ref o1), .val (.ref o2), .val (.int (0 : Int32)), .val (.int (6 : Int32)), .val (.ref (w 0))] [(.ref (w 0)), (.ref o1)])) rfl rfl (hb hby d3_6)
  obtain ⟨cl3, Ar3, q3, Sz3, Ng3, Hv3, Gv3⟩ := id V_o2
  obtain ⟨_, _, ⟨T4, L4, k4, n4⟩, -, X4, ⟨Lc4, hQ4, l4, y4, z4⟩, st4⟩ := Jvm.LawKit.callS X2 hx (y := (⟨s_0, s_10, "(III)I"⟩ : MethodName)) hown (mvT hZ (W hw 25 rfl)) (mvT hZ (W hw 26 rfl)) (mvT hZ (W hw 13 rfl)) (mvT hZ (W hw 27 rfl)) (by decide) (backOf (W := 3) (rm_21 l Z a0 hw w kk iw vw hN [] h0 O0) hZ (W hw 27 rfl) (W hw 13 rfl) (by decide) (by decide)) (g := (mkF m 14 #[.val (.ref o1), .val (.ref o2), .val (.int (0 : Int32)), .val (.int (6 : Int32)), .val (.ref (w 0))] [(.int (11 : Int32)), (.int (6 : Int32)), (.int (0 : Int32)), (.ref o2), (.ref (w 0)), (.ref o1)])) rfl (by rw [hml]; rfl) (argsL := [(.int (0 : Int32)), (.int (6 : Int32)), (.int (11 : Int32))]) (rest := [(.ref o2), (.ref (w 0)), (.ref o1)]) (lenOf pd_3 rfl) rfl (by show 2 * 0 + _ ≤ _; exact Nat.le_of_eq rfl) (hb hby d3_14) (fun _ _ => ⟨rfl, e2, (by decide : 0 + 0 ≤ _), (by decide : 0 + 0 ≤ _)⟩)
  dsimp only [Pt.U, Pt.locs, Pt.cells, Pt.slots] at X4 l4 y4 z4 st4 hQ4
  subst l4 y4 z4
  obtain ⟨rfl, N4q, e4⟩ := hQ4
  have N4 := Fr.app N1 N4q
  obtain ⟨_, _, ⟨T5, L5, k5, n5⟩, -, X5, ⟨Lc5, hQ5, l5, y5, z5⟩, st5⟩ := X4.specialBackH hx (y := (⟨s_0, "<init>", s_7⟩ : MethodName)) rfl hown (mvT hZ (W hw 33 rfl)) (mvT hZ (W hw 34 rfl)) (mvT hZ (W hw 36 rfl)) (by decide) (backOfWith (W := 0) (rm_26 l Z a0 hw w kk iw vw hN [] o1 o2 vl_o2 kc_o2 h0 O0 gn_o1 E_o1.lt gn_o2 E_o2.lt E_o1 F_o1_value F_o1_coder E_o2 V_o2 ne_o1_o2) hZ (W hw 36 rfl) (W hw 13 rfl) (by decide) (by decide)) (g := (mkF m 18 #[.val (.ref o1), .val (.ref o2), .val (.int (0 : Int32)), .val (.int (6 : Int32)), .val (.ref (w 0))] [(.int (6 : Int32)), (.int (0 : Int32)), (.ref o2), (.ref (w 0)), (.ref o1)])) rfl (by rw [hml]; rfl) (Steps.refl _) (a := o1) (argsL := [(.ref (w 0)), (.ref o2), (.int (0 : Int32)), (.int (6 : Int32))]) (rest := []) (lenOf pd_7 rfl) rfl (by show 2 * 0 + _ ≤ _; exact Nat.le_of_eq rfl) (hb hby d3_18) (fun _ _ => ⟨rfl, e4, (by decide : 0 + 1 ≤ _), (by decide : 0 + 6 ≤ _)⟩)
  dsimp only [Pt.U, Pt.locs, Pt.cells, Pt.slots] at X5 l5 y5 z5 st5 hQ5
  subst l5 y5 z5
  obtain ⟨b5_0, kb5_0, vl5_0, rfl, N5q, Kq5, tk5_0, tk5_1, tk5_2, tk5_3, tk5_4, tk5_5⟩ := hQ5
  have N5 := Fr.app N4 N5q
  have gn_b5_0 : Z.heap.size ≤ b5_0 := Nat.le_trans O0.2.1 tk5_0
  have sz_b5_0 : h0.size ≤ b5_0 := Nat.le_trans K0.1 tk5_0
  have ne_o2_b5_0 : o2 ≠ b5_0 := Nat.ne_of_lt (Nat.lt_of_lt_of_le E_o2.lt tk5_0)
  have ne_o1_b5_0 : o1 ≠ b5_0 := Nat.ne_of_lt (Nat.lt_of_lt_of_le E_o1.lt tk5_0)
  have E_o1_v5 := E_o1.keep Kq5
  have E_o2_v5 := E_o2.keep Kq5
  have V_o2_v5 := V_o2.keep Kq5 (ninS (Ne.symm ne_o1_o2) nin0)
  have O5 := O0.keep Kq5 (allS gn_o1 all0)
  have K5 : Keep h0 T5.heap [o1] := K0.trans Kq5 (allS (Or.inl (List.mem_of_getElem? (i := 0) rfl)) all0)
  refine ⟨T5, none, _, _, _, by decide, by decide, X5, (fun _ => rfl), ⟨b5_0, kb5_0, vl5_0, rfl, N5, K5, sz_b5_0, tk5_1, tk5_2, tk5_3, tk5_4, tk5_5⟩, fun fs hr => castTop (ef_8 m (.ref o1) rfl (.ref o2) rfl (.int (0 : Int32)) rfl (.int (6 : Int32)) rfl (.ref (w 0)) rfl) ?_⟩
  show Steps p.tables e below (s₁.setTop (mkF m 0 #[.val (.ref o1), .val (.ref o2), .val (.int (0 : Int32)), .val (.int (6 : Int32)), .val (.ref (w 0))] [])) _
  refine XS.aloadN X0.here hx rfl (hb hby d3_0) rfl rfl ?_
  refine XS.aload X0.here hx rfl (hb hby d3_1) rfl rfl ?_
  refine st1 _ ?_
  refine st2 _ ?_
  refine XS.aloadN X2.here hx rfl (hb hby d3_9) rfl rfl ?_
  refine XS.iloadN X2.here hx rfl (hb hby d3_10) rfl ?_
  refine XS.iloadN X2.here hx rfl (hb hby d3_11) rfl ?_
  refine XS.aloadN X2.here hx rfl (hb hby d3_12) rfl rfl ?_
  refine X2.arraylength hx (by rw [e2]; exact Ar3.1) (State.isArrayOf_alike hZ.alike Ar3.2.1) (g := (mkF m 13 #[.val (.ref o1), .val (.ref o2), .val (.int (0 : Int32)), .val (.int (6 : Int32)), .val (.ref (w 0))] [(.ref o2), (.int (6 : Int32)), (.int (0 : Int32)), (.ref o2), (.ref (w 0)), (.ref o1)])) rfl rfl (hb hby d3_13) _ ?_
  rw [len_of Sz3 Ng3]
  refine st4 _ ?_
  show Steps p.tables e below (T4.setTop (mkF m 17 #[.val (.ref o1), .val (.ref o2), .val (.int (0 : Int32)), .val (.int (6 : Int32)), .val (.ref (w 0))] [(.int (0 : Int32)), (.ref o2), (.ref (w 0)), (.ref o1)])) _
  refine XS.iloadN X4.here hx rfl (hb hby d3_17) rfl ?_
  refine st5.trans ?_
  show Steps p.tables e below (T5.setTop (mkF m 21 #[.val (.ref o1), .val (.ref o2), .val (.int (0 : Int32)), .val (.int (6 : Int32)), .val (.ref (w 0))] [])) _
  exact X5.returnOut hx hret (hb hby d3_21) hr
def Qd_8 (Z : State) (w : Nat → Addr) (kk : Nat → ClassId) (iw : Nat → Int32) (vw : Nat → Value) (o1 : Addr) (vl_o1 : List Value) (kc_o1 : ClassId) (h0 : Heap) (n0 : Nat) (v : Option Value) (h : Heap) (L : List Loc) : Prop := ∃ (c1 : Addr) (c2 : Addr) (kc1 : ClassId) (vx1 : List Value), v = some (.ref c1) ∧ Fr n0 L ∧ Keep h0 h [] ∧ h0.size ≤ c1 ∧ h0.size ≤ c2 ∧ c1 ≠ c2 ∧ Exa Z h c1 s_0 ∧ Fld Z h c1 s_0 "value" "[B" (.ref c2) ∧ Fld Z h c1 s_0 "coder" "B" (.int (0 : Int32)) ∧ Exa Z h c2 "[B" ∧ Arv Z h c2 kc1 .byte (6 : Int32) vx1 (.int (0 : Int32))
set_option maxRecDepth 65536 in
set_option maxHeartbeats 40000000 in
theorem rm_28 (l : Launch) (Z : State) (a0 : Array Value) (hw : ∀ d ∈ tables_1, d.before a0 Z = true) (w : Nat → Addr) (kk : Nat → ClassId) (iw : Nat → Int32) (vw : Nat → Value) (hN : Wd Z w kk iw vw) (ws : List Jvm.Cond) (o1 : Addr) (vl_o1 : List Value) (kc_o1 : ClassId) (h0 : Heap) (O0 : Old Z Z.heap.size h0) (gn_o1 : Z.heap.size ≤ o1) (lt_o1 : o1 < h0.size) (E_o1 : Exa Z h0 o1 "[B") (V_o1 : Arv Z h0 o1 kc_o1 .byte (11 : Int32) vl_o1 (.int (0 : Int32))) :
    Met l Z (⟨s_1, "string", s_9⟩ : MethodName) (Jvm.Cond.code (⟨s_1, "string", s_9⟩ : MethodName) prog_22_method_9_code 2 (some (.object s_0))) ws (Rm 5 2 10 88) #[(.ref o1), (.int (6 : Int32))] h0 (Qd_8 Z w kk iw vw o1 vl_o1 kc_o1 h0 Z.heap.size) := by
  have hN' := hN
  obtain ⟨hS0, hE0, hS1, hE1, hS2, hE2, hI0, hJ0, hR0, hRr0, hEq0⟩ := hN'
  refine own_body (plainFor_of_name pn_0) hisR ?_
  intro p e s m below meth c s₁ hx hby hml hown hnm hret X0 hZ e0
  have N0 := Fr.nil Z.heap.size
  have K0 : Keep h0 h0 [] := Keep.refl _ _
  obtain ⟨T1, h1, X1, e1, E1, A1, D1, -, st1⟩ := newO X0 hx hZ hown (W hw 11 rfl) (W hw 12 rfl) (W hw 13 rfl) e0 (g := (mkF m 0 #[.val (.ref o1), .val (.int (6 : Int32))] [])) rfl (hb hby d2_0) (by decide) (by decide)
  obtain ⟨b1, g1⟩ : ∃ z, z = h0.size := ⟨_, rfl⟩
  rw [← g1] at A1 st1 D1
  have gn_b1 : Z.heap.size ≤ b1 := Nat.le_trans O0.2.1 (Nat.le_of_eq g1.symm)
  have sz_b1 : h0.size ≤ b1 := Nat.le_trans K0.1 (Nat.le_of_eq g1.symm)
  have ne_o1_b1 : o1 ≠ b1 := Nat.ne_of_lt (Nat.lt_of_lt_of_le E_o1.lt (Nat.le_of_eq g1.symm))
  have E_o1_v1 := E_o1.ext E1
  have V_o1_v1 := V_o1.ext E1
  have O1 := O0.ext E1
  have K1 := K0.ext E1
  have E_b1_v1 := A1
  have F_b1_value_v1 : Fld Z h1 b1 s_0 "value" "[B" .null := D1 (Or.inr (W hw 64 rfl)) (ty := (.array .byte)) (by decide)
  have F_b1_coder_v1 : Fld Z h1 b1 s_0 "coder" "B" (.int (0 : Int32)) := D1 (Or.inr (W hw 66 rfl)) (ty := .byte) (by decide)
  obtain ⟨T2, X2, e2, st2⟩ := getS2 X1 hx hZ hown (host := "") (Or.inl (W hw 14 rfl)) Via.refl e1 (hS0.ext O1.2) (g := (mkF m 7 #[.val (.ref o1), .val (.int (6 : Int32))] [(.int (6 : Int32)), (.int (0 : Int32)), (.ref o1), (.ref b1), (.ref b1)])) rfl (hb hby d2_7)
  obtain ⟨_, _, ⟨T3, L3, k3, n3⟩, -, X3, ⟨Lc3, hQ3, l3, y3, z3⟩, st3⟩ := X2.specialBack hx (y := (⟨s_0, "<init>", s_8⟩ : MethodName)) rfl hown (mvT hZ (W hw 16 rfl)) (mvT hZ (W hw 17 rfl)) (mvT hZ (W hw 18 rfl)) (by decide) (backOf (W := 1) (rm_27 l Z a0 hw w kk iw vw hN [] b1 o1 vl_o1 kc_o1 h1 O1 gn_b1 E_b1_v1.lt gn_o1 E_o1_v1.lt E_b1_v1 F_b1_value_v1 F_b1_coder_v1 E_o1_v1 V_o1_v1 (Ne.symm ne_o1_b1)) hZ (W hw 18 rfl) (W hw 13 rfl) (by decide) (by decide)) (g := (mkF m 10 #[.val (.ref o1), .val (.int (6 : Int32))] [(.ref (w 0)), (.int (6 : Int32)), (.int (0 : Int32)), (.ref o1), (.ref b1), (.ref b1)])) rfl (by rw [hml]; rfl) (Steps.refl _) (a := b1) (argsL := [(.ref o1), (.int (0 : Int32)), (.int (6 : Int32)), (.ref (w 0))]) (rest := [(.ref b1)]) (lenOf pd_8 rfl) rfl (by show 2 * 0 + _ ≤ _; exact Nat.le_of_eq rfl) (hb hby d2_10) (fun _ _ => ⟨rfl, e2, (by decide : 1 + 1 ≤ _), (by decide : 4 + 6 ≤ _)⟩)
  dsimp only [Pt.U, Pt.locs, Pt.cells, Pt.slots] at X3 l3 y3 z3 st3 hQ3
  subst l3 y3 z3
  obtain ⟨b3_0, kb3_0, vl3_0, rfl, N3q, Kq3, tk3_0, tk3_1, tk3_2, tk3_3, tk3_4, tk3_5⟩ := hQ3
  have N3 := Fr.app N0 N3q
  have gn_b3_0 : Z.heap.size ≤ b3_0 := Nat.le_trans O1.2.1 tk3_0
  have sz_b3_0 : h0.size ≤ b3_0 := Nat.le_trans K1.1 tk3_0
  have ne_b1_b3_0 : b1 ≠ b3_0 := Nat.ne_of_lt (Nat.lt_of_lt_of_le E_b1_v1.lt tk3_0)
  have ne_o1_b3_0 : o1 ≠ b3_0 := Nat.ne_of_lt (Nat.lt_of_lt_of_le E_o1_v1.lt tk3_0)
  have E_o1_v3 := E_o1_v1.keep Kq3
  have V_o1_v3 := V_o1_v1.keep Kq3 (ninS ne_o1_b1 nin0)
  have E_b1_v3 := E_b1_v1.keep Kq3
  have O3 := O1.keep Kq3 (allS gn_b1 all0)
  have K3 : Keep h0 T3.heap [] := K1.trans Kq3 (allS (Or.inr sz_b1) all0)
  refine ⟨T3, some (.ref b1), _, _, _, by decide, by decide, X3, nofun, ⟨b1, b3_0, kb3_0, vl3_0, rfl, N3, K3, sz_b1, sz_b3_0, ne_b1_b3_0, tk3_1, tk3_2, tk3_3, tk3_4, tk3_5⟩, fun fs hr => castTop (ef_9 m (.ref o1) rfl (.int (6 : Int32)) rfl) ?_⟩
  show Steps p.tables e below (s₁.setTop (mkF m 0 #[.val (.ref o1), .val (.int (6 : Int32))] [])) _
  refine st1 _ ?_
  refine XS.dup X1.here hx rfl (hb hby d2_3) rfl rfl ?_
  refine XS.aloadN X1.here hx rfl (hb hby d2_4) rfl rfl ?_
  refine XS.iconst X1.here hx rfl (hb hby d2_5) ?_
  refine XS.iloadN X1.here hx rfl (hb hby d2_6) rfl ?_
  refine st2 _ ?_
  refine st3.trans ?_
  show Steps p.tables e below (T3.setTop (mkF m 13 #[.val (.ref o1), .val (.int (6 : Int32))] [(.ref b1)])) _
  exact retOut X3 hx hret rfl (Or.inr (Or.inr (Or.inr (Or.inr ⟨rfl, rfl, rfl⟩)))) (hb hby d2_13) hr
def Qd_9 (Z : State) (w : Nat → Addr) (kk : Nat → ClassId) (iw : Nat → Int32) (vw : Nat → Value) (p0 : Int32) (h0 : Heap) (n0 : Nat) (v : Option Value) (h : Heap) (L : List Loc) : Prop := ∃ (c1 : Addr) (c2 : Addr) (kc1 : ClassId) (vx1 : List Value), v = some (.ref c1) ∧ Fr n0 L ∧ Keep h0 h [] ∧ h0.size ≤ c1 ∧ h0.size ≤ c2 ∧ c1 ≠ c2 ∧ Exa Z h c1 s_0 ∧ Fld Z h c1 s_0 "value" "[B" (.ref c2) ∧ Fld Z h c1 s_0 "coder" "B" (.int (0 : Int32)) ∧ Exa Z h c2 "[B" ∧ Arv Z h c2 kc1 .byte (6 : Int32) vx1 (.int (0 : Int32))
set_option maxRecDepth 65536 in
set_option maxHeartbeats 40000000 in
theorem rm_29 (l : Launch) (Z : State) (a0 : Array Value) (hw : ∀ d ∈ tables_1, d.before a0 Z = true) (w : Nat → Addr) (kk : Nat → ClassId) (iw : Nat → Int32) (vw : Nat → Value) (hN : Wd Z w kk iw vw) (ws : List Jvm.Cond) (p0 : Int32) (h0 : Heap) (O0 : Old Z Z.heap.size h0) (hp0 : p0 < (0 : Int32)) (hp1 : ¬ ((p0 / (10000 : Int32)) = (0 : Int32))) (hp2 : ((p0 / (10000 : Int32)) / (10 : Int32)) = (0 : Int32)) :
    Met l Z (⟨s_1, "yearText", s_4⟩ : MethodName) (Jvm.Cond.code (⟨s_1, "yearText", s_4⟩ : MethodName) prog_22_method_4_code 2 (some (.object s_0))) ws (Rm 6 3 21 101) #[(.int p0)] h0 (Qd_9 Z w kk iw vw p0 h0 Z.heap.size) := by
  have hN' := hN
  obtain ⟨hS0, hE0, hS1, hE1, hS2, hE2, hI0, hJ0, hR0, hRr0, hEq0⟩ := hN'
  refine own_body (plainFor_of_name pn_0) hisR ?_
  intro p e s m below meth c s₁ hx hby hml hown hnm hret X0 hZ e0
  have N0 := Fr.nil Z.heap.size
  have K0 : Keep h0 h0 [] := Keep.refl _ _
  obtain ⟨T1, h1, k1, X1, e1, E1, A1, AE1, st1⟩ := newPE X0 hx hZ (W hw 4 rfl) e0 (g := (mkF m 2 #[.val (.int p0), .unset] [(.int (11 : Int32))])) rfl (hb hby d0_2) rfl (by decide) (cap := 11) (by decide) (by decide) (by decide) (by decide) (ad := "[B") rfl
  obtain ⟨b1, g1⟩ : ∃ z, z = h0.size := ⟨_, rfl⟩
  rw [← g1] at A1 st1 AE1
  have gn_b1 : Z.heap.size ≤ b1 := Nat.le_trans O0.2.1 (Nat.le_of_eq g1.symm)
  have sz_b1 : h0.size ≤ b1 := Nat.le_trans K0.1 (Nat.le_of_eq g1.symm)
  have O1 := O0.ext E1
  have K1 := K0.ext E1
  have E_b1_v1 := AE1
  have V_b1_v1 : Arv Z h1 b1 k1 .byte (11 : Int32) [] (.int (0 : Int32)) := Arv.new A1 (by decide)
  obtain ⟨_, _, ⟨T2, L2, k2, n2⟩, -, X2, ⟨Lc2, hQ2, l2, y2, z2⟩, st2⟩ := Jvm.LawKit.callS X1 hx (y := (⟨s_1, "writeYear", "([BI)I"⟩ : MethodName)) hown (mvT hZ (W hw 5 rfl)) (mvT hZ (W hw 6 rfl)) (mvT hZ (W hw 2 rfl)) (mvT hZ (W hw 7 rfl)) (by decide) (backOf (W := 1) (rm_19 l Z a0 hw w kk iw vw hN [] b1 p0 k1 h1 O1 gn_b1 E_b1_v1.lt E_b1_v1 V_b1_v1 hp0 hp1 hp2) hZ (W hw 7 rfl) (W hw 2 rfl) (by decide) (by decide)) (g := (mkF m 8 #[.val (.int p0), .val (.ref b1)] [(.int p0), (.ref b1), (.ref b1)])) rfl (by rw [hml]; rfl) (argsL := [(.ref b1), (.int p0)]) (rest := [(.ref b1)]) (lenOf pd_0 rfl) rfl (by show 2 * 0 + _ ≤ _; exact Nat.le_of_eq rfl) (hb hby d0_8) (fun _ _ => ⟨rfl, e1, (by decide : 1 + 0 ≤ _), (by decide : 11 + 0 ≤ _)⟩)
  dsimp only [Pt.U, Pt.locs, Pt.cells, Pt.slots] at X2 l2 y2 z2 st2 hQ2
  subst l2 y2 z2
  obtain ⟨vl2_0, rfl, N2q, Kq2, tk2_0, tk2_1⟩ := hQ2
  have N2 := Fr.app N0 N2q
  have E_b1_v2 := E_b1_v1.keep Kq2
  have O2 := O1.keep Kq2 (allS gn_b1 all0)
  have K2 : Keep h0 T2.heap [] := K1.trans Kq2 (allS (Or.inr sz_b1) all0)
  obtain ⟨_, _, ⟨T3, L3, k3, n3⟩, -, X3, ⟨Lc3, hQ3, l3, y3, z3⟩, st3⟩ := Jvm.LawKit.callS X2 hx (y := (⟨s_1, "string", s_9⟩ : MethodName)) hown (mvT hZ (W hw 8 rfl)) (mvT hZ (W hw 9 rfl)) (mvT hZ (W hw 2 rfl)) (mvT hZ (W hw 10 rfl)) (by decide) (backOf (W := 0) (rm_28 l Z a0 hw w kk iw vw hN [] b1 vl2_0 k1 T2.heap O2 gn_b1 tk2_0.lt tk2_0 tk2_1) hZ (W hw 10 rfl) (W hw 2 rfl) (by decide) (by decide)) (g := (mkF m 11 #[.val (.int p0), .val (.ref b1)] [(.int (6 : Int32)), (.ref b1)])) rfl (by rw [hml]; rfl) (argsL := [(.ref b1), (.int (6 : Int32))]) (rest := []) (lenOf pd_9 rfl) rfl (by show 2 * 0 + _ ≤ _; exact Nat.le_of_eq rfl) (hb hby d0_11) (fun _ _ => ⟨rfl, rfl, (by decide : 1 + 2 ≤ _), (by decide : 11 + 10 ≤ _)⟩)
  dsimp only [Pt.U, Pt.locs, Pt.cells, Pt.slots] at X3 l3 y3 z3 st3 hQ3
  subst l3 y3 z3
  obtain ⟨b3_0, b3_1, kb3_0, vl3_0, rfl, N3q, Kq3, tk3_0, tk3_1, tk3_2, tk3_3, tk3_4, tk3_5, tk3_6, tk3_7⟩ := hQ3
  have N3 := Fr.app N2 N3q
  have gn_b3_0 : Z.heap.size ≤ b3_0 := Nat.le_trans O2.2.1 tk3_0
  have sz_b3_0 : h0.size ≤ b3_0 := Nat.le_trans K2.1 tk3_0
  have ne_b1_b3_0 : b1 ≠ b3_0 := Nat.ne_of_lt (Nat.lt_of_lt_of_le tk2_0.lt tk3_0)
  have gn_b3_1 : Z.heap.size ≤ b3_1 := Nat.le_trans O2.2.1 tk3_1
  have sz_b3_1 : h0.size ≤ b3_1 := Nat.le_trans K2.1 tk3_1
  have ne_b1_b3_1 : b1 ≠ b3_1 := Nat.ne_of_lt (Nat.lt_of_lt_of_le tk2_0.lt tk3_1)
  have tk2_0_v3 := tk2_0.keep Kq3
  have tk2_1_v3 := tk2_1.keep Kq3 nin0
  have O3 := O2.keep Kq3 all0
  have K3 : Keep h0 T3.heap [] := K2.trans Kq3 all0
  refine ⟨T3, some (.ref b3_0), _, _, _, by decide, by decide, X3, nofun, ⟨b3_0, b3_1, kb3_0, vl3_0, rfl, N3, K3, sz_b3_0, sz_b3_1, tk3_2, tk3_3, tk3_4, tk3_5, tk3_6, tk3_7⟩, fun fs hr => castTop (ef_10 m (.int p0) rfl) ?_⟩
  show Steps p.tables e below (s₁.setTop (mkF m 0 #[.val (.int p0), .unset] [])) _
  refine XS.bipush X0.here hx rfl (hb hby d0_0) ?_
  refine st1 _ ?_
  refine XS.astoreN X1.here hx rfl (hb hby d0_4) rfl rfl (l' := #[.val (.int p0), .val (.ref b1)]) rfl ?_
  refine XS.aloadN X1.here hx rfl (hb hby d0_5) rfl rfl ?_
  refine XS.aloadN X1.here hx rfl (hb hby d0_6) rfl rfl ?_
  refine XS.iloadN X1.here hx rfl (hb hby d0_7) rfl ?_
  refine st2 _ ?_
  refine st3 _ ?_
  show Steps p.tables e below (T3.setTop (mkF m 14 #[.val (.int p0), .val (.ref b1)] [(.ref b3_0)])) _
  exact retOut X3 hx hret rfl (Or.inr (Or.inr (Or.inr (Or.inr ⟨rfl, rfl, rfl⟩)))) (hb hby d0_14) hr
set_option maxRecDepth 65536 in
set_option maxHeartbeats 40000000 in
theorem rm_30 (l : Launch) (Z : State) (a0 : Array Value) (hw : ∀ d ∈ tables_1, d.before a0 Z = true) (w : Nat → Addr) (kk : Nat → ClassId) (iw : Nat → Int32) (vw : Nat → Value) (hN : Wd Z w kk iw vw) (ws : List Jvm.Cond) (o1 : Addr) (o2 : Addr) (vl_o2 : List Value) (kc_o2 : ClassId) (h0 : Heap) (O0 : Old Z Z.heap.size h0) (gn_o1 : Z.heap.size ≤ o1) (lt_o1 : o1 < h0.size) (E_o1 : Exa Z h0 o1 s_0) (gn_o2 : Z.heap.size ≤ o2) (lt_o2 : o2 < h0.size) (F_o1_value : Fld Z h0 o1 s_0 "value" "[B" (.ref o2)) (F_o1_coder : Fld Z h0 o1 s_0 "coder" "B" (.int (0 : Int32))) (E_o2 : Exa Z h0 o2 "[B") (V_o2 : Arv Z h0 o2 kc_o2 .byte (6 : Int32) vl_o2 (.int (0 : Int32))) (ne_o1_o2 : o1 ≠ o2) :
    Met l Z (⟨s_0, "coder", "()B"⟩ : MethodName) (Jvm.Cond.code (⟨s_0, "coder", "()B"⟩ : MethodName) jdk_42_method_152_code 1 (some .byte)) ws (Rm 0 0 0 0) #[(.ref o1)] h0 (OQ (some (.int (0 : Int32))) h0 Z.heap.size) := by
  have hN' := hN
  obtain ⟨hS0, hE0, hS1, hE1, hS2, hE2, hI0, hJ0, hR0, hRr0, hEq0⟩ := hN'
  refine own_body (plainFor_of_name pn_3) hisR ?_
  intro p e s m below meth c s₁ hx hby hml hown hnm hret X0 hZ e0
  have N0 := Fr.nil Z.heap.size
  obtain ⟨T1, X1, e1, st1⟩ := getS2 X0 hx hZ hown (host := "") (Or.inl (W hw 44 rfl)) Via.refl e0 (hI0.ext O0.2) (g := (mkF m 0 #[.val (.ref o1)] [])) rfl (hb hby d13_0)
  obtain ⟨T2, X2, e2, st2⟩ := getF X1 hx hZ hown (host := "") (Or.inl (W hw 65 rfl)) Via.refl e1 F_o1_coder (g := (mkF m 7 #[.val (.ref o1)] [(.ref o1)])) rfl rfl (hb hby d13_7)
  refine ⟨T2, some (.int (0 : Int32)), _, _, _, by decide, by decide, X2, nofun, (by rw [e2]; exact ⟨rfl, N0, rfl⟩), fun fs hr => castTop (ef_1 m (.ref o1) rfl) ?_⟩
  show Steps p.tables e below (s₁.setTop (mkF m 0 #[.val (.ref o1)] [])) _
  refine st1 _ ?_
  refine XS.ifNo X1.here hx rfl (hb hby d13_3) rfl ((if0 _ _).trans (feq hJ0).1) ?_
  refine XS.aloadN X1.here hx rfl (hb hby d13_6) rfl rfl ?_
  refine st2 _ ?_
  refine XS.goto X2.here hx rfl (pc0 := 10) (pc' := 14) rfl (hb hby d13_10) (by decide) (by decide) ?_
  show Steps p.tables e below (T2.setTop (mkF m 14 #[.val (.ref o1)] [(.int (0 : Int32))])) _
  exact retN X2 hx (t := .byte) hret (by simp) (hb hby d13_14) hr
theorem lf_18 : ((6 : Int32) >>> ((0 : Int32) &&& 31)) = (6 : Int32) := by decide
set_option maxRecDepth 65536 in
set_option maxHeartbeats 40000000 in
theorem rm_31 (l : Launch) (Z : State) (a0 : Array Value) (hw : ∀ d ∈ tables_1, d.before a0 Z = true) (w : Nat → Addr) (kk : Nat → ClassId) (iw : Nat → Int32) (vw : Nat → Value) (hN : Wd Z w kk iw vw) (ws : List Jvm.Cond) (o1 : Addr) (o2 : Addr) (vl_o2 : List Value) (kc_o2 : ClassId) (h0 : Heap) (O0 : Old Z Z.heap.size h0) (gn_o1 : Z.heap.size ≤ o1) (lt_o1 : o1 < h0.size) (E_o1 : Exa Z h0 o1 s_0) (gn_o2 : Z.heap.size ≤ o2) (lt_o2 : o2 < h0.size) (F_o1_value : Fld Z h0 o1 s_0 "value" "[B" (.ref o2)) (F_o1_coder : Fld Z h0 o1 s_0 "coder" "B" (.int (0 : Int32))) (E_o2 : Exa Z h0 o2 "[B") (V_o2 : Arv Z h0 o2 kc_o2 .byte (6 : Int32) vl_o2 (.int (0 : Int32))) (ne_o1_o2 : o1 ≠ o2) :
    Met l Z (⟨s_0, "length", "()I"⟩ : MethodName) (Jvm.Cond.code (⟨s_0, "length", "()I"⟩ : MethodName) jdk_42_method_54_code 1 (some .int)) ws (Rm 1 0 0 13) #[(.ref o1)] h0 (OQ (some (.int (6 : Int32))) h0 Z.heap.size) := by
  have hN' := hN
  obtain ⟨hS0, hE0, hS1, hE1, hS2, hE2, hI0, hJ0, hR0, hRr0, hEq0⟩ := hN'
  refine own_body (plainFor_of_name pn_3) hisR ?_
  intro p e s m below meth c s₁ hx hby hml hown hnm hret X0 hZ e0
  have N0 := Fr.nil Z.heap.size
  obtain ⟨T1, X1, e1, st1⟩ := getF X0 hx hZ hown (host := "") (Or.inl (W hw 63 rfl)) Via.refl e0 F_o1_value (g := (mkF m 1 #[.val (.ref o1)] [(.ref o1)])) rfl rfl (hb hby d12_1)
  obtain ⟨cl2, Ar2, q2, Sz2, Ng2, Hv2, Gv2⟩ := id V_o2
  obtain ⟨cq3, kq3, q3a, q3b, q3c⟩ := isOf hZ e1 E_o1
  obtain ⟨_, _, ⟨T3, L3, k3, n3⟩, -, X3, ⟨Lc3, hQ3, l3, y3, z3⟩, st3⟩ := X1.virtualBack hx (y := (⟨s_0, "coder", "()B"⟩ : MethodName)) (z := (⟨s_0, "coder", "()B"⟩ : MethodName)) hown (mvT hZ (W hw 72 rfl)) (mvT hZ (W hw 73 rfl)) (notFace_of_selects (args := #[]) (mvT hZ (W hw 75 rfl))) (mvT hZ (W hw 75 rfl)) (mvT hZ (W hw 74 rfl)) (by decide) (backOf (W := 1) (rm_30 l Z a0 hw w kk iw vw hN [] o1 o2 vl_o2 kc_o2 h0 O0 gn_o1 E_o1.lt E_o1 gn_o2 E_o2.lt F_o1_value F_o1_coder E_o2 V_o2 ne_o1_o2) hZ (W hw 76 rfl) (W hw 13 rfl) (by decide) (by decide)) q3a q3c (g := (mkF m 6 #[.val (.ref o1)] [(.ref o1), (.int (6 : Int32))])) rfl (by rw [hml]; rfl) (Steps.refl _) (argsL := []) (rest := [(.int (6 : Int32))]) (lenOf pd_11 rfl) rfl (by show 2 * 0 + _ ≤ _; exact Nat.le_of_eq rfl) (hb hby d12_6) (fun _ _ => ⟨rfl, e1, (by decide : 0 + 0 ≤ _), (by decide : 0 + 0 ≤ _)⟩)
  dsimp only [Pt.U, Pt.locs, Pt.cells, Pt.slots] at X3 l3 y3 z3 st3 hQ3
  subst l3 y3 z3
  obtain ⟨rfl, N3q, e3⟩ := hQ3
  have N3 := Fr.app N0 N3q
  refine ⟨T3, some (.int (6 : Int32)), _, _, _, by decide, by decide, X3, nofun, (by rw [e3]; exact ⟨rfl, N3, rfl⟩), fun fs hr => castTop (ef_1 m (.ref o1) rfl) ?_⟩
  show Steps p.tables e below (s₁.setTop (mkF m 0 #[.val (.ref o1)] [])) _
  refine XS.aloadN X0.here hx rfl (hb hby d12_0) rfl rfl ?_
  refine st1 _ ?_
  refine X1.arraylength hx (by rw [e1]; exact Ar2.1) (State.isArrayOf_alike hZ.alike Ar2.2.1) (g := (mkF m 4 #[.val (.ref o1)] [(.ref o2)])) rfl rfl (hb hby d12_4) _ ?_
  rw [len_of Sz2 Ng2]
  refine XS.aloadN X1.here hx rfl (hb hby d12_5) rfl rfl ?_
  refine st3.trans ?_
  refine XS.ishr X3.here hx rfl (hb hby d12_9) rfl ?_
  show Steps p.tables e below (T3.setTop (mkF m 10 #[.val (.ref o1)] [(.int ((6 : Int32) >>> ((0 : Int32) &&& 31)))])) _
  rw [lf_18]
  show Steps p.tables e below (T3.setTop (mkF m 10 #[.val (.ref o1)] [(.int (6 : Int32))])) _
  exact retI X3 hx hret (hb hby d12_10) hr
set_option maxRecDepth 65536 in
set_option maxHeartbeats 40000000 in
theorem law_32 (l : Launch) (Z : State) (a0 : Array Value) (hw : ∀ d ∈ tables_1, d.before a0 Z = true) (w : Nat → Addr) (kk : Nat → ClassId) (iw : Nat → Int32) (vw : Nat → Value) (hN : Wd Z w kk iw vw) (ws : List Jvm.Cond) (p0 : Int32) (h0 : Heap) (O0 : Old Z Z.heap.size h0) (hp0 : p0 < (0 : Int32)) (hp1 : ¬ ((p0 / (10000 : Int32)) = (0 : Int32))) (hp2 : ((p0 / (10000 : Int32)) / (10 : Int32)) = (0 : Int32)) (hp3 : p0 < (1000 : Int32)) :
    MetFree l x (head1 (Jvm.Cond.code x code maxLocals ret :: ws) room_1) (fun a U => a = #[(.int p0)] ∧ Z.Warmed39 U.vm ∧ U.heap = h0) (fun _ _ _ _ _ => True) (fun _ U o U' => ∃ v L, o = .returned v ∧ OL (some (.int (1 : Int32))) Z.heap.size v U'.heap L ∧ FrameEnd U o U' L 16 128) := by
  have hN' := hN
  obtain ⟨hS0, hE0, hS1, hE1, hS2, hE2, hI0, hJ0, hR0, hRr0, hEq0⟩ := hN'
  refine MetFree.of_bodySF (plainFor_of_name pn_5) hisR ?_
  intro p e s m args below meth c s₁ Bd hml0 hP hK
  obtain ⟨rfl, hZ, hh⟩ := hP
  have hx := Bd.exec
  have hby := Bd.bytes
  have hml : c.maxLocals = 3 := hml0
  have hown : s.vm.findClass s_3 = some m.cls := findClass_of_methodNamed Bd.named
  have hnm := (name_of_methodNamed Bd.named Bd.method).1
  have X0 : Stand p l e room_1 s m #[(.int p0)] below meth c s₁ [] 0 0 := Stand.of_body Bd
  have e0 : s₁.heap = h0 := by rw [← hh, Bd.state]; rfl
  have N0 := Fr.nil Z.heap.size
  obtain ⟨_, _, ⟨T1, L1, k1, n1⟩, -, X1, ⟨Lc1, hQ1, l1, y1, z1⟩, st1⟩ := Jvm.LawKit.callS X0 hx (y := (⟨s_1, "yearText", s_4⟩ : MethodName)) hown (mvT hZ (W hw 0 rfl)) (mvT hZ (W hw 1 rfl)) (mvT hZ (W hw 2 rfl)) (mvT hZ (W hw 3 rfl)) (by decide) (backOf (W := 0) (rm_29 l Z a0 hw w kk iw vw hN [] p0 h0 O0 hp0 hp1 hp2) hZ (W hw 3 rfl) (W hw 2 rfl) (by decide) (by decide)) (g := (mkF m 1 #[.val (.int p0), .unset, .unset] [(.int p0)])) rfl (by rw [hml]; rfl) (argsL := [(.int p0)]) (rest := []) (lenOf pd_10 rfl) rfl (by show 2 * 0 + _ ≤ _; exact Nat.le_of_eq rfl) (hb hby at_1) (fun _ _ => ⟨rfl, e0, (by decide : 0 + 3 ≤ _), (by decide : 0 + 21 ≤ _)⟩)
  dsimp only [Pt.U, Pt.locs, Pt.cells, Pt.slots] at X1 l1 y1 z1 st1 hQ1
  subst l1 y1 z1
  obtain ⟨b1_0, b1_1, kb1_0, vl1_0, rfl, N1q, Kq1, tk1_0, tk1_1, tk1_2, tk1_3, tk1_4, tk1_5, tk1_6, tk1_7⟩ := hQ1
  have N1 := Fr.app N0 N1q
  have gn_b1_0 : Z.heap.size ≤ b1_0 := Nat.le_trans O0.2.1 tk1_0
  have gn_b1_1 : Z.heap.size ≤ b1_1 := Nat.le_trans O0.2.1 tk1_1
  have O1 := O0.keep Kq1 all0
  obtain ⟨cq2, kq2, q2a, q2b, q2c⟩ := isOf hZ rfl tk1_3
  obtain ⟨_, _, ⟨T2, L2, k2, n2⟩, -, X2, ⟨Lc2, hQ2, l2, y2, z2⟩, st2⟩ := X1.virtualBack hx (y := (⟨s_0, "length", "()I"⟩ : MethodName)) (z := (⟨s_0, "length", "()I"⟩ : MethodName)) hown (mvT hZ (W hw 67 rfl)) (mvT hZ (W hw 68 rfl)) (notFace_of_selects (args := #[]) (mvT hZ (W hw 70 rfl))) (mvT hZ (W hw 70 rfl)) (mvT hZ (W hw 69 rfl)) (by decide) (backOf (W := 0) (rm_31 l Z a0 hw w kk iw vw hN [] b1_0 b1_1 vl1_0 kb1_0 T1.heap O1 gn_b1_0 tk1_3.lt tk1_3 gn_b1_1 tk1_6.lt tk1_4 tk1_5 tk1_6 tk1_7 tk1_2) hZ (W hw 71 rfl) (W hw 13 rfl) (by decide) (by decide)) q2a q2c (g := (mkF m 6 #[.val (.int p0), .val (.ref b1_0), .unset] [(.ref b1_0)])) rfl (by rw [hml]; rfl) (Steps.refl _) (argsL := []) (rest := []) (lenOf pd_12 rfl) rfl (by show 2 * 0 + _ ≤ _; exact Nat.le_of_eq rfl) (hb hby at_6) (fun _ _ => ⟨rfl, rfl, (by decide : 3 + 0 ≤ _), (by decide : 21 + 0 ≤ _)⟩)
  dsimp only [Pt.U, Pt.locs, Pt.cells, Pt.slots] at X2 l2 y2 z2 st2 hQ2
  subst l2 y2 z2
  obtain ⟨rfl, N2q, e2⟩ := hQ2
  have N2 := Fr.app N1 N2q
  obtain ⟨_, _, ⟨T3, L3, k3, n3⟩, -, X3, ⟨Lc3, hQ3, l3, y3, z3⟩, st3⟩ := Jvm.LawKit.callS X2 hx (y := (⟨s_1, s_15, "(I)Z"⟩ : MethodName)) hown (mvT hZ (W hw 97 rfl)) (mvT hZ (W hw 98 rfl)) (mvT hZ (W hw 2 rfl)) (mvT hZ (W hw 99 rfl)) (by decide) (backOf (W := 0) (rm_16 l Z a0 hw w kk iw vw hN [] p0 T1.heap O1 hp3) hZ (W hw 99 rfl) (W hw 2 rfl) (by decide) (by decide)) (g := (mkF m 30 #[.val (.int p0), .val (.ref b1_0), .val (.int (0 : Int32))] [(.int p0)])) rfl (by rw [hml]; rfl) (argsL := [(.int p0)]) (rest := []) (lenOf pd_13 rfl) rfl (by show 2 * 0 + _ ≤ _; exact Nat.le_of_eq rfl) (hb hby at_30) (fun _ _ => ⟨rfl, e2, (by decide : 3 + 0 ≤ _), (by decide : 21 + 0 ≤ _)⟩)
  dsimp only [Pt.U, Pt.locs, Pt.cells, Pt.slots] at X3 l3 y3 z3 st3 hQ3
  subst l3 y3 z3
  obtain ⟨rfl, N3q, e3⟩ := hQ3
  have N3 := Fr.app N2 N3q
  obtain ⟨fs, hr, hrun, hended, hW, hsame⟩ := X3.leave (v := some (.int (1 : Int32))) (fun h => by rw [Bd.returns] at h; cases h)
  refine ⟨_, _, castTop (ef_12 m (.int p0) rfl) ?_, hrun, hended, _, _, rfl, ?_, ⟨_, rfl⟩, hW, hsame.mono (by decide) (by decide)⟩
  · show Steps p.tables e below (s₁.setTop (mkF m 0 #[.val (.int p0), .unset, .unset] [])) _
    refine XS.iloadN X0.here hx rfl (hb hby at_0) rfl ?_
    refine st1 _ ?_
    refine XS.astoreN X1.here hx rfl (hb hby at_4) rfl rfl (l' := #[.val (.int p0), .val (.ref b1_0), .unset]) rfl ?_
    refine XS.aloadN X1.here hx rfl (hb hby at_5) rfl rfl ?_
    refine st2.trans ?_
    refine XS.iconst X2.here hx rfl (hb hby at_9) ?_
    refine XS.icmpYes X2.here hx rfl (pc0 := 10) (pc' := 27) rfl (hb hby at_10) rfl (feq (by decide : ¬ ((6 : Int32) = (4 : Int32)))).2 (by decide) (by decide) ?_
    refine XS.iconst X2.here hx rfl (hb hby at_27) ?_
    refine XS.istoreN X2.here hx rfl (hb hby at_28) rfl (l' := #[.val (.int p0), .val (.ref b1_0), .val (.int (0 : Int32))]) rfl ?_
    refine XS.iloadN X2.here hx rfl (hb hby at_29) rfl ?_
    show Steps p.tables e below (T2.setTop (mkF m 30 #[.val (.int p0), .val (.ref b1_0), .val (.int (0 : Int32))] [(.int p0)])) _
    refine st3 _ ?_
    refine XS.iloadN X3.here hx rfl (hb hby at_33) rfl ?_
    refine XS.icmpNo X3.here hx rfl (hb hby at_34) rfl (teq (by decide : (0 : Int32) = (0 : Int32))).2 ?_
    refine XS.iconst X3.here hx rfl (hb hby at_37) ?_
    refine XS.goto X3.here hx rfl (pc0 := 38) (pc' := 42) rfl (hb hby at_38) (by decide) (by decide) ?_
    show Steps p.tables e below (T3.setTop (mkF m 42 #[.val (.int p0), .val (.ref b1_0), .val (.int (0 : Int32))] [(.int (1 : Int32))])) _
    exact retN X3 hx (t := .boolean) Bd.returns (by simp) (hb hby at_42) hr
  · show OL (some (.int (1 : Int32))) Z.heap.size _ T3.heap _
    exact ⟨rfl, N3⟩
theorem lf_19 : ((6 : Int32) + (1 : Int32)) = (7 : Int32) := by decide
theorem lf_20 : ((7 : Int32) - (1 : Int32)) = (6 : Int32) := by decide
theorem lf_21 : ((6 : Int32) + (-1 : Int32)) = (5 : Int32) := by decide
def Qd_10 (Z : State) (w : Nat → Addr) (kk : Nat → ClassId) (iw : Nat → Int32) (vw : Nat → Value) (o1 : Addr) (p1 : Int32) (kc_o1 : ClassId) (h0 : Heap) (n0 : Nat) (v : Option Value) (h : Heap) (L : List Loc) : Prop := ∃ (vx1 : List Value), v = some (.int (7 : Int32)) ∧ Fr n0 L ∧ Keep h0 h [o1] ∧ Exa Z h o1 "[B" ∧ Arv Z h o1 kc_o1 .byte (11 : Int32) vx1 (.int (0 : Int32))
set_option maxRecDepth 65536 in
set_option maxHeartbeats 40000000 in
theorem rm_33 (l : Launch) (Z : State) (a0 : Array Value) (hw : ∀ d ∈ tables_1, d.before a0 Z = true) (w : Nat → Addr) (kk : Nat → ClassId) (iw : Nat → Int32) (vw : Nat → Value) (hN : Wd Z w kk iw vw) (ws : List Jvm.Cond) (o1 : Addr) (p1 : Int32) (kc_o1 : ClassId) (h0 : Heap) (O0 : Old Z Z.heap.size h0) (gn_o1 : Z.heap.size ≤ o1) (lt_o1 : o1 < h0.size) (E_o1 : Exa Z h0 o1 "[B") (V_o1 : Arv Z h0 o1 kc_o1 .byte (11 : Int32) [] (.int (0 : Int32))) (hp0 : p1 < (0 : Int32)) (hp1 : ¬ ((p1 / (10000 : Int32)) = (0 : Int32))) (hp2 : ¬ (((p1 / (10000 : Int32)) / (10 : Int32)) = (0 : Int32))) (hp3 : (((p1 / (10000 : Int32)) / (10 : Int32)) / (10 : Int32)) = (0 : Int32)) :
    Met l Z (⟨s_1, "writeYear", "([BI)I"⟩ : MethodName) (Jvm.Cond.code (⟨s_1, "writeYear", "([BI)I"⟩ : MethodName) prog_22_method_7_code 7 (some .int)) ws (Rm 0 0 0 0) #[(.ref o1), (.int p1)] h0 (Qd_10 Z w kk iw vw o1 p1 kc_o1 h0 Z.heap.size) := by
  have hN' := hN
  obtain ⟨hS0, hE0, hS1, hE1, hS2, hE2, hI0, hJ0, hR0, hRr0, hEq0⟩ := hN'
  refine own_body (plainFor_of_name pn_0) hisR ?_
  intro p e s m below meth c s₁ hx hby hml hown hnm hret X0 hZ e0
  have N0 := Fr.nil Z.heap.size
  have K0 : Keep h0 h0 [o1] := Keep.refl _ _
  have Vc1 := V_o1
  obtain ⟨cl1, Ar1, q1, Sz1, Ng1, Hv1, Gv1⟩ := Vc1
  have hin1 : ¬ ((0 : Int32) < 0 ∨ cl1.slots.size ≤ ((0 : Int32)).toNatClampNeg) := inb_of Sz1 ⟨(by decide : ¬ ((0 : Int32) < (0 : Int32))), (by decide : (0 : Int32) < (11 : Int32))⟩
  obtain ⟨T2, h2, X2, e2, W2, st2⟩ := stB X0 hx hZ e0 Ar1 (j := (0 : Int32)) hin1 (g := (mkF m 8 #[.val (.ref o1), .val (.int p1), .unset, .unset, .unset, .unset, .unset] [(.int (45 : Int32)), (.int (0 : Int32)), (.ref o1)])) rfl rfl (hb hby d1_8)
  obtain ⟨vl2, V_o1_v2⟩ := own_store V_o1 W2 (fits_nar_byte _) ⟨(by decide : ¬ ((0 : Int32) < (0 : Int32))), (by decide : (0 : Int32) < (11 : Int32))⟩
  have N2 := Fr.snoc X2 N0 gn_o1
  have E_o1_v2 := E_o1.wr W2
  have O2 := O0.wr W2 gn_o1
  have K2 : Keep h0 h2 [o1] := K0.wr W2 (Or.inl (List.mem_of_getElem? (i := 0) rfl))
  obtain ⟨T3, L3, X3, st3, N3, e3⟩ := sg_18 w kk iw vw hN o1 p1 (1 : Int32) p1 (5 : Int32) (p1 / (10000 : Int32)) vl2 kc_o1 X2 hx hZ hw hby hml hown e2 O2 N2 gn_o1 E_o1_v2.lt E_o1_v2 V_o1_v2 hp1
  obtain ⟨T4, L4, X4, st4, N4, e4⟩ := sg_18 w kk iw vw hN o1 p1 (1 : Int32) p1 (6 : Int32) ((p1 / (10000 : Int32)) / (10 : Int32)) vl2 kc_o1 X3 hx hZ hw hby hml hown e3 O2 N3 gn_o1 E_o1_v2.lt E_o1_v2 V_o1_v2 hp2
  obtain ⟨T5, L5, vl5_0, z5_5, X5, st5, N5, Kq5, tk5_0, tk5_1⟩ := sg_1 w kk iw vw hN o1 p1 (1 : Int32) p1 (7 : Int32) p1 (6 : Int32) vl2 kc_o1 X4 hx hZ hw hby hml hown e4 O2 N4 gn_o1 E_o1_v2.lt E_o1_v2 V_o1_v2 (by decide : ¬ ((6 : Int32) < (1 : Int32))) (by decide : ¬ ((6 : Int32) < (0 : Int32))) (by decide : (6 : Int32) < (11 : Int32))
  have E_o1_v5 := E_o1_v2.keep Kq5
  have O5 := O2.keep Kq5 (allS gn_o1 all0)
  have K5 : Keep h0 T5.heap [o1] := K2.trans Kq5 (allS (Or.inl (List.mem_of_getElem? (i := 0) rfl)) all0)
  obtain ⟨T6, L6, vl6_0, z5_6, X6, st6, N6, Kq6, tk6_0, tk6_1⟩ := sg_1 w kk iw vw hN o1 p1 (1 : Int32) p1 (7 : Int32) z5_5 (5 : Int32) vl5_0 kc_o1 X5 hx hZ hw hby hml hown rfl O5 N5 gn_o1 tk5_0.lt tk5_0 tk5_1 (by decide : ¬ ((5 : Int32) < (1 : Int32))) (by decide : ¬ ((5 : Int32) < (0 : Int32))) (by decide : (5 : Int32) < (11 : Int32))
  have tk5_0_v6 := tk5_0.keep Kq6
  have O6 := O5.keep Kq6 (allS gn_o1 all0)
  have K6 : Keep h0 T6.heap [o1] := K5.trans Kq6 (allS (Or.inl (List.mem_of_getElem? (i := 0) rfl)) all0)
  obtain ⟨T7, L7, vl7_0, z5_7, X7, st7, N7, Kq7, tk7_0, tk7_1⟩ := sg_1 w kk iw vw hN o1 p1 (1 : Int32) p1 (7 : Int32) z5_6 (4 : Int32) vl6_0 kc_o1 X6 hx hZ hw hby hml hown rfl O6 N6 gn_o1 tk6_0.lt tk6_0 tk6_1 (by decide : ¬ ((4 : Int32) < (1 : Int32))) (by decide : ¬ ((4 : Int32) < (0 : Int32))) (by decide : (4 : Int32) < (11 : Int32))
  have tk6_0_v7 := tk6_0.keep Kq7
  have O7 := O6.keep Kq7 (allS gn_o1 all0)
  have K7 : Keep h0 T7.heap [o1] := K6.trans Kq7 (allS (Or.inl (List.mem_of_getElem? (i := 0) rfl)) all0)
  obtain ⟨T8, L8, vl8_0, z5_8, X8, st8, N8, Kq8, tk8_0, tk8_1⟩ := sg_1 w kk iw vw hN o1 p1 (1 : Int32) p1 (7 : Int32) z5_7 (3 : Int32) vl7_0 kc_o1 X7 hx hZ hw hby hml hown rfl O7 N7 gn_o1 tk7_0.lt tk7_0 tk7_1 (by decide : ¬ ((3 : Int32) < (1 : Int32))) (by decide : ¬ ((3 : Int32) < (0 : Int32))) (by decide : (3 : Int32) < (11 : Int32))
  have tk7_0_v8 := tk7_0.keep Kq8
  have O8 := O7.keep Kq8 (allS gn_o1 all0)
  have K8 : Keep h0 T8.heap [o1] := K7.trans Kq8 (allS (Or.inl (List.mem_of_getElem? (i := 0) rfl)) all0)
  obtain ⟨T9, L9, vl9_0, z5_9, X9, st9, N9, Kq9, tk9_0, tk9_1⟩ := sg_1 w kk iw vw hN o1 p1 (1 : Int32) p1 (7 : Int32) z5_8 (2 : Int32) vl8_0 kc_o1 X8 hx hZ hw hby hml hown rfl O8 N8 gn_o1 tk8_0.lt tk8_0 tk8_1 (by decide : ¬ ((2 : Int32) < (1 : Int32))) (by decide : ¬ ((2 : Int32) < (0 : Int32))) (by decide : (2 : Int32) < (11 : Int32))
  have tk8_0_v9 := tk8_0.keep Kq9
  have O9 := O8.keep Kq9 (allS gn_o1 all0)
  have K9 : Keep h0 T9.heap [o1] := K8.trans Kq9 (allS (Or.inl (List.mem_of_getElem? (i := 0) rfl)) all0)
  obtain ⟨T10, L10, vl10_0, z5_10, X10, st10, N10, Kq10, tk10_0, tk10_1⟩ := sg_1 w kk iw vw hN o1 p1 (1 : Int32) p1 (7 : Int32) z5_9 (1 : Int32) vl9_0 kc_o1 X9 hx hZ hw hby hml hown rfl O9 N9 gn_o1 tk9_0.lt tk9_0 tk9_1 (by decide : ¬ ((1 : Int32) < (1 : Int32))) (by decide : ¬ ((1 : Int32) < (0 : Int32))) (by decide : (1 : Int32) < (11 : Int32))
  have tk9_0_v10 := tk9_0.keep Kq10
  have O10 := O9.keep Kq10 (allS gn_o1 all0)
  have K10 : Keep h0 T10.heap [o1] := K9.trans Kq10 (allS (Or.inl (List.mem_of_getElem? (i := 0) rfl)) all0)
  refine ⟨T10, some (.int (7 : Int32)), _, _, _, by decide, by decide, X10, nofun, ⟨vl10_0, rfl, N10, K10, tk10_0, tk10_1⟩, fun fs hr => castTop (ef_0 m (.ref o1) rfl (.int p1) rfl) ?_⟩
  show Steps p.tables e below (s₁.setTop (mkF m 0 #[.val (.ref o1), .val (.int p1), .unset, .unset, .unset, .unset, .unset] [])) _
  refine XS.iloadN X0.here hx rfl (hb hby d1_0) rfl ?_
  refine XS.ifNo X0.here hx rfl (hb hby d1_1) rfl ((if0 _ _).trans (tlt hp0).2.1) ?_
  refine XS.aloadN X0.here hx rfl (hb hby d1_4) rfl rfl ?_
  refine XS.iconst X0.here hx rfl (hb hby d1_5) ?_
  refine XS.bipush X0.here hx rfl (hb hby d1_6) ?_
  refine st2 _ ?_
  refine XS.iconst X2.here hx rfl (hb hby d1_9) ?_
  refine XS.istoreN X2.here hx rfl (hb hby d1_10) rfl (l' := #[.val (.ref o1), .val (.int p1), .val (.int (1 : Int32)), .unset, .unset, .unset, .unset]) rfl ?_
  refine XS.goto X2.here hx rfl (pc0 := 11) (pc' := 33) rfl (hb hby d1_11) (by decide) (by decide) ?_
  refine XS.iloadN X2.here hx rfl (hb hby d1_33) rfl ?_
  show Steps p.tables e below (T2.setTop (mkF m 34 #[.val (.ref o1), .val (.int p1), .val (.int (1 : Int32)), .unset, .unset, .unset, .unset] [(.int p1)])) _
  refine XS.ifNo X2.here hx rfl (hb hby d1_34) rfl ((if0 _ _).trans (tlt hp0).2.1) ?_
  refine XS.iloadN X2.here hx rfl (hb hby d1_37) rfl ?_
  refine XS.goto X2.here hx rfl (pc0 := 38) (pc' := 43) rfl (hb hby d1_38) (by decide) (by decide) ?_
  refine XS.istoreN X2.here hx rfl (hb hby d1_43) rfl (l' := #[.val (.ref o1), .val (.int p1), .val (.int (1 : Int32)), .val (.int p1), .unset, .unset, .unset]) rfl ?_
  refine XS.iloadN X2.here hx rfl (hb hby d1_44) rfl ?_
  refine XS.iconst X2.here hx rfl (hb hby d1_45) ?_
  refine XS.iadd X2.here hx rfl (hb hby d1_46) rfl ?_
  show Steps p.tables e below (T2.setTop (mkF m 47 #[.val (.ref o1), .val (.int p1), .val (.int (1 : Int32)), .val (.int p1), .unset, .unset, .unset] [(.int ((1 : Int32) + (4 : Int32)))])) _
  rw [lf_0]
  refine XS.istore X2.here hx rfl (hb hby d1_47) rfl (l' := #[.val (.ref o1), .val (.int p1), .val (.int (1 : Int32)), .val (.int p1), .val (.int (5 : Int32)), .unset, .unset]) rfl ?_
  refine XS.iloadN X2.here hx rfl (hb hby d1_49) rfl ?_
  refine XS.sipush X2.here hx rfl (hb hby d1_50) ?_
  show Steps p.tables e below (T2.setTop (mkF m 53 #[.val (.ref o1), .val (.int p1), .val (.int (1 : Int32)), .val (.int p1), .val (.int (5 : Int32)), .unset, .unset] [(.int (10000 : Int32)), (.int p1)])) _
  refine XS.idiv X2.here hx rfl (hb hby d1_53) rfl (by decide : ¬ ((10000 : Int32) = (0 : Int32))) ?_
  refine XS.istore X2.here hx rfl (hb hby d1_54) rfl (l' := #[.val (.ref o1), .val (.int p1), .val (.int (1 : Int32)), .val (.int p1), .val (.int (5 : Int32)), .val (.int (p1 / (10000 : Int32))), .unset]) rfl ?_
  show Steps p.tables e below (T2.setTop (mkF m 56 #[.val (.ref o1), .val (.int p1), .val (.int (1 : Int32)), .val (.int p1), .val (.int (5 : Int32)), .val (.int (p1 / (10000 : Int32))), .unset] [])) _
  refine st3 _ ?_
  show Steps p.tables e below (T3.setTop (mkF m 56 #[.val (.ref o1), .val (.int p1), .val (.int (1 : Int32)), .val (.int p1), .val (.int ((5 : Int32) + (1 : Int32))), .val (.int ((p1 / (10000 : Int32)) / (10 : Int32))), .unset] [])) _
  rw [lf_12]
  show Steps p.tables e below (T3.setTop (mkF m 56 #[.val (.ref o1), .val (.int p1), .val (.int (1 : Int32)), .val (.int p1), .val (.int (6 : Int32)), .val (.int ((p1 / (10000 : Int32)) / (10 : Int32))), .unset] [])) _
  refine st4 _ ?_
  show Steps p.tables e below (T4.setTop (mkF m 56 #[.val (.ref o1), .val (.int p1), .val (.int (1 : Int32)), .val (.int p1), .val (.int ((6 : Int32) + (1 : Int32))), .val (.int (((p1 / (10000 : Int32)) / (10 : Int32)) / (10 : Int32))), .unset] [])) _
  rw [lf_19]
  refine XS.iload X4.here hx rfl (hb hby d1_56) rfl ?_
  refine XS.ifYes X4.here hx rfl (pc0 := 58) (pc' := 74) rfl (hb hby d1_58) rfl ((if0 _ _).trans (teq hp3).1) (by decide) (by decide) ?_
  refine XS.iloadN X4.here hx rfl (hb hby d1_74) rfl ?_
  refine XS.istore X4.here hx rfl (hb hby d1_75) rfl (l' := #[.val (.ref o1), .val (.int p1), .val (.int (1 : Int32)), .val (.int p1), .val (.int (7 : Int32)), .val (.int p1), .unset]) rfl ?_
  refine XS.iload X4.here hx rfl (hb hby d1_77) rfl ?_
  refine XS.iconst X4.here hx rfl (hb hby d1_79) ?_
  refine XS.isub X4.here hx rfl (hb hby d1_80) rfl ?_
  show Steps p.tables e below (T4.setTop (mkF m 81 #[.val (.ref o1), .val (.int p1), .val (.int (1 : Int32)), .val (.int p1), .val (.int (7 : Int32)), .val (.int p1), .unset] [(.int ((7 : Int32) - (1 : Int32)))])) _
  rw [lf_20]
  refine XS.istore X4.here hx rfl (hb hby d1_81) rfl (l' := #[.val (.ref o1), .val (.int p1), .val (.int (1 : Int32)), .val (.int p1), .val (.int (7 : Int32)), .val (.int p1), .val (.int (6 : Int32))]) rfl ?_
  show Steps p.tables e below (T4.setTop (mkF m 83 #[.val (.ref o1), .val (.int p1), .val (.int (1 : Int32)), .val (.int p1), .val (.int (7 : Int32)), .val (.int p1), .val (.int (6 : Int32))] [])) _
  refine st5 _ ?_
  show Steps p.tables e below (T5.setTop (mkF m 83 #[.val (.ref o1), .val (.int p1), .val (.int (1 : Int32)), .val (.int p1), .val (.int (7 : Int32)), .val (.int z5_5), .val (.int ((6 : Int32) + (-1 : Int32)))] [])) _
  rw [lf_21]
  show Steps p.tables e below (T5.setTop (mkF m 83 #[.val (.ref o1), .val (.int p1), .val (.int (1 : Int32)), .val (.int p1), .val (.int (7 : Int32)), .val (.int z5_5), .val (.int (5 : Int32))] [])) _
  refine st6 _ ?_
  show Steps p.tables e below (T6.setTop (mkF m 83 #[.val (.ref o1), .val (.int p1), .val (.int (1 : Int32)), .val (.int p1), .val (.int (7 : Int32)), .val (.int z5_6), .val (.int ((5 : Int32) + (-1 : Int32)))] [])) _
  rw [lf_14]
  show Steps p.tables e below (T6.setTop (mkF m 83 #[.val (.ref o1), .val (.int p1), .val (.int (1 : Int32)), .val (.int p1), .val (.int (7 : Int32)), .val (.int z5_6), .val (.int (4 : Int32))] [])) _
  refine st7 _ ?_
  show Steps p.tables e below (T7.setTop (mkF m 83 #[.val (.ref o1), .val (.int p1), .val (.int (1 : Int32)), .val (.int p1), .val (.int (7 : Int32)), .val (.int z5_7), .val (.int ((4 : Int32) + (-1 : Int32)))] [])) _
  rw [lf_2]
  show Steps p.tables e below (T7.setTop (mkF m 83 #[.val (.ref o1), .val (.int p1), .val (.int (1 : Int32)), .val (.int p1), .val (.int (7 : Int32)), .val (.int z5_7), .val (.int (3 : Int32))] [])) _
  refine st8 _ ?_
  show Steps p.tables e below (T8.setTop (mkF m 83 #[.val (.ref o1), .val (.int p1), .val (.int (1 : Int32)), .val (.int p1), .val (.int (7 : Int32)), .val (.int z5_8), .val (.int ((3 : Int32) + (-1 : Int32)))] [])) _
  rw [lf_3]
  show Steps p.tables e below (T8.setTop (mkF m 83 #[.val (.ref o1), .val (.int p1), .val (.int (1 : Int32)), .val (.int p1), .val (.int (7 : Int32)), .val (.int z5_8), .val (.int (2 : Int32))] [])) _
  refine st9 _ ?_
  show Steps p.tables e below (T9.setTop (mkF m 83 #[.val (.ref o1), .val (.int p1), .val (.int (1 : Int32)), .val (.int p1), .val (.int (7 : Int32)), .val (.int z5_9), .val (.int ((2 : Int32) + (-1 : Int32)))] [])) _
  rw [lf_4]
  show Steps p.tables e below (T9.setTop (mkF m 83 #[.val (.ref o1), .val (.int p1), .val (.int (1 : Int32)), .val (.int p1), .val (.int (7 : Int32)), .val (.int z5_9), .val (.int (1 : Int32))] [])) _
  refine st10 _ ?_
  show Steps p.tables e below (T10.setTop (mkF m 83 #[.val (.ref o1), .val (.int p1), .val (.int (1 : Int32)), .val (.int p1), .val (.int (7 : Int32)), .val (.int z5_10), .val (.int ((1 : Int32) + (-1 : Int32)))] [])) _
  rw [lf_5]
  refine XS.iload X10.here hx rfl (hb hby d1_83) rfl ?_
  refine XS.iloadN X10.here hx rfl (hb hby d1_85) rfl ?_
  refine XS.icmpYes X10.here hx rfl (pc0 := 86) (pc' := 115) rfl (hb hby d1_86) rfl (tlt (by decide : (0 : Int32) < (1 : Int32))).1 (by decide) (by decide) ?_
  refine XS.iload X10.here hx rfl (hb hby d1_115) rfl ?_
  show Steps p.tables e below (T10.setTop (mkF m 117 #[.val (.ref o1), .val (.int p1), .val (.int (1 : Int32)), .val (.int p1), .val (.int (7 : Int32)), .val (.int z5_10), .val (.int (0 : Int32))] [(.int (7 : Int32))])) _
  exact retI X10 hx hret (hb hby d1_117) hr
theorem lf_22 : ((11 : Int32) ||| (7 : Int32)) = (15 : Int32) := by decide
set_option maxRecDepth 65536 in
set_option maxHeartbeats 40000000 in
theorem rm_34 (l : Launch) (Z : State) (a0 : Array Value) (hw : ∀ d ∈ tables_1, d.before a0 Z = true) (w : Nat → Addr) (kk : Nat → ClassId) (iw : Nat → Int32) (vw : Nat → Value) (hN : Wd Z w kk iw vw) (ws : List Jvm.Cond)  (h0 : Heap) (O0 : Old Z Z.heap.size h0) :
    Met l Z (⟨s_6, s_11, s_5⟩ : MethodName) (Jvm.Cond.code (⟨s_6, s_11, s_5⟩ : MethodName) jdk_41_method_13_code 4 (some .int)) ws (Rm 0 0 0 0) #[(.int (0 : Int32)), (.int (7 : Int32)), (.int (11 : Int32)), (vw 0)] h0 (OQ (some (.int (0 : Int32))) h0 Z.heap.size) := by
  have hN' := hN
  obtain ⟨hS0, hE0, hS1, hE1, hS2, hE2, hI0, hJ0, hR0, hRr0, hEq0⟩ := hN'
  refine own_body (plainFor_of_name pn_2) hisR ?_
  intro p e s m below meth c s₁ hx hby hml hown hnm hret X0 hZ e0
  have N0 := Fr.nil Z.heap.size
  refine ⟨s₁, some (.int (0 : Int32)), _, _, _, by decide, by decide, X0, nofun, (by rw [e0]; exact ⟨rfl, N0, rfl⟩), fun fs hr => castTop (ef_2 m (.int (0 : Int32)) rfl (.int (7 : Int32)) rfl (.int (11 : Int32)) rfl (vw 0) (own_cat hRr0)) ?_⟩
  show Steps p.tables e below (s₁.setTop (mkF m 0 #[.val (.int (0 : Int32)), .val (.int (7 : Int32)), .val (.int (11 : Int32)), .val (vw 0)] [])) _
  refine XS.iloadN X0.here hx rfl (hb hby d6_0) rfl ?_
  refine XS.iloadN X0.here hx rfl (hb hby d6_1) rfl ?_
  refine XS.ior X0.here hx rfl (hb hby d6_2) rfl ?_
  show Steps p.tables e below (s₁.setTop (mkF m 3 #[.val (.int (0 : Int32)), .val (.int (7 : Int32)), .val (.int (11 : Int32)), .val (vw 0)] [(.int ((11 : Int32) ||| (0 : Int32)))])) _
  rw [lf_6]
  refine XS.iloadN X0.here hx rfl (hb hby d6_3) rfl ?_
  refine XS.ior X0.here hx rfl (hb hby d6_4) rfl ?_
  show Steps p.tables e below (s₁.setTop (mkF m 5 #[.val (.int (0 : Int32)), .val (.int (7 : Int32)), .val (.int (11 : Int32)), .val (vw 0)] [(.int ((11 : Int32) ||| (7 : Int32)))])) _
  rw [lf_22]
  refine XS.ifNo X0.here hx rfl (hb hby d6_5) rfl ((if0 _ _).trans (flt (by decide : ¬ ((15 : Int32) < (0 : Int32)))).1) ?_
  refine XS.iloadN X0.here hx rfl (hb hby d6_8) rfl ?_
  refine XS.iloadN X0.here hx rfl (hb hby d6_9) rfl ?_
  refine XS.iloadN X0.here hx rfl (hb hby d6_10) rfl ?_
  refine XS.isub X0.here hx rfl (hb hby d6_11) rfl ?_
  show Steps p.tables e below (s₁.setTop (mkF m 12 #[.val (.int (0 : Int32)), .val (.int (7 : Int32)), .val (.int (11 : Int32)), .val (vw 0)] [(.int ((11 : Int32) - (0 : Int32))), (.int (7 : Int32))])) _
  rw [lf_8]
  show Steps p.tables e below (s₁.setTop (mkF m 12 #[.val (.int (0 : Int32)), .val (.int (7 : Int32)), .val (.int (11 : Int32)), .val (vw 0)] [(.int (11 : Int32)), (.int (7 : Int32))])) _
  refine XS.icmpYes X0.here hx rfl (pc0 := 12) (pc' := 23) rfl (hb hby d6_12) rfl (flt (by decide : ¬ ((11 : Int32) < (7 : Int32)))).2.2.2 (by decide) (by decide) ?_
  refine XS.iloadN X0.here hx rfl (hb hby d6_23) rfl ?_
  show Steps p.tables e below (s₁.setTop (mkF m 24 #[.val (.int (0 : Int32)), .val (.int (7 : Int32)), .val (.int (11 : Int32)), .val (vw 0)] [(.int (0 : Int32))])) _
  exact retI X0 hx hret (hb hby d6_24) hr
set_option maxRecDepth 65536 in
set_option maxHeartbeats 40000000 in
theorem rm_35 (l : Launch) (Z : State) (a0 : Array Value) (hw : ∀ d ∈ tables_1, d.before a0 Z = true) (w : Nat → Addr) (kk : Nat → ClassId) (iw : Nat → Int32) (vw : Nat → Value) (hN : Wd Z w kk iw vw) (ws : List Jvm.Cond)  (h0 : Heap) (O0 : Old Z Z.heap.size h0) :
    Met l Z (⟨s_0, s_10, "(III)I"⟩ : MethodName) (Jvm.Cond.code (⟨s_0, s_10, "(III)I"⟩ : MethodName) jdk_42_method_157_code 3 (some .int)) ws (Rm 1 0 0 15) #[(.int (0 : Int32)), (.int (7 : Int32)), (.int (11 : Int32))] h0 (OQ (some (.int (0 : Int32))) h0 Z.heap.size) := by
  have hN' := hN
  obtain ⟨hS0, hE0, hS1, hE1, hS2, hE2, hI0, hJ0, hR0, hRr0, hEq0⟩ := hN'
  refine own_body (plainFor_of_name pn_3) hisR ?_
  intro p e s m below meth c s₁ hx hby hml hown hnm hret X0 hZ e0
  have N0 := Fr.nil Z.heap.size
  obtain ⟨T1, X1, e1, st1⟩ := getS2 X0 hx hZ hown (host := "") (Or.inl (W hw 28 rfl)) Via.refl e0 (hR0.ext O0.2) (g := (mkF m 3 #[.val (.int (0 : Int32)), .val (.int (7 : Int32)), .val (.int (11 : Int32))] [(.int (11 : Int32)), (.int (7 : Int32)), (.int (0 : Int32))])) rfl (hb hby d5_3)
  obtain ⟨_, _, ⟨T2, L2, k2, n2⟩, -, X2, ⟨Lc2, hQ2, l2, y2, z2⟩, st2⟩ := Jvm.LawKit.callS X1 hx (y := (⟨s_6, s_11, s_5⟩ : MethodName)) hown (mvT hZ (W hw 30 rfl)) (mvT hZ (W hw 31 rfl)) (mvT hZ (W hw 29 rfl)) (mvT hZ (W hw 32 rfl)) (by decide) (backOf (W := 0) (rm_34 l Z a0 hw w kk iw vw hN [] h0 O0) hZ (W hw 32 rfl) (W hw 29 rfl) (by decide) (by decide)) (g := (mkF m 6 #[.val (.int (0 : Int32)), .val (.int (7 : Int32)), .val (.int (11 : Int32))] [(vw 0), (.int (11 : Int32)), (.int (7 : Int32)), (.int (0 : Int32))])) rfl (by rw [hml]; rfl) (argsL := [(.int (0 : Int32)), (.int (7 : Int32)), (.int (11 : Int32)), (vw 0)]) (rest := []) (lenOf pd_2 rfl) rfl (by show 2 * 0 + _ ≤ _; exact Nat.le_of_eq rfl) (hb hby d5_6) (fun _ _ => ⟨rfl, e1, (by decide : 0 + 0 ≤ _), (by decide : 0 + 0 ≤ _)⟩)
  dsimp only [Pt.U, Pt.locs, Pt.cells, Pt.slots] at X2 l2 y2 z2 st2 hQ2
  subst l2 y2 z2
  obtain ⟨rfl, N2q, e2⟩ := hQ2
  have N2 := Fr.app N0 N2q
  refine ⟨T2, some (.int (0 : Int32)), _, _, _, by decide, by decide, X2, nofun, (by rw [e2]; exact ⟨rfl, N2, rfl⟩), fun fs hr => castTop (ef_3 m (.int (0 : Int32)) rfl (.int (7 : Int32)) rfl (.int (11 : Int32)) rfl) ?_⟩
  show Steps p.tables e below (s₁.setTop (mkF m 0 #[.val (.int (0 : Int32)), .val (.int (7 : Int32)), .val (.int (11 : Int32))] [])) _
  refine XS.iloadN X0.here hx rfl (hb hby d5_0) rfl ?_
  refine XS.iloadN X0.here hx rfl (hb hby d5_1) rfl ?_
  refine XS.iloadN X0.here hx rfl (hb hby d5_2) rfl ?_
  refine st1 _ ?_
  refine st2 _ ?_
  show Steps p.tables e below (T2.setTop (mkF m 9 #[.val (.int (0 : Int32)), .val (.int (7 : Int32)), .val (.int (11 : Int32))] [(.int (0 : Int32))])) _
  exact retI X2 hx hret (hb hby d5_9) hr
theorem lf_23 : ((0 : Int32) + (7 : Int32)) = (7 : Int32) := by decide
set_option maxRecDepth 65536 in
set_option maxHeartbeats 40000000 in
theorem rm_36 (l : Launch) (Z : State) (a0 : Array Value) (hw : ∀ d ∈ tables_1, d.before a0 Z = true) (w : Nat → Addr) (kk : Nat → ClassId) (iw : Nat → Int32) (vw : Nat → Value) (hN : Wd Z w kk iw vw) (ws : List Jvm.Cond)  (h0 : Heap) (O0 : Old Z Z.heap.size h0) :
    Met l Z (⟨s_2, "checkLength", "(II)V"⟩ : MethodName) (Jvm.Cond.code (⟨s_2, "checkLength", "(II)V"⟩ : MethodName) jdk_65_method_131_code 2 none) ws (Rm 0 0 0 0) #[(.int (0 : Int32)), (.int (7 : Int32))] h0 (OQ (none) h0 Z.heap.size) := by
  have hN' := hN
  obtain ⟨hS0, hE0, hS1, hE1, hS2, hE2, hI0, hJ0, hR0, hRr0, hEq0⟩ := hN'
  refine own_body (plainFor_of_name pn_4) hisR ?_
  intro p e s m below meth c s₁ hx hby hml hown hnm hret X0 hZ e0
  have N0 := Fr.nil Z.heap.size
  refine ⟨s₁, none, _, _, _, by decide, by decide, X0, (fun _ => rfl), (by rw [e0]; exact ⟨rfl, N0, rfl⟩), fun fs hr => castTop (ef_4 m (.int (0 : Int32)) rfl (.int (7 : Int32)) rfl) ?_⟩
  show Steps p.tables e below (s₁.setTop (mkF m 0 #[.val (.int (0 : Int32)), .val (.int (7 : Int32))] [])) _
  refine XS.iloadN X0.here hx rfl (hb hby d10_0) rfl ?_
  refine XS.iloadN X0.here hx rfl (hb hby d10_1) rfl ?_
  refine XS.icmpYes X0.here hx rfl (pc0 := 2) (pc' := 37) rfl (hb hby d10_2) rfl (flt (by decide : ¬ ((7 : Int32) < (0 : Int32)))).2.1 (by decide) (by decide) ?_
  show Steps p.tables e below (s₁.setTop (mkF m 37 #[.val (.int (0 : Int32)), .val (.int (7 : Int32))] [])) _
  exact X0.returnOut hx hret (hb hby d10_37) hr
theorem lf_24 : ((7 : Int32) - (0 : Int32)) = (7 : Int32) := by decide
set_option maxRecDepth 65536 in
set_option maxHeartbeats 40000000 in
theorem rm_37 (l : Launch) (Z : State) (a0 : Array Value) (hw : ∀ d ∈ tables_1, d.before a0 Z = true) (w : Nat → Addr) (kk : Nat → ClassId) (iw : Nat → Int32) (vw : Nat → Value) (hN : Wd Z w kk iw vw) (ws : List Jvm.Cond)  (h0 : Heap) (O0 : Old Z Z.heap.size h0) :
    Met l Z (⟨s_14, "min", "(II)I"⟩ : MethodName) (Jvm.Cond.code (⟨s_14, "min", "(II)I"⟩ : MethodName) jdk_29_method_69_code 2 (some .int)) ws (Rm 0 0 0 0) #[(.int (11 : Int32)), (.int (7 : Int32))] h0 (OQ (some (.int (7 : Int32))) h0 Z.heap.size) := by
  have hN' := hN
  obtain ⟨hS0, hE0, hS1, hE1, hS2, hE2, hI0, hJ0, hR0, hRr0, hEq0⟩ := hN'
  refine own_body (Jvm.Free.JP.mathPlain rfl (by decide +kernel)) hisR ?_
  intro p e s m below meth c s₁ hx hby hml hown hnm hret X0 hZ e0
  have N0 := Fr.nil Z.heap.size
  refine ⟨s₁, some (.int (7 : Int32)), _, _, _, by decide, by decide, X0, nofun, (by rw [e0]; exact ⟨rfl, N0, rfl⟩), fun fs hr => castTop (ef_4 m (.int (11 : Int32)) rfl (.int (7 : Int32)) rfl) ?_⟩
  show Steps p.tables e below (s₁.setTop (mkF m 0 #[.val (.int (11 : Int32)), .val (.int (7 : Int32))] [])) _
  refine XS.iloadN X0.here hx rfl (hb hby d11_0) rfl ?_
  refine XS.iloadN X0.here hx rfl (hb hby d11_1) rfl ?_
  refine XS.icmpYes X0.here hx rfl (pc0 := 2) (pc' := 9) rfl (hb hby d11_2) rfl (tlt (by decide : (7 : Int32) < (11 : Int32))).2.2.1 (by decide) (by decide) ?_
  refine XS.iloadN X0.here hx rfl (hb hby d11_9) rfl ?_
  show Steps p.tables e below (s₁.setTop (mkF m 10 #[.val (.int (11 : Int32)), .val (.int (7 : Int32))] [(.int (7 : Int32))])) _
  exact retI X0 hx hret (hb hby d11_10) hr
def Qd_11 (Z : State) (w : Nat → Addr) (kk : Nat → ClassId) (iw : Nat → Int32) (vw : Nat → Value) (o1 : Addr) (vl_o1 : List Value) (kc_o1 : ClassId) (h0 : Heap) (n0 : Nat) (v : Option Value) (h : Heap) (L : List Loc) : Prop := ∃ (c1 : Addr) (kc1 : ClassId) (vx1 : List Value), v = some (.ref c1) ∧ Fr n0 L ∧ Keep h0 h [] ∧ h0.size ≤ c1 ∧ Exa Z h c1 "[B" ∧ Arv Z h c1 kc1 .byte (7 : Int32) vx1 (.int (0 : Int32))
set_option maxRecDepth 65536 in
set_option maxHeartbeats 40000000 in
theorem rm_38 (l : Launch) (Z : State) (a0 : Array Value) (hw : ∀ d ∈ tables_1, d.before a0 Z = true) (w : Nat → Addr) (kk : Nat → ClassId) (iw : Nat → Int32) (vw : Nat → Value) (hN : Wd Z w kk iw vw) (ws : List Jvm.Cond) (o1 : Addr) (vl_o1 : List Value) (kc_o1 : ClassId) (h0 : Heap) (O0 : Old Z Z.heap.size h0) (gn_o1 : Z.heap.size ≤ o1) (lt_o1 : o1 < h0.size) (E_o1 : Exa Z h0 o1 "[B") (V_o1 : Arv Z h0 o1 kc_o1 .byte (11 : Int32) vl_o1 (.int (0 : Int32))) :
    Met l Z (⟨s_2, s_13, "([BII)[B"⟩ : MethodName) (Jvm.Cond.code (⟨s_2, s_13, "([BII)[B"⟩ : MethodName) jdk_65_method_133_code 5 (some (.array .byte))) ws (Rm 1 1 7 18) #[(.ref o1), (.int (0 : Int32)), (.int (7 : Int32))] h0 (Qd_11 Z w kk iw vw o1 vl_o1 kc_o1 h0 Z.heap.size) := by
  have hN' := hN
  obtain ⟨hS0, hE0, hS1, hE1, hS2, hE2, hI0, hJ0, hR0, hRr0, hEq0⟩ := hN'
  refine own_body (plainFor_of_name pn_4) hisR ?_
  intro p e s m below meth c s₁ hx hby hml hown hnm hret X0 hZ e0
  have N0 := Fr.nil Z.heap.size
  have K0 : Keep h0 h0 [] := Keep.refl _ _
  obtain ⟨_, _, ⟨T1, L1, k1, n1⟩, -, X1, ⟨Lc1, hQ1, l1, y1, z1⟩, st1⟩ := Jvm.LawKit.callS X0 hx (y := (⟨s_2, "checkLength", "(II)V"⟩ : MethodName)) hown (mvT hZ (W hw 52 rfl)) (mvT hZ (W hw 53 rfl)) (mvT hZ (W hw 47 rfl)) (mvT hZ (W hw 54 rfl)) (by decide) (backOf (W := 0) (rm_36 l Z a0 hw w kk iw vw hN [] h0 O0) hZ (W hw 54 rfl) (W hw 47 rfl) (by decide) (by decide)) (g := (mkF m 2 #[.val (.ref o1), .val (.int (0 : Int32)), .val (.int (7 : Int32)), .unset, .unset] [(.int (7 : Int32)), (.int (0 : Int32))])) rfl (by rw [hml]; rfl) (argsL := [(.int (0 : Int32)), (.int (7 : Int32))]) (rest := []) (lenOf pd_4 rfl) rfl (by show 2 * 0 + _ ≤ _; exact Nat.le_of_eq rfl) (hb hby d9_2) (fun _ _ => ⟨rfl, e0, (by decide : 0 + 0 ≤ _), (by decide : 0 + 0 ≤ _)⟩)
  dsimp only [Pt.U, Pt.locs, Pt.cells, Pt.slots] at X1 l1 y1 z1 st1 hQ1
  subst l1 y1 z1
  obtain ⟨rfl, N1q, e1⟩ := hQ1
  have N1 := Fr.app N0 N1q
  obtain ⟨T2, h2, k2, X2, e2, E2, A2, AE2, st2⟩ := newPE X1 hx hZ (W hw 4 rfl) e1 (g := (mkF m 10 #[.val (.ref o1), .val (.int (0 : Int32)), .val (.int (7 : Int32)), .val (.int (7 : Int32)), .unset] [(.int (7 : Int32))])) rfl (hb hby d9_10) rfl (by decide) (cap := 7) (by decide) (by decide) (by decide) (by decide) (ad := "[B") rfl
  obtain ⟨b2, g2⟩ : ∃ z, z = h0.size := ⟨_, rfl⟩
  rw [← g2] at A2 st2 AE2
  have gn_b2 : Z.heap.size ≤ b2 := Nat.le_trans O0.2.1 (Nat.le_of_eq g2.symm)
  have sz_b2 : h0.size ≤ b2 := Nat.le_trans K0.1 (Nat.le_of_eq g2.symm)
  have ne_o1_b2 : o1 ≠ b2 := Nat.ne_of_lt (Nat.lt_of_lt_of_le E_o1.lt (Nat.le_of_eq g2.symm))
  have E_o1_v2 := E_o1.ext E2
  have V_o1_v2 := V_o1.ext E2
  have O2 := O0.ext E2
  have K2 := K0.ext E2
  have E_b2_v2 := AE2
  have V_b2_v2 : Arv Z h2 b2 k2 .byte (7 : Int32) [] (.int (0 : Int32)) := Arv.new A2 (by decide)
  obtain ⟨cl3, Ar3, q3, Sz3, Ng3, Hv3, Gv3⟩ := id V_o1_v2
  obtain ⟨_, _, ⟨T4, L4, k4, n4⟩, -, X4, ⟨Lc4, hQ4, l4, y4, z4⟩, st4⟩ := Jvm.LawKit.callS X2 hx (y := (⟨s_14, "min", "(II)I"⟩ : MethodName)) hown (mvT hZ (W hw 55 rfl)) (mvT hZ (W hw 56 rfl)) (mvT hZ (W hw 57 rfl)) (mvT hZ (W hw 58 rfl)) (by decide) (backOf (W := 4) (rm_37 l Z a0 hw w kk iw vw hN [] h2 O2) hZ (W hw 58 rfl) (W hw 57 rfl) (by decide) (by decide)) (g := (mkF m 24 #[.val (.ref o1), .val (.int (0 : Int32)), .val (.int (7 : Int32)), .val (.int (7 : Int32)), .val (.ref b2)] [(.int (7 : Int32)), (.int (11 : Int32)), (.int (0 : Int32)), (.ref b2), (.int (0 : Int32)), (.ref o1)])) rfl (by rw [hml]; rfl) (argsL := [(.int (11 : Int32)), (.int (7 : Int32))]) (rest := [(.int (0 : Int32)), (.ref b2), (.int (0 : Int32)), (.ref o1)]) (lenOf pd_5 rfl) rfl (by show 2 * 0 + _ ≤ _; exact Nat.le_of_eq rfl) (hb hby d9_24) (fun _ _ => ⟨rfl, e2, (by decide : 1 + 0 ≤ _), (by decide : 7 + 0 ≤ _)⟩)
  dsimp only [Pt.U, Pt.locs, Pt.cells, Pt.slots] at X4 l4 y4 z4 st4 hQ4
  subst l4 y4 z4
  obtain ⟨rfl, N4q, e4⟩ := hQ4
  have N4 := Fr.app N1 N4q
  have V_b2_v5 : Arv Z h2 b2 k2 .byte (7 : Int32) [(.int (0 : Int32)), (.int (0 : Int32)), (.int (0 : Int32)), (.int (0 : Int32)), (.int (0 : Int32)), (.int (0 : Int32)), (.int (0 : Int32))] (.int (0 : Int32)) := V_b2_v2.pad (pad_rep [] (.int (0 : Int32)) 7)
  obtain ⟨T6, h6, L6, X6, e6, N6, Kq6, Vc6, st6⟩ := cpA X4 hx hZ hown (W hw 59 rfl) (W hw 62 rfl) (W hw 60 rfl) (W hw 61 rfl) e4 V_o1_v2 V_b2_v5  (Or.inl ⟨rfl, rfl⟩) (by decide) (by decide) (by decide) (by decide) (by decide) rfl (by decide) N4 gn_b2 (g := (mkF m 27 #[.val (.ref o1), .val (.int (0 : Int32)), .val (.int (7 : Int32)), .val (.int (7 : Int32)), .val (.ref b2)] [(.int (7 : Int32)), (.int (0 : Int32)), (.ref b2), (.int (0 : Int32)), (.ref o1)])) rfl (by rw [hml]; rfl) rfl (hb hby d9_27) (by decide) (W := 0) (by show 2 * 0 + _ ≤ _; exact Nat.le_of_eq rfl) (by decide)
  have E_o1_v6 := E_o1_v2.keep Kq6
  have V_o1_v6 := V_o1_v2.keep Kq6 (ninS ne_o1_b2 nin0)
  have E_b2_v6 := E_b2_v2.keep Kq6
  have O6 := O2.keep Kq6 (allS gn_b2 all0)
  have K6 : Keep h0 h6 [] := K2.trans Kq6 (allS (Or.inr sz_b2) all0)
  obtain ⟨vl6, V_b2_v6⟩ : ∃ vs, Arv Z h6 b2 k2 .byte (7 : Int32) vs (.int (0 : Int32)) := ⟨_, Vc6⟩
  refine ⟨T6, some (.ref b2), _, _, _, by decide, by decide, X6, nofun, (by rw [e6]; exact ⟨b2, k2, vl6, rfl, N6, K6, sz_b2, E_b2_v6, V_b2_v6⟩), fun fs hr => castTop (ef_5 m (.ref o1) rfl (.int (0 : Int32)) rfl (.int (7 : Int32)) rfl) ?_⟩
  show Steps p.tables e below (s₁.setTop (mkF m 0 #[.val (.ref o1), .val (.int (0 : Int32)), .val (.int (7 : Int32)), .unset, .unset] [])) _
  refine XS.iloadN X0.here hx rfl (hb hby d9_0) rfl ?_
  refine XS.iloadN X0.here hx rfl (hb hby d9_1) rfl ?_
  refine st1 _ ?_
  refine XS.iloadN X1.here hx rfl (hb hby d9_5) rfl ?_
  refine XS.iloadN X1.here hx rfl (hb hby d9_6) rfl ?_
  refine XS.isub X1.here hx rfl (hb hby d9_7) rfl ?_
  show Steps p.tables e below (T1.setTop (mkF m 8 #[.val (.ref o1), .val (.int (0 : Int32)), .val (.int (7 : Int32)), .unset, .unset] [(.int ((7 : Int32) - (0 : Int32)))])) _
  rw [lf_24]
  refine XS.istoreN X1.here hx rfl (hb hby d9_8) rfl (l' := #[.val (.ref o1), .val (.int (0 : Int32)), .val (.int (7 : Int32)), .val (.int (7 : Int32)), .unset]) rfl ?_
  refine XS.iloadN X1.here hx rfl (hb hby d9_9) rfl ?_
  refine st2 _ ?_
  refine XS.astore X2.here hx rfl (hb hby d9_12) rfl rfl (l' := #[.val (.ref o1), .val (.int (0 : Int32)), .val (.int (7 : Int32)), .val (.int (7 : Int32)), .val (.ref b2)]) rfl ?_
  show Steps p.tables e below (T2.setTop (mkF m 14 #[.val (.ref o1), .val (.int (0 : Int32)), .val (.int (7 : Int32)), .val (.int (7 : Int32)), .val (.ref b2)] [])) _
  refine XS.aloadN X2.here hx rfl (hb hby d9_14) rfl rfl ?_
  refine XS.iloadN X2.here hx rfl (hb hby d9_15) rfl ?_
  refine XS.aload X2.here hx rfl (hb hby d9_16) rfl rfl ?_
  refine XS.iconst X2.here hx rfl (hb hby d9_18) ?_
  refine XS.aloadN X2.here hx rfl (hb hby d9_19) rfl rfl ?_
  refine X2.arraylength hx (by rw [e2]; exact Ar3.1) (State.isArrayOf_alike hZ.alike Ar3.2.1) (g := (mkF m 20 #[.val (.ref o1), .val (.int (0 : Int32)), .val (.int (7 : Int32)), .val (.int (7 : Int32)), .val (.ref b2)] [(.ref o1), (.int (0 : Int32)), (.ref b2), (.int (0 : Int32)), (.ref o1)])) rfl rfl (hb hby d9_20) _ ?_
  rw [len_of Sz3 Ng3]
  refine XS.iloadN X2.here hx rfl (hb hby d9_21) rfl ?_
  refine XS.isub X2.here hx rfl (hb hby d9_22) rfl ?_
  show Steps p.tables e below (T2.setTop (mkF m 23 #[.val (.ref o1), .val (.int (0 : Int32)), .val (.int (7 : Int32)), .val (.int (7 : Int32)), .val (.ref b2)] [(.int ((11 : Int32) - (0 : Int32))), (.int (0 : Int32)), (.ref b2), (.int (0 : Int32)), (.ref o1)])) _
  rw [lf_8]
  refine XS.iloadN X2.here hx rfl (hb hby d9_23) rfl ?_
  refine st4 _ ?_
  show Steps p.tables e below (T4.setTop (mkF m 27 #[.val (.ref o1), .val (.int (0 : Int32)), .val (.int (7 : Int32)), .val (.int (7 : Int32)), .val (.ref b2)] [(.int (7 : Int32)), (.int (0 : Int32)), (.ref b2), (.int (0 : Int32)), (.ref o1)])) _
  refine st6 _ ?_
  refine XS.aload X6.here hx rfl (hb hby d9_30) rfl rfl ?_
  show Steps p.tables e below (T6.setTop (mkF m 32 #[.val (.ref o1), .val (.int (0 : Int32)), .val (.int (7 : Int32)), .val (.int (7 : Int32)), .val (.ref b2)] [(.ref b2)])) _
  exact retOut X6 hx hret rfl (Or.inr (Or.inr (Or.inr (Or.inr ⟨rfl, rfl, rfl⟩)))) (hb hby d9_32) hr
set_option maxRecDepth 65536 in
set_option maxHeartbeats 40000000 in
theorem rm_39 (l : Launch) (Z : State) (a0 : Array Value) (hw : ∀ d ∈ tables_1, d.before a0 Z = true) (w : Nat → Addr) (kk : Nat → ClassId) (iw : Nat → Int32) (vw : Nat → Value) (hN : Wd Z w kk iw vw) (ws : List Jvm.Cond) (o1 : Addr) (vl_o1 : List Value) (kc_o1 : ClassId) (h0 : Heap) (O0 : Old Z Z.heap.size h0) (gn_o1 : Z.heap.size ≤ o1) (lt_o1 : o1 < h0.size) (E_o1 : Exa Z h0 o1 "[B") (V_o1 : Arv Z h0 o1 kc_o1 .byte (11 : Int32) vl_o1 (.int (0 : Int32))) :
    Met l Z (⟨s_2, "copyOfRange", "([BII)[B"⟩ : MethodName) (Jvm.Cond.code (⟨s_2, "copyOfRange", "([BII)[B"⟩ : MethodName) jdk_65_method_132_code 3 (some (.array .byte))) ws (Rm 2 1 7 34) #[(.ref o1), (.int (0 : Int32)), (.int (7 : Int32))] h0 (Qd_11 Z w kk iw vw o1 vl_o1 kc_o1 h0 Z.heap.size) := by
  have hN' := hN
  obtain ⟨hS0, hE0, hS1, hE1, hS2, hE2, hI0, hJ0, hR0, hRr0, hEq0⟩ := hN'
  refine own_body (plainFor_of_name pn_4) hisR ?_
  intro p e s m below meth c s₁ hx hby hml hown hnm hret X0 hZ e0
  have N0 := Fr.nil Z.heap.size
  have K0 : Keep h0 h0 [] := Keep.refl _ _
  obtain ⟨cl1, Ar1, q1, Sz1, Ng1, Hv1, Gv1⟩ := id V_o1
  obtain ⟨_, _, ⟨T2, L2, k2, n2⟩, -, X2, ⟨Lc2, hQ2, l2, y2, z2⟩, st2⟩ := Jvm.LawKit.callS X0 hx (y := (⟨s_2, s_13, "([BII)[B"⟩ : MethodName)) hown (mvT hZ (W hw 49 rfl)) (mvT hZ (W hw 50 rfl)) (mvT hZ (W hw 47 rfl)) (mvT hZ (W hw 51 rfl)) (by decide) (backOf (W := 0) (rm_38 l Z a0 hw w kk iw vw hN [] o1 vl_o1 kc_o1 h0 O0 gn_o1 E_o1.lt E_o1 V_o1) hZ (W hw 51 rfl) (W hw 47 rfl) (by decide) (by decide)) (g := (mkF m 13 #[.val (.ref o1), .val (.int (0 : Int32)), .val (.int (7 : Int32))] [(.int (7 : Int32)), (.int (0 : Int32)), (.ref o1)])) rfl (by rw [hml]; rfl) (argsL := [(.ref o1), (.int (0 : Int32)), (.int (7 : Int32))]) (rest := []) (lenOf pd_6 rfl) rfl (by show 2 * 0 + _ ≤ _; exact Nat.le_of_eq rfl) (hb hby d8_13) (fun _ _ => ⟨rfl, e0, (by decide : 0 + 1 ≤ _), (by decide : 0 + 7 ≤ _)⟩)
  dsimp only [Pt.U, Pt.locs, Pt.cells, Pt.slots] at X2 l2 y2 z2 st2 hQ2
  subst l2 y2 z2
  obtain ⟨b2_0, kb2_0, vl2_0, rfl, N2q, Kq2, tk2_0, tk2_1, tk2_2⟩ := hQ2
  have N2 := Fr.app N0 N2q
  have gn_b2_0 : Z.heap.size ≤ b2_0 := Nat.le_trans O0.2.1 tk2_0
  have sz_b2_0 : h0.size ≤ b2_0 := Nat.le_trans K0.1 tk2_0
  have ne_o1_b2_0 : o1 ≠ b2_0 := Nat.ne_of_lt (Nat.lt_of_lt_of_le E_o1.lt tk2_0)
  have E_o1_v2 := E_o1.keep Kq2
  have V_o1_v2 := V_o1.keep Kq2 nin0
  have O2 := O0.keep Kq2 all0
  have K2 : Keep h0 T2.heap [] := K0.trans Kq2 all0
  refine ⟨T2, some (.ref b2_0), _, _, _, by decide, by decide, X2, nofun, ⟨b2_0, kb2_0, vl2_0, rfl, N2, K2, sz_b2_0, tk2_1, tk2_2⟩, fun fs hr => castTop (ef_6 m (.ref o1) rfl (.int (0 : Int32)) rfl (.int (7 : Int32)) rfl) ?_⟩
  show Steps p.tables e below (s₁.setTop (mkF m 0 #[.val (.ref o1), .val (.int (0 : Int32)), .val (.int (7 : Int32))] [])) _
  refine XS.iloadN X0.here hx rfl (hb hby d8_0) rfl ?_
  refine XS.ifNo X0.here hx rfl (hb hby d8_1) rfl ((if0 _ _).trans (teq (by decide : (0 : Int32) = (0 : Int32))).2) ?_
  refine XS.iloadN X0.here hx rfl (hb hby d8_4) rfl ?_
  refine XS.aloadN X0.here hx rfl (hb hby d8_5) rfl rfl ?_
  refine X0.arraylength hx (by rw [e0]; exact Ar1.1) (State.isArrayOf_alike hZ.alike Ar1.2.1) (g := (mkF m 6 #[.val (.ref o1), .val (.int (0 : Int32)), .val (.int (7 : Int32))] [(.ref o1), (.int (7 : Int32))])) rfl rfl (hb hby d8_6) _ ?_
  rw [len_of Sz1 Ng1]
  refine XS.icmpNo X0.here hx rfl (hb hby d8_7) rfl (feq (by decide : ¬ ((7 : Int32) = (11 : Int32)))).1 ?_
  refine XS.aloadN X0.here hx rfl (hb hby d8_10) rfl rfl ?_
  refine XS.iloadN X0.here hx rfl (hb hby d8_11) rfl ?_
  refine XS.iloadN X0.here hx rfl (hb hby d8_12) rfl ?_
  refine st2 _ ?_
  show Steps p.tables e below (T2.setTop (mkF m 16 #[.val (.ref o1), .val (.int (0 : Int32)), .val (.int (7 : Int32))] [(.ref b2_0)])) _
  exact retOut X2 hx hret rfl (Or.inr (Or.inr (Or.inr (Or.inr ⟨rfl, rfl, rfl⟩)))) (hb hby d8_16) hr
def Qd_12 (Z : State) (w : Nat → Addr) (kk : Nat → ClassId) (iw : Nat → Int32) (vw : Nat → Value) (o1 : Addr) (o2 : Addr) (vl_o2 : List Value) (kc_o2 : ClassId) (h0 : Heap) (n0 : Nat) (v : Option Value) (h : Heap) (L : List Loc) : Prop := ∃ (c1 : Addr) (kc1 : ClassId) (vx1 : List Value), v = none ∧ Fr n0 L ∧ Keep h0 h [o1] ∧ h0.size ≤ c1 ∧ Exa Z h o1 s_0 ∧ Fld Z h o1 s_0 "value" "[B" (.ref c1) ∧ Fld Z h o1 s_0 "coder" "B" (.int (0 : Int32)) ∧ Exa Z h c1 "[B" ∧ Arv Z h c1 kc1 .byte (7 : Int32) vx1 (.int (0 : Int32))
set_option maxRecDepth 65536 in
set_option maxHeartbeats 40000000 in
theorem rm_40 (l : Launch) (Z : State) (a0 : Array Value) (hw : ∀ d ∈ tables_1, d.before a0 Z = true) (w : Nat → Addr) (kk : Nat → ClassId) (iw : Nat → Int32) (vw : Nat → Value) (hN : Wd Z w kk iw vw) (ws : List Jvm.Cond) (o1 : Addr) (o2 : Addr) (vl_o2 : List Value) (kc_o2 : ClassId) (h0 : Heap) (O0 : Old Z Z.heap.size h0) (gn_o1 : Z.heap.size ≤ o1) (lt_o1 : o1 < h0.size) (gn_o2 : Z.heap.size ≤ o2) (lt_o2 : o2 < h0.size) (E_o1 : Exa Z h0 o1 s_0) (F_o1_value : Fld Z h0 o1 s_0 "value" "[B" .null) (F_o1_coder : Fld Z h0 o1 s_0 "coder" "B" (.int (0 : Int32))) (E_o2 : Exa Z h0 o2 "[B") (V_o2 : Arv Z h0 o2 kc_o2 .byte (11 : Int32) vl_o2 (.int (0 : Int32))) (ne_o1_o2 : o1 ≠ o2) :
    Met l Z (⟨s_0, "<init>", s_7⟩ : MethodName) (Jvm.Cond.codeWith (⟨s_0, "<init>", s_7⟩ : MethodName) jdk_42_method_11_code 11 none [(800, 813, 816, 202)]) ws (Rm 3 1 7 49) #[(.ref o1), (.ref (w 0)), (.ref o2), (.int (0 : Int32)), (.int (7 : Int32))] h0 (Qd_12 Z w kk iw vw o1 o2 vl_o2 kc_o2 h0 Z.heap.size) := by
  have hN' := hN
  obtain ⟨hS0, hE0, hS1, hE1, hS2, hE2, hI0, hJ0, hR0, hRr0, hEq0⟩ := hN'
  refine own_body (plainFor_of_name pn_3) hisWith ?_
  intro p e s m below meth c s₁ hx hby hml hown hnm hret X0 hZ e0
  have N0 := Fr.nil Z.heap.size
  have K0 : Keep h0 h0 [o1] := Keep.refl _ _
  obtain ⟨T1, X1, e1, st1⟩ := initO X0 hx hZ hown (W hw 37 rfl) (W hw 38 rfl) (W hw 39 rfl) e0 (g := (mkF m 1 #[.val (.ref o1), .val (.ref (w 0)), .val (.ref o2), .val (.int (0 : Int32)), .val (.int (7 : Int32)), .unset, .unset, .unset, .unset, .unset, .unset] [(.ref o1)])) rfl (by rw [hml]; rfl) rfl (hb hby d7_1) (by decide) (W := 0) (by show 2 * 0 + _ ≤ _; exact Nat.le_of_eq rfl) (by decide)
  obtain ⟨T2, X2, e2, st2⟩ := getS2 X1 hx hZ hown (host := "") (Or.inl (W hw 40 rfl)) Via.refl e1 (hS1.ext O0.2) (g := (mkF m 31 #[.val (.ref o1), .val (.ref (w 0)), .val (.ref o2), .val (.int (0 : Int32)), .val (.int (7 : Int32)), .unset, .unset, .unset, .unset, .unset, .unset] [(.ref (w 0))])) rfl (hb hby d7_31)
  obtain ⟨T3, X3, e3, st3⟩ := getS2 X2 hx hZ hown (host := "") (Or.inl (W hw 42 rfl)) Via.refl e2 (hS2.ext O0.2) (g := (mkF m 347 #[.val (.ref o1), .val (.ref (w 0)), .val (.ref o2), .val (.int (0 : Int32)), .val (.int (7 : Int32)), .unset, .unset, .unset, .unset, .unset, .unset] [(.ref (w 0))])) rfl (hb hby d7_347)
  obtain ⟨T4, X4, e4, st4⟩ := getS2 X3 hx hZ hown (host := "") (Or.inl (W hw 44 rfl)) Via.refl e3 (hI0.ext O0.2) (g := (mkF m 353 #[.val (.ref o1), .val (.ref (w 0)), .val (.ref o2), .val (.int (0 : Int32)), .val (.int (7 : Int32)), .unset, .unset, .unset, .unset, .unset, .unset] [])) rfl (hb hby d7_353)
  obtain ⟨_, _, ⟨T5, L5, k5, n5⟩, -, X5, ⟨Lc5, hQ5, l5, y5, z5⟩, st5⟩ := Jvm.LawKit.callS X4 hx (y := (⟨s_2, "copyOfRange", "([BII)[B"⟩ : MethodName)) hown (mvT hZ (W hw 45 rfl)) (mvT hZ (W hw 46 rfl)) (mvT hZ (W hw 47 rfl)) (mvT hZ (W hw 48 rfl)) (by decide) (backOf (W := 1) (rm_39 l Z a0 hw w kk iw vw hN [] o2 vl_o2 kc_o2 h0 O0 gn_o2 E_o2.lt E_o2 V_o2) hZ (W hw 48 rfl) (W hw 47 rfl) (by decide) (by decide)) (g := (mkF m 366 #[.val (.ref o1), .val (.ref (w 0)), .val (.ref o2), .val (.int (0 : Int32)), .val (.int (7 : Int32)), .unset, .unset, .unset, .unset, .unset, .unset] [(.int (7 : Int32)), (.int (0 : Int32)), (.ref o2), (.ref o1)])) rfl (by rw [hml]; rfl) (argsL := [(.ref o2), (.int (0 : Int32)), (.int (7 : Int32))]) (rest := [(.ref o1)]) (lenOf pd_6 rfl) rfl (by show 2 * 0 + _ ≤ _; exact Nat.le_of_eq rfl) (hb hby d7_366) (fun _ _ => ⟨rfl, e4, (by decide : 0 + 1 ≤ _), (by decide : 0 + 7 ≤ _)⟩)
  dsimp only [Pt.U, Pt.locs, Pt.cells, Pt.slots] at X5 l5 y5 z5 st5 hQ5
  subst l5 y5 z5
  obtain ⟨b5_0, kb5_0, vl5_0, rfl, N5q, Kq5, tk5_0, tk5_1, tk5_2⟩ := hQ5
  have N5 := Fr.app N0 N5q
  have gn_b5_0 : Z.heap.size ≤ b5_0 := Nat.le_trans O0.2.1 tk5_0
  have sz_b5_0 : h0.size ≤ b5_0 := Nat.le_trans K0.1 tk5_0
  have ne_o2_b5_0 : o2 ≠ b5_0 := Nat.ne_of_lt (Nat.lt_of_lt_of_le E_o2.lt tk5_0)
  have ne_o1_b5_0 : o1 ≠ b5_0 := Nat.ne_of_lt (Nat.lt_of_lt_of_le E_o1.lt tk5_0)
  have E_o1_v5 := E_o1.keep Kq5
  have F_o1_value_v5 := F_o1_value.keep Kq5 nin0
  have F_o1_coder_v5 := F_o1_coder.keep Kq5 nin0
  have E_o2_v5 := E_o2.keep Kq5
  have V_o2_v5 := V_o2.keep Kq5 nin0
  have O5 := O0.keep Kq5 all0
  have K5 : Keep h0 T5.heap [o1] := K0.trans Kq5 all0
  obtain ⟨T6, h6, X6, e6, W6, st6⟩ := putF X5 hx hZ hown (host := "") (Or.inl (W hw 63 rfl)) Via.refl rfl F_o1_value_v5 E_o1_v5 (Or.inr ⟨(W hw 64 rfl), rfl, hnm⟩) (W hw 12 rfl) (ty := (.array .byte)) (by decide) rfl rfl (g := (mkF m 369 #[.val (.ref o1), .val (.ref (w 0)), .val (.ref o2), .val (.int (0 : Int32)), .val (.int (7 : Int32)), .unset, .unset, .unset, .unset, .unset, .unset] [(.ref b5_0), (.ref o1)])) rfl rfl (hb hby d7_369)
  have F_o1_value_v6 := F_o1_value_v5.same W6
  have N6 := Fr.snoc X6 N5 gn_o1
  have E_o1_v6 := E_o1_v5.wr W6
  have F_o1_coder_v6 := F_o1_coder_v5.other W6 (Or.inr (sn_0 hw))
  have E_o2_v6 := E_o2_v5.wr W6
  have V_o2_v6 := V_o2_v5.other W6 (Ne.symm ne_o1_o2)
  have tk5_1_v6 := tk5_1.wr W6
  have tk5_2_v6 := tk5_2.other W6 (Ne.symm ne_o1_b5_0)
  have O6 := O5.wr W6 gn_o1
  have K6 : Keep h0 h6 [o1] := K5.wr W6 (Or.inl (List.mem_of_getElem? (i := 0) rfl))
  obtain ⟨T7, h7, X7, e7, W7, st7⟩ := putFN X6 hx hZ hown (W hw 65 rfl) Via.refl e6 F_o1_coder_v6 E_o1_v6 (Or.inr ⟨(W hw 66 rfl), rfl, hnm⟩) (W hw 12 rfl) (ty := .byte) (v' := (.int (0 : Int32))) (by decide) rfl rfl (g := (mkF m 374 #[.val (.ref o1), .val (.ref (w 0)), .val (.ref o2), .val (.int (0 : Int32)), .val (.int (7 : Int32)), .unset, .unset, .unset, .unset, .unset, .unset] [(.int (0 : Int32)), (.ref o1)])) rfl rfl (hb hby d7_374)
  have F_o1_coder_v7 := F_o1_coder_v6.same W7
  have N7 := Fr.snoc X7 N6 gn_o1
  have E_o1_v7 := E_o1_v6.wr W7
  have F_o1_value_v7 := F_o1_value_v6.other W7 (Or.inr (sn_1 hw))
  have E_o2_v7 := E_o2_v6.wr W7
  have V_o2_v7 := V_o2_v6.other W7 (Ne.symm ne_o1_o2)
  have tk5_1_v7 := tk5_1_v6.wr W7
  have tk5_2_v7 := tk5_2_v6.other W7 (Ne.symm ne_o1_b5_0)
  have O7 := O6.wr W7 gn_o1
  have K7 : Keep h0 h7 [o1] := K6.wr W7 (Or.inl (List.mem_of_getElem? (i := 0) rfl))
  refine ⟨T7, none, _, _, _, by decide, by decide, X7, (fun _ => rfl), (by rw [e7]; exact ⟨b5_0, kb5_0, vl5_0, rfl, N7, K7, sz_b5_0, E_o1_v7, F_o1_value_v7, F_o1_coder_v7, tk5_1_v7, tk5_2_v7⟩), fun fs hr => castTop (ef_7 m (.ref o1) rfl (.ref (w 0)) rfl (.ref o2) rfl (.int (0 : Int32)) rfl (.int (7 : Int32)) rfl) ?_⟩
  show Steps p.tables e below (s₁.setTop (mkF m 0 #[.val (.ref o1), .val (.ref (w 0)), .val (.ref o2), .val (.int (0 : Int32)), .val (.int (7 : Int32)), .unset, .unset, .unset, .unset, .unset, .unset] [])) _
  refine XS.aloadN X0.here hx rfl (hb hby d7_0) rfl rfl ?_
  refine st1 _ ?_
  refine XS.iload X1.here hx rfl (hb hby d7_4) rfl ?_
  refine XS.ifYes X1.here hx rfl (pc0 := 6) (pc' := 30) rfl (hb hby d7_6) rfl ((if0 _ _).trans (feq (by decide : ¬ ((7 : Int32) = (0 : Int32)))).2) (by decide) (by decide) ?_
  refine XS.aloadN X1.here hx rfl (hb hby d7_30) rfl rfl ?_
  refine st2 _ ?_
  refine Jvm.RoadKit.acmp (g := (mkF m 34 #[.val (.ref o1), .val (.ref (w 0)), .val (.ref o2), .val (.int (0 : Int32)), .val (.int (7 : Int32)), .unset, .unset, .unset, .unset, .unset, .unset] [(.ref (w 1)), (.ref (w 0))])) X2 hx rfl rfl rfl (pc0 := 34) (pc' := 346) (same := false) rfl (hb hby d7_34) rfl (decide_eq_false fun q => (ne_exa hE0 hE1 (by decide)) (Value.ref.inj q)) (by decide) (by decide) ?_
  refine XS.aloadN X2.here hx rfl (hb hby d7_346) rfl rfl ?_
  refine st3 _ ?_
  refine Jvm.RoadKit.acmp (g := (mkF m 350 #[.val (.ref o1), .val (.ref (w 0)), .val (.ref o2), .val (.int (0 : Int32)), .val (.int (7 : Int32)), .unset, .unset, .unset, .unset, .unset, .unset] [(.ref (w 2)), (.ref (w 0))])) X3 hx rfl rfl rfl (pc0 := 350) (pc' := 353) (same := true) rfl (hb hby d7_350) rfl (decide_eq_true (congrArg Value.ref hEq0)) (by decide) (by decide) ?_
  show Steps p.tables e below (T3.setTop (mkF m 353 #[.val (.ref o1), .val (.ref (w 0)), .val (.ref o2), .val (.int (0 : Int32)), .val (.int (7 : Int32)), .unset, .unset, .unset, .unset, .unset, .unset] [])) _
  refine st4 _ ?_
  refine XS.ifNo X4.here hx rfl (hb hby d7_356) rfl ((if0 _ _).trans (feq hJ0).1) ?_
  refine XS.aloadN X4.here hx rfl (hb hby d7_359) rfl rfl ?_
  refine XS.aloadN X4.here hx rfl (hb hby d7_360) rfl rfl ?_
  refine XS.iloadN X4.here hx rfl (hb hby d7_361) rfl ?_
  refine XS.iloadN X4.here hx rfl (hb hby d7_362) rfl ?_
  refine XS.iload X4.here hx rfl (hb hby d7_363) rfl ?_
  refine XS.iadd X4.here hx rfl (hb hby d7_365) rfl ?_
  show Steps p.tables e below (T4.setTop (mkF m 366 #[.val (.ref o1), .val (.ref (w 0)), .val (.ref o2), .val (.int (0 : Int32)), .val (.int (7 : Int32)), .unset, .unset, .unset, .unset, .unset, .unset] [(.int ((0 : Int32) + (7 : Int32))), (.int (0 : Int32)), (.ref o2), (.ref o1)])) _
  rw [lf_23]
  refine st5 _ ?_
  refine st6 _ ?_
  show Steps p.tables e below (T6.setTop (mkF m 372 #[.val (.ref o1), .val (.ref (w 0)), .val (.ref o2), .val (.int (0 : Int32)), .val (.int (7 : Int32)), .unset, .unset, .unset, .unset, .unset, .unset] [])) _
  refine XS.aloadN X6.here hx rfl (hb hby d7_372) rfl rfl ?_
  refine XS.iconst X6.here hx rfl (hb hby d7_373) ?_
  refine st7 _ ?_
  refine XS.goto X7.here hx rfl (pc0 := 377) (pc' := 879) rfl (hb hby d7_377) (by decide) (by decide) ?_
  show Steps p.tables e below (T7.setTop (mkF m 879 #[.val (.ref o1), .val (.ref (w 0)), .val (.ref o2), .val (.int (0 : Int32)), .val (.int (7 : Int32)), .unset, .unset, .unset, .unset, .unset, .unset] [])) _
  exact X7.returnOut hx hret (hb hby d7_879) hr
set_option maxRecDepth 65536 in
set_option maxHeartbeats 40000000 in
theorem rm_41 (l : Launch) (Z : State) (a0 : Array Value) (hw : ∀ d ∈ tables_1, d.before a0 Z = true) (w : Nat → Addr) (kk : Nat → ClassId) (iw : Nat → Int32) (vw : Nat → Value) (hN : Wd Z w kk iw vw) (ws : List Jvm.Cond) (o1 : Addr) (o2 : Addr) (vl_o2 : List Value) (kc_o2 : ClassId) (h0 : Heap) (O0 : Old Z Z.heap.size h0) (gn_o1 : Z.heap.size ≤ o1) (lt_o1 : o1 < h0.size) (gn_o2 : Z.heap.size ≤ o2) (lt_o2 : o2 < h0.size) (E_o1 : Exa Z h0 o1 s_0) (F_o1_value : Fld Z h0 o1 s_0 "value" "[B" .null) (F_o1_coder : Fld Z h0 o1 s_0 "coder" "B" (.int (0 : Int32))) (E_o2 : Exa Z h0 o2 "[B") (V_o2 : Arv Z h0 o2 kc_o2 .byte (11 : Int32) vl_o2 (.int (0 : Int32))) (ne_o1_o2 : o1 ≠ o2) :
    Met l Z (⟨s_0, "<init>", s_8⟩ : MethodName) (Jvm.Cond.code (⟨s_0, "<init>", s_8⟩ : MethodName) jdk_42_method_10_code 5 none) ws (Rm 4 1 7 71) #[(.ref o1), (.ref o2), (.int (0 : Int32)), (.int (7 : Int32)), (.ref (w 0))] h0 (Qd_12 Z w kk iw vw o1 o2 vl_o2 kc_o2 h0 Z.heap.size) := by
  have hN' := hN
  obtain ⟨hS0, hE0, hS1, hE1, hS2, hE2, hI0, hJ0, hR0, hRr0, hEq0⟩ := hN'
  refine own_body (plainFor_of_name pn_3) hisR ?_
  intro p e s m below meth c s₁ hx hby hml hown hnm hret X0 hZ e0
  have N0 := Fr.nil Z.heap.size
  have K0 : Keep h0 h0 [o1] := Keep.refl _ _
  obtain ⟨_, _, ⟨T1, L1, k1, n1⟩, -, X1, ⟨Lc1, hQ1, l1, y1, z1⟩, st1⟩ := Jvm.LawKit.callS X0 hx (y := (⟨s_16, s_17, s_12⟩ : MethodName)) hown (mvT hZ (W hw 19 rfl)) (mvT hZ (W hw 20 rfl)) (mvT hZ (W hw 21 rfl)) (mvT hZ (W hw 22 rfl)) (by decide) (backOf (W := 1) (rm_3 l Z a0 hw w kk iw vw hN [] h0 O0) hZ (W hw 22 rfl) (W hw 21 rfl) (by decide) (by decide)) (g := (mkF m 3 #[.val (.ref o1), .val (.ref o2), .val (.int (0 : Int32)), .val (.int (7 : Int32)), .val (.ref (w 0))] [(.ref (w 0)), (.ref o1)])) rfl (by rw [hml]; rfl) (argsL := [(.ref (w 0))]) (rest := [(.ref o1)]) (lenOf pd_1 rfl) rfl (by show 2 * 0 + _ ≤ _; exact Nat.le_of_eq rfl) (hb hby d3_3) (fun _ _ => ⟨rfl, e0, (by decide : 0 + 0 ≤ _), (by decide : 0 + 0 ≤ _)⟩)
  dsimp only [Pt.U, Pt.locs, Pt.cells, Pt.slots] at X1 l1 y1 z1 st1 hQ1
  subst l1 y1 z1
  obtain ⟨rfl, N1q, e1⟩ := hQ1
  have N1 := Fr.app N0 N1q
  obtain ⟨T2, X2, e2, st2⟩ := castY X1 hx hZ hown (W hw 23 rfl) e1 (Ins.of_exa (hE0.ext O0.2) (W hw 24 rfl)) (g := (mkF m 6 #[.val (.ref o1), .val (.ref o2), .val (.int (0 : Int32)), .val (.int (7 : Int32)), .val (.ref (w 0))] [(.ref (w 0)), (.ref o1)])) rfl rfl (hb hby d3_6)
  obtain ⟨cl3, Ar3, q3, Sz3, Ng3, Hv3, Gv3⟩ := id V_o2
  obtain ⟨_, _, ⟨T4, L4, k4, n4⟩, -, X4, ⟨Lc4, hQ4, l4, y4, z4⟩, st4⟩ := Jvm.LawKit.callS X2 hx (y := (⟨s_0, s_10, "(III)I"⟩ : MethodName)) hown (mvT hZ (W hw 25 rfl)) (mvT hZ (W hw 26 rfl)) (mvT hZ (W hw 13 rfl)) (mvT hZ (W hw 27 rfl)) (by decide) (backOf (W := 3) (rm_35 l Z a0 hw w kk iw vw hN [] h0 O0) hZ (W hw 27 rfl) (W hw 13 rfl) (by decide) (by decide)) (g := (mkF m 14 #[.val (.ref o1), .val (.ref o2), .val (.int (0 : Int32)), .val (.int (7 : Int32)), .val (.ref (w 0))] [(.int (11 : Int32)), (.int (7 : Int32)), (.int (0 : Int32)), (.ref o2), (.ref (w 0)), (.ref o1)])) rfl (by rw [hml]; rfl) (argsL := [(.int (0 : Int32)), (.int (7 : Int32)), (.int (11 : Int32))]) (rest := [(.ref o2), (.ref (w 0)), (.ref o1)]) (lenOf pd_3 rfl) rfl (by show 2 * 0 + _ ≤ _; exact Nat.le_of_eq rfl) (hb hby d3_14) (fun _ _ => ⟨rfl, e2, (by decide : 0 + 0 ≤ _), (by decide : 0 + 0 ≤ _)⟩)
  dsimp only [Pt.U, Pt.locs, Pt.cells, Pt.slots] at X4 l4 y4 z4 st4 hQ4
  subst l4 y4 z4
  obtain ⟨rfl, N4q, e4⟩ := hQ4
  have N4 := Fr.app N1 N4q
  obtain ⟨_, _, ⟨T5, L5, k5, n5⟩, -, X5, ⟨Lc5, hQ5, l5, y5, z5⟩, st5⟩ := X4.specialBackH hx (y := (⟨s_0, "<init>", s_7⟩ : MethodName)) rfl hown (mvT hZ (W hw 33 rfl)) (mvT hZ (W hw 34 rfl)) (mvT hZ (W hw 36 rfl)) (by decide) (backOfWith (W := 0) (rm_40 l Z a0 hw w kk iw vw hN [] o1 o2 vl_o2 kc_o2 h0 O0 gn_o1 E_o1.lt gn_o2 E_o2.lt E_o1 F_o1_value F_o1_coder E_o2 V_o2 ne_o1_o2) hZ (W hw 36 rfl) (W hw 13 rfl) (by decide) (by decide)) (g := (mkF m 18 #[.val (.ref o1), .val (.ref o2), .val (.int (0 : Int32)), .val (.int (7 : Int32)), .val (.ref (w 0))] [(.int (7 : Int32)), (.int (0 : Int32)), (.ref o2), (.ref (w 0)), (.ref o1)])) rfl (by rw [hml]; rfl) (Steps.refl _) (a := o1) (argsL := [(.ref (w 0)), (.ref o2), (.int (0 : Int32)), (.int (7 : Int32))]) (rest := []) (lenOf pd_7 rfl) rfl (by show 2 * 0 + _ ≤ _; exact Nat.le_of_eq rfl) (hb hby d3_18) (fun _ _ => ⟨rfl, e4, (by decide : 0 + 1 ≤ _), (by decide : 0 + 7 ≤ _)⟩)
  dsimp only [Pt.U, Pt.locs, Pt.cells, Pt.slots] at X5 l5 y5 z5 st5 hQ5
  subst l5 y5 z5
  obtain ⟨b5_0, kb5_0, vl5_0, rfl, N5q, Kq5, tk5_0, tk5_1, tk5_2, tk5_3, tk5_4, tk5_5⟩ := hQ5
  have N5 := Fr.app N4 N5q
  have gn_b5_0 : Z.heap.size ≤ b5_0 := Nat.le_trans O0.2.1 tk5_0
  have sz_b5_0 : h0.size ≤ b5_0 := Nat.le_trans K0.1 tk5_0
  have ne_o2_b5_0 : o2 ≠ b5_0 := Nat.ne_of_lt (Nat.lt_of_lt_of_le E_o2.lt tk5_0)
  have ne_o1_b5_0 : o1 ≠ b5_0 := Nat.ne_of_lt (Nat.lt_of_lt_of_le E_o1.lt tk5_0)
  have E_o1_v5 := E_o1.keep Kq5
  have E_o2_v5 := E_o2.keep Kq5
  have V_o2_v5 := V_o2.keep Kq5 (ninS (Ne.symm ne_o1_o2) nin0)
  have O5 := O0.keep Kq5 (allS gn_o1 all0)
  have K5 : Keep h0 T5.heap [o1] := K0.trans Kq5 (allS (Or.inl (List.mem_of_getElem? (i := 0) rfl)) all0)
  refine ⟨T5, none, _, _, _, by decide, by decide, X5, (fun _ => rfl), ⟨b5_0, kb5_0, vl5_0, rfl, N5, K5, sz_b5_0, tk5_1, tk5_2, tk5_3, tk5_4, tk5_5⟩, fun fs hr => castTop (ef_8 m (.ref o1) rfl (.ref o2) rfl (.int (0 : Int32)) rfl (.int (7 : Int32)) rfl (.ref (w 0)) rfl) ?_⟩
  show Steps p.tables e below (s₁.setTop (mkF m 0 #[.val (.ref o1), .val (.ref o2), .val (.int (0 : Int32)), .val (.int (7 : Int32)), .val (.ref (w 0))] [])) _
  refine XS.aloadN X0.here hx rfl (hb hby d3_0) rfl rfl ?_
  refine XS.aload X0.here hx rfl (hb hby d3_1) rfl rfl ?_
  refine st1 _ ?_
  refine st2 _ ?_
  refine XS.aloadN X2.here hx rfl (hb hby d3_9) rfl rfl ?_
  refine XS.iloadN X2.here hx rfl (hb hby d3_10) rfl ?_
  refine XS.iloadN X2.here hx rfl (hb hby d3_11) rfl ?_
  refine XS.aloadN X2.here hx rfl (hb hby d3_12) rfl rfl ?_
  refine X2.arraylength hx (by rw [e2]; exact Ar3.1) (State.isArrayOf_alike hZ.alike Ar3.2.1) (g := (mkF m 13 #[.val (.ref o1), .val (.ref o2), .val (.int (0 : Int32)), .val (.int (7 : Int32)), .val (.ref (w 0))] [(.ref o2), (.int (7 : Int32)), (.int (0 : Int32)), (.ref o2), (.ref (w 0)), (.ref o1)])) rfl rfl (hb hby d3_13) _ ?_
  rw [len_of Sz3 Ng3]
  refine st4 _ ?_
  show Steps p.tables e below (T4.setTop (mkF m 17 #[.val (.ref o1), .val (.ref o2), .val (.int (0 : Int32)), .val (.int (7 : Int32)), .val (.ref (w 0))] [(.int (0 : Int32)), (.ref o2), (.ref (w 0)), (.ref o1)])) _
  refine XS.iloadN X4.here hx rfl (hb hby d3_17) rfl ?_
  refine st5.trans ?_
  show Steps p.tables e below (T5.setTop (mkF m 21 #[.val (.ref o1), .val (.ref o2), .val (.int (0 : Int32)), .val (.int (7 : Int32)), .val (.ref (w 0))] [])) _
  exact X5.returnOut hx hret (hb hby d3_21) hr
def Qd_13 (Z : State) (w : Nat → Addr) (kk : Nat → ClassId) (iw : Nat → Int32) (vw : Nat → Value) (o1 : Addr) (vl_o1 : List Value) (kc_o1 : ClassId) (h0 : Heap) (n0 : Nat) (v : Option Value) (h : Heap) (L : List Loc) : Prop := ∃ (c1 : Addr) (c2 : Addr) (kc1 : ClassId) (vx1 : List Value), v = some (.ref c1) ∧ Fr n0 L ∧ Keep h0 h [] ∧ h0.size ≤ c1 ∧ h0.size ≤ c2 ∧ c1 ≠ c2 ∧ Exa Z h c1 s_0 ∧ Fld Z h c1 s_0 "value" "[B" (.ref c2) ∧ Fld Z h c1 s_0 "coder" "B" (.int (0 : Int32)) ∧ Exa Z h c2 "[B" ∧ Arv Z h c2 kc1 .byte (7 : Int32) vx1 (.int (0 : Int32))
set_option maxRecDepth 65536 in
set_option maxHeartbeats 40000000 in
theorem rm_42 (l : Launch) (Z : State) (a0 : Array Value) (hw : ∀ d ∈ tables_1, d.before a0 Z = true) (w : Nat → Addr) (kk : Nat → ClassId) (iw : Nat → Int32) (vw : Nat → Value) (hN : Wd Z w kk iw vw) (ws : List Jvm.Cond) (o1 : Addr) (vl_o1 : List Value) (kc_o1 : ClassId) (h0 : Heap) (O0 : Old Z Z.heap.size h0) (gn_o1 : Z.heap.size ≤ o1) (lt_o1 : o1 < h0.size) (E_o1 : Exa Z h0 o1 "[B") (V_o1 : Arv Z h0 o1 kc_o1 .byte (11 : Int32) vl_o1 (.int (0 : Int32))) :
    Met l Z (⟨s_1, "string", s_9⟩ : MethodName) (Jvm.Cond.code (⟨s_1, "string", s_9⟩ : MethodName) prog_22_method_9_code 2 (some (.object s_0))) ws (Rm 5 2 11 88) #[(.ref o1), (.int (7 : Int32))] h0 (Qd_13 Z w kk iw vw o1 vl_o1 kc_o1 h0 Z.heap.size) := by
  have hN' := hN
  obtain ⟨hS0, hE0, hS1, hE1, hS2, hE2, hI0, hJ0, hR0, hRr0, hEq0⟩ := hN'
  refine own_body (plainFor_of_name pn_0) hisR ?_
  intro p e s m below meth c s₁ hx hby hml hown hnm hret X0 hZ e0
  have N0 := Fr.nil Z.heap.size
  have K0 : Keep h0 h0 [] := Keep.refl _ _
  obtain ⟨T1, h1, X1, e1, E1, A1, D1, -, st1⟩ := newO X0 hx hZ hown (W hw 11 rfl) (W hw 12 rfl) (W hw 13 rfl) e0 (g := (mkF m 0 #[.val (.ref o1), .val (.int (7 : Int32))] [])) rfl (hb hby d2_0) (by decide) (by decide)
  obtain ⟨b1, g1⟩ : ∃ z, z = h0.size := ⟨_, rfl⟩
  rw [← g1] at A1 st1 D1
  have gn_b1 : Z.heap.size ≤ b1 := Nat.le_trans O0.2.1 (Nat.le_of_eq g1.symm)
  have sz_b1 : h0.size ≤ b1 := Nat.le_trans K0.1 (Nat.le_of_eq g1.symm)
  have ne_o1_b1 : o1 ≠ b1 := Nat.ne_of_lt (Nat.lt_of_lt_of_le E_o1.lt (Nat.le_of_eq g1.symm))
  have E_o1_v1 := E_o1.ext E1
  have V_o1_v1 := V_o1.ext E1
  have O1 := O0.ext E1
  have K1 := K0.ext E1
  have E_b1_v1 := A1
  have F_b1_value_v1 : Fld Z h1 b1 s_0 "value" "[B" .null := D1 (Or.inr (W hw 64 rfl)) (ty := (.array .byte)) (by decide)
  have F_b1_coder_v1 : Fld Z h1 b1 s_0 "coder" "B" (.int (0 : Int32)) := D1 (Or.inr (W hw 66 rfl)) (ty := .byte) (by decide)
  obtain ⟨T2, X2, e2, st2⟩ := getS2 X1 hx hZ hown (host := "") (Or.inl (W hw 14 rfl)) Via.refl e1 (hS0.ext O1.2) (g := (mkF m 7 #[.val (.ref o1), .val (.int (7 : Int32))] [(.int (7 : Int32)), (.int (0 : Int32)), (.ref o1), (.ref b1), (.ref b1)])) rfl (hb hby d2_7)
  obtain ⟨_, _, ⟨T3, L3, k3, n3⟩, -, X3, ⟨Lc3, hQ3, l3, y3, z3⟩, st3⟩ := X2.specialBack hx (y := (⟨s_0, "<init>", s_8⟩ : MethodName)) rfl hown (mvT hZ (W hw 16 rfl)) (mvT hZ (W hw 17 rfl)) (mvT hZ (W hw 18 rfl)) (by decide) (backOf (W := 1) (rm_41 l Z a0 hw w kk iw vw hN [] b1 o1 vl_o1 kc_o1 h1 O1 gn_b1 E_b1_v1.lt gn_o1 E_o1_v1.lt E_b1_v1 F_b1_value_v1 F_b1_coder_v1 E_o1_v1 V_o1_v1 (Ne.symm ne_o1_b1)) hZ (W hw 18 rfl) (W hw 13 rfl) (by decide) (by decide)) (g := (mkF m 10 #[.val (.ref o1), .val (.int (7 : Int32))] [(.ref (w 0)), (.int (7 : Int32)), (.int (0 : Int32)), (.ref o1), (.ref b1), (.ref b1)])) rfl (by rw [hml]; rfl) (Steps.refl _) (a := b1) (argsL := [(.ref o1), (.int (0 : Int32)), (.int (7 : Int32)), (.ref (w 0))]) (rest := [(.ref b1)]) (lenOf pd_8 rfl) rfl (by show 2 * 0 + _ ≤ _; exact Nat.le_of_eq rfl) (hb hby d2_10) (fun _ _ => ⟨rfl, e2, (by decide : 1 + 1 ≤ _), (by decide : 4 + 7 ≤ _)⟩)
  dsimp only [Pt.U, Pt.locs, Pt.cells, Pt.slots] at X3 l3 y3 z3 st3 hQ3
  subst l3 y3 z3
  obtain ⟨b3_0, kb3_0, vl3_0, rfl, N3q, Kq3, tk3_0, tk3_1, tk3_2, tk3_3, tk3_4, tk3_5⟩ := hQ3
  have N3 := Fr.app N0 N3q
  have gn_b3_0 : Z.heap.size ≤ b3_0 := Nat.le_trans O1.2.1 tk3_0
  have sz_b3_0 : h0.size ≤ b3_0 := Nat.le_trans K1.1 tk3_0
  have ne_b1_b3_0 : b1 ≠ b3_0 := Nat.ne_of_lt (Nat.lt_of_lt_of_le E_b1_v1.lt tk3_0)
  have ne_o1_b3_0 : o1 ≠ b3_0 := Nat.ne_of_lt (Nat.lt_of_lt_of_le E_o1_v1.lt tk3_0)
  have E_o1_v3 := E_o1_v1.keep Kq3
  have V_o1_v3 := V_o1_v1.keep Kq3 (ninS ne_o1_b1 nin0)
  have E_b1_v3 := E_b1_v1.keep Kq3
  have O3 := O1.keep Kq3 (allS gn_b1 all0)
  have K3 : Keep h0 T3.heap [] := K1.trans Kq3 (allS (Or.inr sz_b1) all0)
  refine ⟨T3, some (.ref b1), _, _, _, by decide, by decide, X3, nofun, ⟨b1, b3_0, kb3_0, vl3_0, rfl, N3, K3, sz_b1, sz_b3_0, ne_b1_b3_0, tk3_1, tk3_2, tk3_3, tk3_4, tk3_5⟩, fun fs hr => castTop (ef_9 m (.ref o1) rfl (.int (7 : Int32)) rfl) ?_⟩
  show Steps p.tables e below (s₁.setTop (mkF m 0 #[.val (.ref o1), .val (.int (7 : Int32))] [])) _
  refine st1 _ ?_
  refine XS.dup X1.here hx rfl (hb hby d2_3) rfl rfl ?_
  refine XS.aloadN X1.here hx rfl (hb hby d2_4) rfl rfl ?_
  refine XS.iconst X1.here hx rfl (hb hby d2_5) ?_
  refine XS.iloadN X1.here hx rfl (hb hby d2_6) rfl ?_
  refine st2 _ ?_
  refine st3.trans ?_
  show Steps p.tables e below (T3.setTop (mkF m 13 #[.val (.ref o1), .val (.int (7 : Int32))] [(.ref b1)])) _
  exact retOut X3 hx hret rfl (Or.inr (Or.inr (Or.inr (Or.inr ⟨rfl, rfl, rfl⟩)))) (hb hby d2_13) hr
def Qd_14 (Z : State) (w : Nat → Addr) (kk : Nat → ClassId) (iw : Nat → Int32) (vw : Nat → Value) (p0 : Int32) (h0 : Heap) (n0 : Nat) (v : Option Value) (h : Heap) (L : List Loc) : Prop := ∃ (c1 : Addr) (c2 : Addr) (kc1 : ClassId) (vx1 : List Value), v = some (.ref c1) ∧ Fr n0 L ∧ Keep h0 h [] ∧ h0.size ≤ c1 ∧ h0.size ≤ c2 ∧ c1 ≠ c2 ∧ Exa Z h c1 s_0 ∧ Fld Z h c1 s_0 "value" "[B" (.ref c2) ∧ Fld Z h c1 s_0 "coder" "B" (.int (0 : Int32)) ∧ Exa Z h c2 "[B" ∧ Arv Z h c2 kc1 .byte (7 : Int32) vx1 (.int (0 : Int32))
set_option maxRecDepth 65536 in
set_option maxHeartbeats 40000000 in
theorem rm_43 (l : Launch) (Z : State) (a0 : Array Value) (hw : ∀ d ∈ tables_1, d.before a0 Z = true) (w : Nat → Addr) (kk : Nat → ClassId) (iw : Nat → Int32) (vw : Nat → Value) (hN : Wd Z w kk iw vw) (ws : List Jvm.Cond) (p0 : Int32) (h0 : Heap) (O0 : Old Z Z.heap.size h0) (hp0 : p0 < (0 : Int32)) (hp1 : ¬ ((p0 / (10000 : Int32)) = (0 : Int32))) (hp2 : ¬ (((p0 / (10000 : Int32)) / (10 : Int32)) = (0 : Int32))) (hp3 : (((p0 / (10000 : Int32)) / (10 : Int32)) / (10 : Int32)) = (0 : Int32)) :
    Met l Z (⟨s_1, "yearText", s_4⟩ : MethodName) (Jvm.Cond.code (⟨s_1, "yearText", s_4⟩ : MethodName) prog_22_method_4_code 2 (some (.object s_0))) ws (Rm 6 3 22 101) #[(.int p0)] h0 (Qd_14 Z w kk iw vw p0 h0 Z.heap.size) := by
  have hN' := hN
  obtain ⟨hS0, hE0, hS1, hE1, hS2, hE2, hI0, hJ0, hR0, hRr0, hEq0⟩ := hN'
  refine own_body (plainFor_of_name pn_0) hisR ?_
  intro p e s m below meth c s₁ hx hby hml hown hnm hret X0 hZ e0
  have N0 := Fr.nil Z.heap.size
  have K0 : Keep h0 h0 [] := Keep.refl _ _
  obtain ⟨T1, h1, k1, X1, e1, E1, A1, AE1, st1⟩ := newPE X0 hx hZ (W hw 4 rfl) e0 (g := (mkF m 2 #[.val (.int p0), .unset] [(.int (11 : Int32))])) rfl (hb hby d0_2) rfl (by decide) (cap := 11) (by decide) (by decide) (by decide) (by decide) (ad := "[B") rfl
  obtain ⟨b1, g1⟩ : ∃ z, z = h0.size := ⟨_, rfl⟩
  rw [← g1] at A1 st1 AE1
  have gn_b1 : Z.heap.size ≤ b1 := Nat.le_trans O0.2.1 (Nat.le_of_eq g1.symm)
  have sz_b1 : h0.size ≤ b1 := Nat.le_trans K0.1 (Nat.le_of_eq g1.symm)
  have O1 := O0.ext E1
  have K1 := K0.ext E1
  have E_b1_v1 := AE1
  have V_b1_v1 : Arv Z h1 b1 k1 .byte (11 : Int32) [] (.int (0 : Int32)) := Arv.new A1 (by decide)
  obtain ⟨_, _, ⟨T2, L2, k2, n2⟩, -, X2, ⟨Lc2, hQ2, l2, y2, z2⟩, st2⟩ := Jvm.LawKit.callS X1 hx (y := (⟨s_1, "writeYear", "([BI)I"⟩ : MethodName)) hown (mvT hZ (W hw 5 rfl)) (mvT hZ (W hw 6 rfl)) (mvT hZ (W hw 2 rfl)) (mvT hZ (W hw 7 rfl)) (by decide) (backOf (W := 1) (rm_33 l Z a0 hw w kk iw vw hN [] b1 p0 k1 h1 O1 gn_b1 E_b1_v1.lt E_b1_v1 V_b1_v1 hp0 hp1 hp2 hp3) hZ (W hw 7 rfl) (W hw 2 rfl) (by decide) (by decide)) (g := (mkF m 8 #[.val (.int p0), .val (.ref b1)] [(.int p0), (.ref b1), (.ref b1)])) rfl (by rw [hml]; rfl) (argsL := [(.ref b1), (.int p0)]) (rest := [(.ref b1)]) (lenOf pd_0 rfl) rfl (by show 2 * 0 + _ ≤ _; exact Nat.le_of_eq rfl) (hb hby d0_8) (fun _ _ => ⟨rfl, e1, (by decide : 1 + 0 ≤ _), (by decide : 11 + 0 ≤ _)⟩)
  dsimp only [Pt.U, Pt.locs, Pt.cells, Pt.slots] at X2 l2 y2 z2 st2 hQ2
  subst l2 y2 z2
  obtain ⟨vl2_0, rfl, N2q, Kq2, tk2_0, tk2_1⟩ := hQ2
  have N2 := Fr.app N0 N2q
  have E_b1_v2 := E_b1_v1.keep Kq2
  have O2 := O1.keep Kq2 (allS gn_b1 all0)
  have K2 : Keep h0 T2.heap [] := K1.trans Kq2 (allS (Or.inr sz_b1) all0)
  obtain ⟨_, _, ⟨T3, L3, k3, n3⟩, -, X3, ⟨Lc3, hQ3, l3, y3, z3⟩, st3⟩ := Jvm.LawKit.callS X2 hx (y := (⟨s_1, "string", s_9⟩ : MethodName)) hown (mvT hZ (W hw 8 rfl)) (mvT hZ (W hw 9 rfl)) (mvT hZ (W hw 2 rfl)) (mvT hZ (W hw 10 rfl)) (by decide) (backOf (W := 0) (rm_42 l Z a0 hw w kk iw vw hN [] b1 vl2_0 k1 T2.heap O2 gn_b1 tk2_0.lt tk2_0 tk2_1) hZ (W hw 10 rfl) (W hw 2 rfl) (by decide) (by decide)) (g := (mkF m 11 #[.val (.int p0), .val (.ref b1)] [(.int (7 : Int32)), (.ref b1)])) rfl (by rw [hml]; rfl) (argsL := [(.ref b1), (.int (7 : Int32))]) (rest := []) (lenOf pd_9 rfl) rfl (by show 2 * 0 + _ ≤ _; exact Nat.le_of_eq rfl) (hb hby d0_11) (fun _ _ => ⟨rfl, rfl, (by decide : 1 + 2 ≤ _), (by decide : 11 + 11 ≤ _)⟩)
  dsimp only [Pt.U, Pt.locs, Pt.cells, Pt.slots] at X3 l3 y3 z3 st3 hQ3
  subst l3 y3 z3
  obtain ⟨b3_0, b3_1, kb3_0, vl3_0, rfl, N3q, Kq3, tk3_0, tk3_1, tk3_2, tk3_3, tk3_4, tk3_5, tk3_6, tk3_7⟩ := hQ3
  have N3 := Fr.app N2 N3q
  have gn_b3_0 : Z.heap.size ≤ b3_0 := Nat.le_trans O2.2.1 tk3_0
  have sz_b3_0 : h0.size ≤ b3_0 := Nat.le_trans K2.1 tk3_0
  have ne_b1_b3_0 : b1 ≠ b3_0 := Nat.ne_of_lt (Nat.lt_of_lt_of_le tk2_0.lt tk3_0)
  have gn_b3_1 : Z.heap.size ≤ b3_1 := Nat.le_trans O2.2.1 tk3_1
  have sz_b3_1 : h0.size ≤ b3_1 := Nat.le_trans K2.1 tk3_1
  have ne_b1_b3_1 : b1 ≠ b3_1 := Nat.ne_of_lt (Nat.lt_of_lt_of_le tk2_0.lt tk3_1)
  have tk2_0_v3 := tk2_0.keep Kq3
  have tk2_1_v3 := tk2_1.keep Kq3 nin0
  have O3 := O2.keep Kq3 all0
  have K3 : Keep h0 T3.heap [] := K2.trans Kq3 all0
  refine ⟨T3, some (.ref b3_0), _, _, _, by decide, by decide, X3, nofun, ⟨b3_0, b3_1, kb3_0, vl3_0, rfl, N3, K3, sz_b3_0, sz_b3_1, tk3_2, tk3_3, tk3_4, tk3_5, tk3_6, tk3_7⟩, fun fs hr => castTop (ef_10 m (.int p0) rfl) ?_⟩
  show Steps p.tables e below (s₁.setTop (mkF m 0 #[.val (.int p0), .unset] [])) _
  refine XS.bipush X0.here hx rfl (hb hby d0_0) ?_
  refine st1 _ ?_
  refine XS.astoreN X1.here hx rfl (hb hby d0_4) rfl rfl (l' := #[.val (.int p0), .val (.ref b1)]) rfl ?_
  refine XS.aloadN X1.here hx rfl (hb hby d0_5) rfl rfl ?_
  refine XS.aloadN X1.here hx rfl (hb hby d0_6) rfl rfl ?_
  refine XS.iloadN X1.here hx rfl (hb hby d0_7) rfl ?_
  refine st2 _ ?_
  refine st3 _ ?_
  show Steps p.tables e below (T3.setTop (mkF m 14 #[.val (.int p0), .val (.ref b1)] [(.ref b3_0)])) _
  exact retOut X3 hx hret rfl (Or.inr (Or.inr (Or.inr (Or.inr ⟨rfl, rfl, rfl⟩)))) (hb hby d0_14) hr
set_option maxRecDepth 65536 in
set_option maxHeartbeats 40000000 in
theorem rm_44 (l : Launch) (Z : State) (a0 : Array Value) (hw : ∀ d ∈ tables_1, d.before a0 Z = true) (w : Nat → Addr) (kk : Nat → ClassId) (iw : Nat → Int32) (vw : Nat → Value) (hN : Wd Z w kk iw vw) (ws : List Jvm.Cond) (o1 : Addr) (o2 : Addr) (vl_o2 : List Value) (kc_o2 : ClassId) (h0 : Heap) (O0 : Old Z Z.heap.size h0) (gn_o1 : Z.heap.size ≤ o1) (lt_o1 : o1 < h0.size) (E_o1 : Exa Z h0 o1 s_0) (gn_o2 : Z.heap.size ≤ o2) (lt_o2 : o2 < h0.size) (F_o1_value : Fld Z h0 o1 s_0 "value" "[B" (.ref o2)) (F_o1_coder : Fld Z h0 o1 s_0 "coder" "B" (.int (0 : Int32))) (E_o2 : Exa Z h0 o2 "[B") (V_o2 : Arv Z h0 o2 kc_o2 .byte (7 : Int32) vl_o2 (.int (0 : Int32))) (ne_o1_o2 : o1 ≠ o2) :
    Met l Z (⟨s_0, "coder", "()B"⟩ : MethodName) (Jvm.Cond.code (⟨s_0, "coder", "()B"⟩ : MethodName) jdk_42_method_152_code 1 (some .byte)) ws (Rm 0 0 0 0) #[(.ref o1)] h0 (OQ (some (.int (0 : Int32))) h0 Z.heap.size) := by
  have hN' := hN
  obtain ⟨hS0, hE0, hS1, hE1, hS2, hE2, hI0, hJ0, hR0, hRr0, hEq0⟩ := hN'
  refine own_body (plainFor_of_name pn_3) hisR ?_
  intro p e s m below meth c s₁ hx hby hml hown hnm hret X0 hZ e0
  have N0 := Fr.nil Z.heap.size
  obtain ⟨T1, X1, e1, st1⟩ := getS2 X0 hx hZ hown (host := "") (Or.inl (W hw 44 rfl)) Via.refl e0 (hI0.ext O0.2) (g := (mkF m 0 #[.val (.ref o1)] [])) rfl (hb hby d13_0)
  obtain ⟨T2, X2, e2, st2⟩ := getF X1 hx hZ hown (host := "") (Or.inl (W hw 65 rfl)) Via.refl e1 F_o1_coder (g := (mkF m 7 #[.val (.ref o1)] [(.ref o1)])) rfl rfl (hb hby d13_7)
  refine ⟨T2, some (.int (0 : Int32)), _, _, _, by decide, by decide, X2, nofun, (by rw [e2]; exact ⟨rfl, N0, rfl⟩), fun fs hr => castTop (ef_1 m (.ref o1) rfl) ?_⟩
  show Steps p.tables e below (s₁.setTop (mkF m 0 #[.val (.ref o1)] [])) _
  refine st1 _ ?_
  refine XS.ifNo X1.here hx rfl (hb hby d13_3) rfl ((if0 _ _).trans (feq hJ0).1) ?_
  refine XS.aloadN X1.here hx rfl (hb hby d13_6) rfl rfl ?_
  refine st2 _ ?_
  refine XS.goto X2.here hx rfl (pc0 := 10) (pc' := 14) rfl (hb hby d13_10) (by decide) (by decide) ?_
  show Steps p.tables e below (T2.setTop (mkF m 14 #[.val (.ref o1)] [(.int (0 : Int32))])) _
  exact retN X2 hx (t := .byte) hret (by simp) (hb hby d13_14) hr
theorem lf_25 : ((7 : Int32) >>> ((0 : Int32) &&& 31)) = (7 : Int32) := by decide
set_option maxRecDepth 65536 in
set_option maxHeartbeats 40000000 in
theorem rm_45 (l : Launch) (Z : State) (a0 : Array Value) (hw : ∀ d ∈ tables_1, d.before a0 Z = true) (w : Nat → Addr) (kk : Nat → ClassId) (iw : Nat → Int32) (vw : Nat → Value) (hN : Wd Z w kk iw vw) (ws : List Jvm.Cond) (o1 : Addr) (o2 : Addr) (vl_o2 : List Value) (kc_o2 : ClassId) (h0 : Heap) (O0 : Old Z Z.heap.size h0) (gn_o1 : Z.heap.size ≤ o1) (lt_o1 : o1 < h0.size) (E_o1 : Exa Z h0 o1 s_0) (gn_o2 : Z.heap.size ≤ o2) (lt_o2 : o2 < h0.size) (F_o1_value : Fld Z h0 o1 s_0 "value" "[B" (.ref o2)) (F_o1_coder : Fld Z h0 o1 s_0 "coder" "B" (.int (0 : Int32))) (E_o2 : Exa Z h0 o2 "[B") (V_o2 : Arv Z h0 o2 kc_o2 .byte (7 : Int32) vl_o2 (.int (0 : Int32))) (ne_o1_o2 : o1 ≠ o2) :
    Met l Z (⟨s_0, "length", "()I"⟩ : MethodName) (Jvm.Cond.code (⟨s_0, "length", "()I"⟩ : MethodName) jdk_42_method_54_code 1 (some .int)) ws (Rm 1 0 0 13) #[(.ref o1)] h0 (OQ (some (.int (7 : Int32))) h0 Z.heap.size) := by
  have hN' := hN
  obtain ⟨hS0, hE0, hS1, hE1, hS2, hE2, hI0, hJ0, hR0, hRr0, hEq0⟩ := hN'
  refine own_body (plainFor_of_name pn_3) hisR ?_
  intro p e s m below meth c s₁ hx hby hml hown hnm hret X0 hZ e0
  have N0 := Fr.nil Z.heap.size
  obtain ⟨T1, X1, e1, st1⟩ := getF X0 hx hZ hown (host := "") (Or.inl (W hw 63 rfl)) Via.refl e0 F_o1_value (g := (mkF m 1 #[.val (.ref o1)] [(.ref o1)])) rfl rfl (hb hby d12_1)
  obtain ⟨cl2, Ar2, q2, Sz2, Ng2, Hv2, Gv2⟩ := id V_o2
  obtain ⟨cq3, kq3, q3a, q3b, q3c⟩ := isOf hZ e1 E_o1
  obtain ⟨_, _, ⟨T3, L3, k3, n3⟩, -, X3, ⟨Lc3, hQ3, l3, y3, z3⟩, st3⟩ := X1.virtualBack hx (y := (⟨s_0, "coder", "()B"⟩ : MethodName)) (z := (⟨s_0, "coder", "()B"⟩ : MethodName)) hown (mvT hZ (W hw 72 rfl)) (mvT hZ (W hw 73 rfl)) (notFace_of_selects (args := #[]) (mvT hZ (W hw 75 rfl))) (mvT hZ (W hw 75 rfl)) (mvT hZ (W hw 74 rfl)) (by decide) (backOf (W := 1) (rm_44 l Z a0 hw w kk iw vw hN [] o1 o2 vl_o2 kc_o2 h0 O0 gn_o1 E_o1.lt E_o1 gn_o2 E_o2.lt F_o1_value F_o1_coder E_o2 V_o2 ne_o1_o2) hZ (W hw 76 rfl) (W hw 13 rfl) (by decide) (by decide)) q3a q3c (g := (mkF m 6 #[.val (.ref o1)] [(.ref o1), (.int (7 : Int32))])) rfl (by rw [hml]; rfl) (Steps.refl _) (argsL := []) (rest := [(.int (7 : Int32))]) (lenOf pd_11 rfl) rfl (by show 2 * 0 + _ ≤ _; exact Nat.le_of_eq rfl) (hb hby d12_6) (fun _ _ => ⟨rfl, e1, (by decide : 0 + 0 ≤ _), (by decide : 0 + 0 ≤ _)⟩)
  dsimp only [Pt.U, Pt.locs, Pt.cells, Pt.slots] at X3 l3 y3 z3 st3 hQ3
  subst l3 y3 z3
  obtain ⟨rfl, N3q, e3⟩ := hQ3
  have N3 := Fr.app N0 N3q
  refine ⟨T3, some (.int (7 : Int32)), _, _, _, by decide, by decide, X3, nofun, (by rw [e3]; exact ⟨rfl, N3, rfl⟩), fun fs hr => castTop (ef_1 m (.ref o1) rfl) ?_⟩
  show Steps p.tables e below (s₁.setTop (mkF m 0 #[.val (.ref o1)] [])) _
  refine XS.aloadN X0.here hx rfl (hb hby d12_0) rfl rfl ?_
  refine st1 _ ?_
  refine X1.arraylength hx (by rw [e1]; exact Ar2.1) (State.isArrayOf_alike hZ.alike Ar2.2.1) (g := (mkF m 4 #[.val (.ref o1)] [(.ref o2)])) rfl rfl (hb hby d12_4) _ ?_
  rw [len_of Sz2 Ng2]
  refine XS.aloadN X1.here hx rfl (hb hby d12_5) rfl rfl ?_
  refine st3.trans ?_
  refine XS.ishr X3.here hx rfl (hb hby d12_9) rfl ?_
  show Steps p.tables e below (T3.setTop (mkF m 10 #[.val (.ref o1)] [(.int ((7 : Int32) >>> ((0 : Int32) &&& 31)))])) _
  rw [lf_25]
  show Steps p.tables e below (T3.setTop (mkF m 10 #[.val (.ref o1)] [(.int (7 : Int32))])) _
  exact retI X3 hx hret (hb hby d12_10) hr
set_option maxRecDepth 65536 in
set_option maxHeartbeats 40000000 in
theorem law_46 (l : Launch) (Z : State) (a0 : Array Value) (hw : ∀ d ∈ tables_1, d.before a0 Z = true) (w : Nat → Addr) (kk : Nat → ClassId) (iw : Nat → Int32) (vw : Nat → Value) (hN : Wd Z w kk iw vw) (ws : List Jvm.Cond) (p0 : Int32) (h0 : Heap) (O0 : Old Z Z.heap.size h0) (hp0 : p0 < (0 : Int32)) (hp1 : ¬ ((p0 / (10000 : Int32)) = (0 : Int32))) (hp2 : ¬ (((p0 / (10000 : Int32)) / (10 : Int32)) = (0 : Int32))) (hp3 : (((p0 / (10000 : Int32)) / (10 : Int32)) / (10 : Int32)) = (0 : Int32)) (hp4 : p0 < (1000 : Int32)) :
    MetFree l x (head1 (Jvm.Cond.code x code maxLocals ret :: ws) room_1) (fun a U => a = #[(.int p0)] ∧ Z.Warmed39 U.vm ∧ U.heap = h0) (fun _ _ _ _ _ => True) (fun _ U o U' => ∃ v L, o = .returned v ∧ OL (some (.int (1 : Int32))) Z.heap.size v U'.heap L ∧ FrameEnd U o U' L 16 128) := by
  have hN' := hN
  obtain ⟨hS0, hE0, hS1, hE1, hS2, hE2, hI0, hJ0, hR0, hRr0, hEq0⟩ := hN'
  refine MetFree.of_bodySF (plainFor_of_name pn_5) hisR ?_
  intro p e s m args below meth c s₁ Bd hml0 hP hK
  obtain ⟨rfl, hZ, hh⟩ := hP
  have hx := Bd.exec
  have hby := Bd.bytes
  have hml : c.maxLocals = 3 := hml0
  have hown : s.vm.findClass s_3 = some m.cls := findClass_of_methodNamed Bd.named
  have hnm := (name_of_methodNamed Bd.named Bd.method).1
  have X0 : Stand p l e room_1 s m #[(.int p0)] below meth c s₁ [] 0 0 := Stand.of_body Bd
  have e0 : s₁.heap = h0 := by rw [← hh, Bd.state]; rfl
  have N0 := Fr.nil Z.heap.size
  obtain ⟨_, _, ⟨T1, L1, k1, n1⟩, -, X1, ⟨Lc1, hQ1, l1, y1, z1⟩, st1⟩ := Jvm.LawKit.callS X0 hx (y := (⟨s_1, "yearText", s_4⟩ : MethodName)) hown (mvT hZ (W hw 0 rfl)) (mvT hZ (W hw 1 rfl)) (mvT hZ (W hw 2 rfl)) (mvT hZ (W hw 3 rfl)) (by decide) (backOf (W := 0) (rm_43 l Z a0 hw w kk iw vw hN [] p0 h0 O0 hp0 hp1 hp2 hp3) hZ (W hw 3 rfl) (W hw 2 rfl) (by decide) (by decide)) (g := (mkF m 1 #[.val (.int p0), .unset, .unset] [(.int p0)])) rfl (by rw [hml]; rfl) (argsL := [(.int p0)]) (rest := []) (lenOf pd_10 rfl) rfl (by show 2 * 0 + _ ≤ _; exact Nat.le_of_eq rfl) (hb hby at_1) (fun _ _ => ⟨rfl, e0, (by decide : 0 + 3 ≤ _), (by decide : 0 + 22 ≤ _)⟩)
  dsimp only [Pt.U, Pt.locs, Pt.cells, Pt.slots] at X1 l1 y1 z1 st1 hQ1
  subst l1 y1 z1
  obtain ⟨b1_0, b1_1, kb1_0, vl1_0, rfl, N1q, Kq1, tk1_0, tk1_1, tk1_2, tk1_3, tk1_4, tk1_5, tk1_6, tk1_7⟩ := hQ1
  have N1 := Fr.app N0 N1q
  have gn_b1_0 : Z.heap.size ≤ b1_0 := Nat.le_trans O0.2.1 tk1_0
  have gn_b1_1 : Z.heap.size ≤ b1_1 := Nat.le_trans O0.2.1 tk1_1
  have O1 := O0.keep Kq1 all0
  obtain ⟨cq2, kq2, q2a, q2b, q2c⟩ := isOf hZ rfl tk1_3
  obtain ⟨_, _, ⟨T2, L2, k2, n2⟩, -, X2, ⟨Lc2, hQ2, l2, y2, z2⟩, st2⟩ := X1.virtualBack hx (y := (⟨s_0, "length", "()I"⟩ : MethodName)) (z := (⟨s_0, "length", "()I"⟩ : MethodName)) hown (mvT hZ (W hw 67 rfl)) (mvT hZ (W hw 68 rfl)) (notFace_of_selects (args := #[]) (mvT hZ (W hw 70 rfl))) (mvT hZ (W hw 70 rfl)) (mvT hZ (W hw 69 rfl)) (by decide) (backOf (W := 0) (rm_45 l Z a0 hw w kk iw vw hN [] b1_0 b1_1 vl1_0 kb1_0 T1.heap O1 gn_b1_0 tk1_3.lt tk1_3 gn_b1_1 tk1_6.lt tk1_4 tk1_5 tk1_6 tk1_7 tk1_2) hZ (W hw 71 rfl) (W hw 13 rfl) (by decide) (by decide)) q2a q2c (g := (mkF m 6 #[.val (.int p0), .val (.ref b1_0), .unset] [(.ref b1_0)])) rfl (by rw [hml]; rfl) (Steps.refl _) (argsL := []) (rest := []) (lenOf pd_12 rfl) rfl (by show 2 * 0 + _ ≤ _; exact Nat.le_of_eq rfl) (hb hby at_6) (fun _ _ => ⟨rfl, rfl, (by decide : 3 + 0 ≤ _), (by decide : 22 + 0 ≤ _)⟩)
  dsimp only [Pt.U, Pt.locs, Pt.cells, Pt.slots] at X2 l2 y2 z2 st2 hQ2
  subst l2 y2 z2
  obtain ⟨rfl, N2q, e2⟩ := hQ2
  have N2 := Fr.app N1 N2q
  obtain ⟨_, _, ⟨T3, L3, k3, n3⟩, -, X3, ⟨Lc3, hQ3, l3, y3, z3⟩, st3⟩ := Jvm.LawKit.callS X2 hx (y := (⟨s_1, s_15, "(I)Z"⟩ : MethodName)) hown (mvT hZ (W hw 97 rfl)) (mvT hZ (W hw 98 rfl)) (mvT hZ (W hw 2 rfl)) (mvT hZ (W hw 99 rfl)) (by decide) (backOf (W := 0) (rm_16 l Z a0 hw w kk iw vw hN [] p0 T1.heap O1 hp4) hZ (W hw 99 rfl) (W hw 2 rfl) (by decide) (by decide)) (g := (mkF m 30 #[.val (.int p0), .val (.ref b1_0), .val (.int (0 : Int32))] [(.int p0)])) rfl (by rw [hml]; rfl) (argsL := [(.int p0)]) (rest := []) (lenOf pd_13 rfl) rfl (by show 2 * 0 + _ ≤ _; exact Nat.le_of_eq rfl) (hb hby at_30) (fun _ _ => ⟨rfl, e2, (by decide : 3 + 0 ≤ _), (by decide : 22 + 0 ≤ _)⟩)
  dsimp only [Pt.U, Pt.locs, Pt.cells, Pt.slots] at X3 l3 y3 z3 st3 hQ3
  subst l3 y3 z3
  obtain ⟨rfl, N3q, e3⟩ := hQ3
  have N3 := Fr.app N2 N3q
  obtain ⟨fs, hr, hrun, hended, hW, hsame⟩ := X3.leave (v := some (.int (1 : Int32))) (fun h => by rw [Bd.returns] at h; cases h)
  refine ⟨_, _, castTop (ef_12 m (.int p0) rfl) ?_, hrun, hended, _, _, rfl, ?_, ⟨_, rfl⟩, hW, hsame.mono (by decide) (by decide)⟩
  · show Steps p.tables e below (s₁.setTop (mkF m 0 #[.val (.int p0), .unset, .unset] [])) _
    refine XS.iloadN X0.here hx rfl (hb hby at_0) rfl ?_
    refine st1 _ ?_
    refine XS.astoreN X1.here hx rfl (hb hby at_4) rfl rfl (l' := #[.val (.int p0), .val (.ref b1_0), .unset]) rfl ?_
    refine XS.aloadN X1.here hx rfl (hb hby at_5) rfl rfl ?_
    refine st2.trans ?_
    refine XS.iconst X2.here hx rfl (hb hby at_9) ?_
    refine XS.icmpYes X2.here hx rfl (pc0 := 10) (pc' := 27) rfl (hb hby at_10) rfl (feq (by decide : ¬ ((7 : Int32) = (4 : Int32)))).2 (by decide) (by decide) ?_
    refine XS.iconst X2.here hx rfl (hb hby at_27) ?_
    refine XS.istoreN X2.here hx rfl (hb hby at_28) rfl (l' := #[.val (.int p0), .val (.ref b1_0), .val (.int (0 : Int32))]) rfl ?_
    refine XS.iloadN X2.here hx rfl (hb hby at_29) rfl ?_
    show Steps p.tables e below (T2.setTop (mkF m 30 #[.val (.int p0), .val (.ref b1_0), .val (.int (0 : Int32))] [(.int p0)])) _
    refine st3 _ ?_
    refine XS.iloadN X3.here hx rfl (hb hby at_33) rfl ?_
    refine XS.icmpNo X3.here hx rfl (hb hby at_34) rfl (teq (by decide : (0 : Int32) = (0 : Int32))).2 ?_
    refine XS.iconst X3.here hx rfl (hb hby at_37) ?_
    refine XS.goto X3.here hx rfl (pc0 := 38) (pc' := 42) rfl (hb hby at_38) (by decide) (by decide) ?_
    show Steps p.tables e below (T3.setTop (mkF m 42 #[.val (.int p0), .val (.ref b1_0), .val (.int (0 : Int32))] [(.int (1 : Int32))])) _
    exact retN X3 hx (t := .boolean) Bd.returns (by simp) (hb hby at_42) hr
  · show OL (some (.int (1 : Int32))) Z.heap.size _ T3.heap _
    exact ⟨rfl, N3⟩
theorem lf_26 : ((7 : Int32) + (1 : Int32)) = (8 : Int32) := by decide
theorem lf_27 : ((8 : Int32) - (1 : Int32)) = (7 : Int32) := by decide
theorem lf_28 : ((7 : Int32) + (-1 : Int32)) = (6 : Int32) := by decide
def Qd_15 (Z : State) (w : Nat → Addr) (kk : Nat → ClassId) (iw : Nat → Int32) (vw : Nat → Value) (o1 : Addr) (p1 : Int32) (kc_o1 : ClassId) (h0 : Heap) (n0 : Nat) (v : Option Value) (h : Heap) (L : List Loc) : Prop := ∃ (vx1 : List Value), v = some (.int (8 : Int32)) ∧ Fr n0 L ∧ Keep h0 h [o1] ∧ Exa Z h o1 "[B" ∧ Arv Z h o1 kc_o1 .byte (11 : Int32) vx1 (.int (0 : Int32))
set_option maxRecDepth 65536 in
set_option maxHeartbeats 40000000 in
theorem rm_47 (l : Launch) (Z : State) (a0 : Array Value) (hw : ∀ d ∈ tables_1, d.before a0 Z = true) (w : Nat → Addr) (kk : Nat → ClassId) (iw : Nat → Int32) (vw : Nat → Value) (hN : Wd Z w kk iw vw) (ws : List Jvm.Cond) (o1 : Addr) (p1 : Int32) (kc_o1 : ClassId) (h0 : Heap) (O0 : Old Z Z.heap.size h0) (gn_o1 : Z.heap.size ≤ o1) (lt_o1 : o1 < h0.size) (E_o1 : Exa Z h0 o1 "[B") (V_o1 : Arv Z h0 o1 kc_o1 .byte (11 : Int32) [] (.int (0 : Int32))) (hp0 : p1 < (0 : Int32)) (hp1 : ¬ ((p1 / (10000 : Int32)) = (0 : Int32))) (hp2 : ¬ (((p1 / (10000 : Int32)) / (10 : Int32)) = (0 : Int32))) (hp3 : ¬ ((((p1 / (10000 : Int32)) / (10 : Int32)) / (10 : Int32)) = (0 : Int32))) (hp4 : ((((p1 / (10000 : Int32)) / (10 : Int32)) / (10 : Int32)) / (10 : Int32)) = (0 : Int32)) :
    Met l Z (⟨s_1, "writeYear", "([BI)I"⟩ : MethodName) (Jvm.Cond.code (⟨s_1, "writeYear", "([BI)I"⟩ : MethodName) prog_22_method_7_code 7 (some .int)) ws (Rm 0 0 0 0) #[(.ref o1), (.int p1)] h0 (Qd_15 Z w kk iw vw o1 p1 kc_o1 h0 Z.heap.size) := by
  have hN' := hN
  obtain ⟨hS0, hE0, hS1, hE1, hS2, hE2, hI0, hJ0, hR0, hRr0, hEq0⟩ := hN'
  refine own_body (plainFor_of_name pn_0) hisR ?_
  intro p e s m below meth c s₁ hx hby hml hown hnm hret X0 hZ e0
  have N0 := Fr.nil Z.heap.size
  have K0 : Keep h0 h0 [o1] := Keep.refl _ _
  have Vc1 := V_o1
  obtain ⟨cl1, Ar1, q1, Sz1, Ng1, Hv1, Gv1⟩ := Vc1
  have hin1 : ¬ ((0 : Int32) < 0 ∨ cl1.slots.size ≤ ((0 : Int32)).toNatClampNeg) := inb_of Sz1 ⟨(by decide : ¬ ((0 : Int32) < (0 : Int32))), (by decide : (0 : Int32) < (11 : Int32))⟩
  obtain ⟨T2, h2, X2, e2, W2, st2⟩ := stB X0 hx hZ e0 Ar1 (j := (0 : Int32)) hin1 (g := (mkF m 8 #[.val (.ref o1), .val (.int p1), .unset, .unset, .unset, .unset, .unset] [(.int (45 : Int32)), (.int (0 : Int32)), (.ref o1)])) rfl rfl (hb hby d1_8)
  obtain ⟨vl2, V_o1_v2⟩ := own_store V_o1 W2 (fits_nar_byte _) ⟨(by decide : ¬ ((0 : Int32) < (0 : Int32))), (by decide : (0 : Int32) < (11 : Int32))⟩
  have N2 := Fr.snoc X2 N0 gn_o1
  have E_o1_v2 := E_o1.wr W2
  have O2 := O0.wr W2 gn_o1
  have K2 : Keep h0 h2 [o1] := K0.wr W2 (Or.inl (List.mem_of_getElem? (i := 0) rfl))
  obtain ⟨T3, L3, X3, st3, N3, e3⟩ := sg_18 w kk iw vw hN o1 p1 (1 : Int32) p1 (5 : Int32) (p1 / (10000 : Int32)) vl2 kc_o1 X2 hx hZ hw hby hml hown e2 O2 N2 gn_o1 E_o1_v2.lt E_o1_v2 V_o1_v2 hp1
  obtain ⟨T4, L4, X4, st4, N4, e4⟩ := sg_18 w kk iw vw hN o1 p1 (1 : Int32) p1 (6 : Int32) ((p1 / (10000 : Int32)) / (10 : Int32)) vl2 kc_o1 X3 hx hZ hw hby hml hown e3 O2 N3 gn_o1 E_o1_v2.lt E_o1_v2 V_o1_v2 hp2
  obtain ⟨T5, L5, X5, st5, N5, e5⟩ := sg_18 w kk iw vw hN o1 p1 (1 : Int32) p1 (7 : Int32) (((p1 / (10000 : Int32)) / (10 : Int32)) / (10 : Int32)) vl2 kc_o1 X4 hx hZ hw hby hml hown e4 O2 N4 gn_o1 E_o1_v2.lt E_o1_v2 V_o1_v2 hp3
  obtain ⟨T6, L6, vl6_0, z5_6, X6, st6, N6, Kq6, tk6_0, tk6_1⟩ := sg_1 w kk iw vw hN o1 p1 (1 : Int32) p1 (8 : Int32) p1 (7 : Int32) vl2 kc_o1 X5 hx hZ hw hby hml hown e5 O2 N5 gn_o1 E_o1_v2.lt E_o1_v2 V_o1_v2 (by decide : ¬ ((7 : Int32) < (1 : Int32))) (by decide : ¬ ((7 : Int32) < (0 : Int32))) (by decide : (7 : Int32) < (11 : Int32))
  have E_o1_v6 := E_o1_v2.keep Kq6
  have O6 := O2.keep Kq6 (allS gn_o1 all0)
  have K6 : Keep h0 T6.heap [o1] := K2.trans Kq6 (allS (Or.inl (List.mem_of_getElem? (i := 0) rfl)) all0)
  obtain ⟨T7, L7, vl7_0, z5_7, X7, st7, N7, Kq7, tk7_0, tk7_1⟩ := sg_1 w kk iw vw hN o1 p1 (1 : Int32) p1 (8 : Int32) z5_6 (6 : Int32) vl6_0 kc_o1 X6 hx hZ hw hby hml hown rfl O6 N6 gn_o1 tk6_0.lt tk6_0 tk6_1 (by decide : ¬ ((6 : Int32) < (1 : Int32))) (by decide : ¬ ((6 : Int32) < (0 : Int32))) (by decide : (6 : Int32) < (11 : Int32))
  have tk6_0_v7 := tk6_0.keep Kq7
  have O7 := O6.keep Kq7 (allS gn_o1 all0)
  have K7 : Keep h0 T7.heap [o1] := K6.trans Kq7 (allS (Or.inl (List.mem_of_getElem? (i := 0) rfl)) all0)
  obtain ⟨T8, L8, vl8_0, z5_8, X8, st8, N8, Kq8, tk8_0, tk8_1⟩ := sg_1 w kk iw vw hN o1 p1 (1 : Int32) p1 (8 : Int32) z5_7 (5 : Int32) vl7_0 kc_o1 X7 hx hZ hw hby hml hown rfl O7 N7 gn_o1 tk7_0.lt tk7_0 tk7_1 (by decide : ¬ ((5 : Int32) < (1 : Int32))) (by decide : ¬ ((5 : Int32) < (0 : Int32))) (by decide : (5 : Int32) < (11 : Int32))
  have tk7_0_v8 := tk7_0.keep Kq8
  have O8 := O7.keep Kq8 (allS gn_o1 all0)
  have K8 : Keep h0 T8.heap [o1] := K7.trans Kq8 (allS (Or.inl (List.mem_of_getElem? (i := 0) rfl)) all0)
  obtain ⟨T9, L9, vl9_0, z5_9, X9, st9, N9, Kq9, tk9_0, tk9_1⟩ := sg_1 w kk iw vw hN o1 p1 (1 : Int32) p1 (8 : Int32) z5_8 (4 : Int32) vl8_0 kc_o1 X8 hx hZ hw hby hml hown rfl O8 N8 gn_o1 tk8_0.lt tk8_0 tk8_1 (by decide : ¬ ((4 : Int32) < (1 : Int32))) (by decide : ¬ ((4 : Int32) < (0 : Int32))) (by decide : (4 : Int32) < (11 : Int32))
  have tk8_0_v9 := tk8_0.keep Kq9
  have O9 := O8.keep Kq9 (allS gn_o1 all0)
  have K9 : Keep h0 T9.heap [o1] := K8.trans Kq9 (allS (Or.inl (List.mem_of_getElem? (i := 0) rfl)) all0)
  obtain ⟨T10, L10, vl10_0, z5_10, X10, st10, N10, Kq10, tk10_0, tk10_1⟩ := sg_1 w kk iw vw hN o1 p1 (1 : Int32) p1 (8 : Int32) z5_9 (3 : Int32) vl9_0 kc_o1 X9 hx hZ hw hby hml hown rfl O9 N9 gn_o1 tk9_0.lt tk9_0 tk9_1 (by decide : ¬ ((3 : Int32) < (1 : Int32))) (by decide : ¬ ((3 : Int32) < (0 : Int32))) (by decide : (3 : Int32) < (11 : Int32))
  have tk9_0_v10 := tk9_0.keep Kq10
  have O10 := O9.keep Kq10 (allS gn_o1 all0)
  have K10 : Keep h0 T10.heap [o1] := K9.trans Kq10 (allS (Or.inl (List.mem_of_getElem? (i := 0) rfl)) all0)
  obtain ⟨T11, L11, vl11_0, z5_11, X11, st11, N11, Kq11, tk11_0, tk11_1⟩ := sg_1 w kk iw vw hN o1 p1 (1 : Int32) p1 (8 : Int32) z5_10 (2 : Int32) vl10_0 kc_o1 X10 hx hZ hw hby hml hown rfl O10 N10 gn_o1 tk10_0.lt tk10_0 tk10_1 (by decide : ¬ ((2 : Int32) < (1 : Int32))) (by decide : ¬ ((2 : Int32) < (0 : Int32))) (by decide : (2 : Int32) < (11 : Int32))
  have tk10_0_v11 := tk10_0.keep Kq11
  have O11 := O10.keep Kq11 (allS gn_o1 all0)
  have K11 : Keep h0 T11.heap [o1] := K10.trans Kq11 (allS (Or.inl (List.mem_of_getElem? (i := 0) rfl)) all0)
  obtain ⟨T12, L12, vl12_0, z5_12, X12, st12, N12, Kq12, tk12_0, tk12_1⟩ := sg_1 w kk iw vw hN o1 p1 (1 : Int32) p1 (8 : Int32) z5_11 (1 : Int32) vl11_0 kc_o1 X11 hx hZ hw hby hml hown rfl O11 N11 gn_o1 tk11_0.lt tk11_0 tk11_1 (by decide : ¬ ((1 : Int32) < (1 : Int32))) (by decide : ¬ ((1 : Int32) < (0 : Int32))) (by decide : (1 : Int32) < (11 : Int32))
  have tk11_0_v12 := tk11_0.keep Kq12
  have O12 := O11.keep Kq12 (allS gn_o1 all0)
  have K12 : Keep h0 T12.heap [o1] := K11.trans Kq12 (allS (Or.inl (List.mem_of_getElem? (i := 0) rfl)) all0)
  refine ⟨T12, some (.int (8 : Int32)), _, _, _, by decide, by decide, X12, nofun, ⟨vl12_0, rfl, N12, K12, tk12_0, tk12_1⟩, fun fs hr => castTop (ef_0 m (.ref o1) rfl (.int p1) rfl) ?_⟩
  show Steps p.tables e below (s₁.setTop (mkF m 0 #[.val (.ref o1), .val (.int p1), .unset, .unset, .unset, .unset, .unset] [])) _
  refine XS.iloadN X0.here hx rfl (hb hby d1_0) rfl ?_
  refine XS.ifNo X0.here hx rfl (hb hby d1_1) rfl ((if0 _ _).trans (tlt hp0).2.1) ?_
  refine XS.aloadN X0.here hx rfl (hb hby d1_4) rfl rfl ?_
  refine XS.iconst X0.here hx rfl (hb hby d1_5) ?_
  refine XS.bipush X0.here hx rfl (hb hby d1_6) ?_
  refine st2 _ ?_
  refine XS.iconst X2.here hx rfl (hb hby d1_9) ?_
  refine XS.istoreN X2.here hx rfl (hb hby d1_10) rfl (l' := #[.val (.ref o1), .val (.int p1), .val (.int (1 : Int32)), .unset, .unset, .unset, .unset]) rfl ?_
  refine XS.goto X2.here hx rfl (pc0 := 11) (pc' := 33) rfl (hb hby d1_11) (by decide) (by decide) ?_
  refine XS.iloadN X2.here hx rfl (hb hby d1_33) rfl ?_
  show Steps p.tables e below (T2.setTop (mkF m 34 #[.val (.ref o1), .val (.int p1), .val (.int (1 : Int32)), .unset, .unset, .unset, .unset] [(.int p1)])) _
  refine XS.ifNo X2.here hx rfl (hb hby d1_34) rfl ((if0 _ _).trans (tlt hp0).2.1) ?_
  refine XS.iloadN X2.here hx rfl (hb hby d1_37) rfl ?_
  refine XS.goto X2.here hx rfl (pc0 := 38) (pc' := 43) rfl (hb hby d1_38) (by decide) (by decide) ?_
  refine XS.istoreN X2.here hx rfl (hb hby d1_43) rfl (l' := #[.val (.ref o1), .val (.int p1), .val (.int (1 : Int32)), .val (.int p1), .unset, .unset, .unset]) rfl ?_
  refine XS.iloadN X2.here hx rfl (hb hby d1_44) rfl ?_
  refine XS.iconst X2.here hx rfl (hb hby d1_45) ?_
  refine XS.iadd X2.here hx rfl (hb hby d1_46) rfl ?_
  show Steps p.tables e below (T2.setTop (mkF m 47 #[.val (.ref o1), .val (.int p1), .val (.int (1 : Int32)), .val (.int p1), .unset, .unset, .unset] [(.int ((1 : Int32) + (4 : Int32)))])) _
  rw [lf_0]
  refine XS.istore X2.here hx rfl (hb hby d1_47) rfl (l' := #[.val (.ref o1), .val (.int p1), .val (.int (1 : Int32)), .val (.int p1), .val (.int (5 : Int32)), .unset, .unset]) rfl ?_
  refine XS.iloadN X2.here hx rfl (hb hby d1_49) rfl ?_
  refine XS.sipush X2.here hx rfl (hb hby d1_50) ?_
  show Steps p.tables e below (T2.setTop (mkF m 53 #[.val (.ref o1), .val (.int p1), .val (.int (1 : Int32)), .val (.int p1), .val (.int (5 : Int32)), .unset, .unset] [(.int (10000 : Int32)), (.int p1)])) _
  refine XS.idiv X2.here hx rfl (hb hby d1_53) rfl (by decide : ¬ ((10000 : Int32) = (0 : Int32))) ?_
  refine XS.istore X2.here hx rfl (hb hby d1_54) rfl (l' := #[.val (.ref o1), .val (.int p1), .val (.int (1 : Int32)), .val (.int p1), .val (.int (5 : Int32)), .val (.int (p1 / (10000 : Int32))), .unset]) rfl ?_
  show Steps p.tables e below (T2.setTop (mkF m 56 #[.val (.ref o1), .val (.int p1), .val (.int (1 : Int32)), .val (.int p1), .val (.int (5 : Int32)), .val (.int (p1 / (10000 : Int32))), .unset] [])) _
  refine st3 _ ?_
  show Steps p.tables e below (T3.setTop (mkF m 56 #[.val (.ref o1), .val (.int p1), .val (.int (1 : Int32)), .val (.int p1), .val (.int ((5 : Int32) + (1 : Int32))), .val (.int ((p1 / (10000 : Int32)) / (10 : Int32))), .unset] [])) _
  rw [lf_12]
  show Steps p.tables e below (T3.setTop (mkF m 56 #[.val (.ref o1), .val (.int p1), .val (.int (1 : Int32)), .val (.int p1), .val (.int (6 : Int32)), .val (.int ((p1 / (10000 : Int32)) / (10 : Int32))), .unset] [])) _
  refine st4 _ ?_
  show Steps p.tables e below (T4.setTop (mkF m 56 #[.val (.ref o1), .val (.int p1), .val (.int (1 : Int32)), .val (.int p1), .val (.int ((6 : Int32) + (1 : Int32))), .val (.int (((p1 / (10000 : Int32)) / (10 : Int32)) / (10 : Int32))), .unset] [])) _
  rw [lf_19]
  show Steps p.tables e below (T4.setTop (mkF m 56 #[.val (.ref o1), .val (.int p1), .val (.int (1 : Int32)), .val (.int p1), .val (.int (7 : Int32)), .val (.int (((p1 / (10000 : Int32)) / (10 : Int32)) / (10 : Int32))), .unset] [])) _
  refine st5 _ ?_
  show Steps p.tables e below (T5.setTop (mkF m 56 #[.val (.ref o1), .val (.int p1), .val (.int (1 : Int32)), .val (.int p1), .val (.int ((7 : Int32) + (1 : Int32))), .val (.int ((((p1 / (10000 : Int32)) / (10 : Int32)) / (10 : Int32)) / (10 : Int32))), .unset] [])) _
  rw [lf_26]
  refine XS.iload X5.here hx rfl (hb hby d1_56) rfl ?_
  refine XS.ifYes X5.here hx rfl (pc0 := 58) (pc' := 74) rfl (hb hby d1_58) rfl ((if0 _ _).trans (teq hp4).1) (by decide) (by decide) ?_
  refine XS.iloadN X5.here hx rfl (hb hby d1_74) rfl ?_
  refine XS.istore X5.here hx rfl (hb hby d1_75) rfl (l' := #[.val (.ref o1), .val (.int p1), .val (.int (1 : Int32)), .val (.int p1), .val (.int (8 : Int32)), .val (.int p1), .unset]) rfl ?_
  refine XS.iload X5.here hx rfl (hb hby d1_77) rfl ?_
  refine XS.iconst X5.here hx rfl (hb hby d1_79) ?_
  refine XS.isub X5.here hx rfl (hb hby d1_80) rfl ?_
  show Steps p.tables e below (T5.setTop (mkF m 81 #[.val (.ref o1), .val (.int p1), .val (.int (1 : Int32)), .val (.int p1), .val (.int (8 : Int32)), .val (.int p1), .unset] [(.int ((8 : Int32) - (1 : Int32)))])) _
  rw [lf_27]
  refine XS.istore X5.here hx rfl (hb hby d1_81) rfl (l' := #[.val (.ref o1), .val (.int p1), .val (.int (1 : Int32)), .val (.int p1), .val (.int (8 : Int32)), .val (.int p1), .val (.int (7 : Int32))]) rfl ?_
  show Steps p.tables e below (T5.setTop (mkF m 83 #[.val (.ref o1), .val (.int p1), .val (.int (1 : Int32)), .val (.int p1), .val (.int (8 : Int32)), .val (.int p1), .val (.int (7 : Int32))] [])) _
  refine st6 _ ?_
  show Steps p.tables e below (T6.setTop (mkF m 83 #[.val (.ref o1), .val (.int p1), .val (.int (1 : Int32)), .val (.int p1), .val (.int (8 : Int32)), .val (.int z5_6), .val (.int ((7 : Int32) + (-1 : Int32)))] [])) _
  rw [lf_28]
  show Steps p.tables e below (T6.setTop (mkF m 83 #[.val (.ref o1), .val (.int p1), .val (.int (1 : Int32)), .val (.int p1), .val (.int (8 : Int32)), .val (.int z5_6), .val (.int (6 : Int32))] [])) _
  refine st7 _ ?_
  show Steps p.tables e below (T7.setTop (mkF m 83 #[.val (.ref o1), .val (.int p1), .val (.int (1 : Int32)), .val (.int p1), .val (.int (8 : Int32)), .val (.int z5_7), .val (.int ((6 : Int32) + (-1 : Int32)))] [])) _
  rw [lf_21]
  show Steps p.tables e below (T7.setTop (mkF m 83 #[.val (.ref o1), .val (.int p1), .val (.int (1 : Int32)), .val (.int p1), .val (.int (8 : Int32)), .val (.int z5_7), .val (.int (5 : Int32))] [])) _
  refine st8 _ ?_
  show Steps p.tables e below (T8.setTop (mkF m 83 #[.val (.ref o1), .val (.int p1), .val (.int (1 : Int32)), .val (.int p1), .val (.int (8 : Int32)), .val (.int z5_8), .val (.int ((5 : Int32) + (-1 : Int32)))] [])) _
  rw [lf_14]
  show Steps p.tables e below (T8.setTop (mkF m 83 #[.val (.ref o1), .val (.int p1), .val (.int (1 : Int32)), .val (.int p1), .val (.int (8 : Int32)), .val (.int z5_8), .val (.int (4 : Int32))] [])) _
  refine st9 _ ?_
  show Steps p.tables e below (T9.setTop (mkF m 83 #[.val (.ref o1), .val (.int p1), .val (.int (1 : Int32)), .val (.int p1), .val (.int (8 : Int32)), .val (.int z5_9), .val (.int ((4 : Int32) + (-1 : Int32)))] [])) _
  rw [lf_2]
  show Steps p.tables e below (T9.setTop (mkF m 83 #[.val (.ref o1), .val (.int p1), .val (.int (1 : Int32)), .val (.int p1), .val (.int (8 : Int32)), .val (.int z5_9), .val (.int (3 : Int32))] [])) _
  refine st10 _ ?_
  show Steps p.tables e below (T10.setTop (mkF m 83 #[.val (.ref o1), .val (.int p1), .val (.int (1 : Int32)), .val (.int p1), .val (.int (8 : Int32)), .val (.int z5_10), .val (.int ((3 : Int32) + (-1 : Int32)))] [])) _
  rw [lf_3]
  show Steps p.tables e below (T10.setTop (mkF m 83 #[.val (.ref o1), .val (.int p1), .val (.int (1 : Int32)), .val (.int p1), .val (.int (8 : Int32)), .val (.int z5_10), .val (.int (2 : Int32))] [])) _
  refine st11 _ ?_
  show Steps p.tables e below (T11.setTop (mkF m 83 #[.val (.ref o1), .val (.int p1), .val (.int (1 : Int32)), .val (.int p1), .val (.int (8 : Int32)), .val (.int z5_11), .val (.int ((2 : Int32) + (-1 : Int32)))] [])) _
  rw [lf_4]
  show Steps p.tables e below (T11.setTop (mkF m 83 #[.val (.ref o1), .val (.int p1), .val (.int (1 : Int32)), .val (.int p1), .val (.int (8 : Int32)), .val (.int z5_11), .val (.int (1 : Int32))] [])) _
  refine st12 _ ?_
  show Steps p.tables e below (T12.setTop (mkF m 83 #[.val (.ref o1), .val (.int p1), .val (.int (1 : Int32)), .val (.int p1), .val (.int (8 : Int32)), .val (.int z5_12), .val (.int ((1 : Int32) + (-1 : Int32)))] [])) _
  rw [lf_5]
  refine XS.iload X12.here hx rfl (hb hby d1_83) rfl ?_
  refine XS.iloadN X12.here hx rfl (hb hby d1_85) rfl ?_
  refine XS.icmpYes X12.here hx rfl (pc0 := 86) (pc' := 115) rfl (hb hby d1_86) rfl (tlt (by decide : (0 : Int32) < (1 : Int32))).1 (by decide) (by decide) ?_
  refine XS.iload X12.here hx rfl (hb hby d1_115) rfl ?_
  show Steps p.tables e below (T12.setTop (mkF m 117 #[.val (.ref o1), .val (.int p1), .val (.int (1 : Int32)), .val (.int p1), .val (.int (8 : Int32)), .val (.int z5_12), .val (.int (0 : Int32))] [(.int (8 : Int32))])) _
  exact retI X12 hx hret (hb hby d1_117) hr
theorem lf_29 : ((11 : Int32) ||| (8 : Int32)) = (11 : Int32) := by decide
set_option maxRecDepth 65536 in
set_option maxHeartbeats 40000000 in
theorem rm_48 (l : Launch) (Z : State) (a0 : Array Value) (hw : ∀ d ∈ tables_1, d.before a0 Z = true) (w : Nat → Addr) (kk : Nat → ClassId) (iw : Nat → Int32) (vw : Nat → Value) (hN : Wd Z w kk iw vw) (ws : List Jvm.Cond)  (h0 : Heap) (O0 : Old Z Z.heap.size h0) :
    Met l Z (⟨s_6, s_11, s_5⟩ : MethodName) (Jvm.Cond.code (⟨s_6, s_11, s_5⟩ : MethodName) jdk_41_method_13_code 4 (some .int)) ws (Rm 0 0 0 0) #[(.int (0 : Int32)), (.int (8 : Int32)), (.int (11 : Int32)), (vw 0)] h0 (OQ (some (.int (0 : Int32))) h0 Z.heap.size) := by
  have hN' := hN
  obtain ⟨hS0, hE0, hS1, hE1, hS2, hE2, hI0, hJ0, hR0, hRr0, hEq0⟩ := hN'
  refine own_body (plainFor_of_name pn_2) hisR ?_
  intro p e s m below meth c s₁ hx hby hml hown hnm hret X0 hZ e0
  have N0 := Fr.nil Z.heap.size
  refine ⟨s₁, some (.int (0 : Int32)), _, _, _, by decide, by decide, X0, nofun, (by rw [e0]; exact ⟨rfl, N0, rfl⟩), fun fs hr => castTop (ef_2 m (.int (0 : Int32)) rfl (.int (8 : Int32)) rfl (.int (11 : Int32)) rfl (vw 0) (own_cat hRr0)) ?_⟩
  show Steps p.tables e below (s₁.setTop (mkF m 0 #[.val (.int (0 : Int32)), .val (.int (8 : Int32)), .val (.int (11 : Int32)), .val (vw 0)] [])) _
  refine XS.iloadN X0.here hx rfl (hb hby d6_0) rfl ?_
  refine XS.iloadN X0.here hx rfl (hb hby d6_1) rfl ?_
  refine XS.ior X0.here hx rfl (hb hby d6_2) rfl ?_
  show Steps p.tables e below (s₁.setTop (mkF m 3 #[.val (.int (0 : Int32)), .val (.int (8 : Int32)), .val (.int (11 : Int32)), .val (vw 0)] [(.int ((11 : Int32) ||| (0 : Int32)))])) _
  rw [lf_6]
  refine XS.iloadN X0.here hx rfl (hb hby d6_3) rfl ?_
  refine XS.ior X0.here hx rfl (hb hby d6_4) rfl ?_
  show Steps p.tables e below (s₁.setTop (mkF m 5 #[.val (.int (0 : Int32)), .val (.int (8 : Int32)), .val (.int (11 : Int32)), .val (vw 0)] [(.int ((11 : Int32) ||| (8 : Int32)))])) _
  rw [lf_29]
  refine XS.ifNo X0.here hx rfl (hb hby d6_5) rfl ((if0 _ _).trans (flt (by decide : ¬ ((11 : Int32) < (0 : Int32)))).1) ?_
  refine XS.iloadN X0.here hx rfl (hb hby d6_8) rfl ?_
  refine XS.iloadN X0.here hx rfl (hb hby d6_9) rfl ?_
  refine XS.iloadN X0.here hx rfl (hb hby d6_10) rfl ?_
  refine XS.isub X0.here hx rfl (hb hby d6_11) rfl ?_
  show Steps p.tables e below (s₁.setTop (mkF m 12 #[.val (.int (0 : Int32)), .val (.int (8 : Int32)), .val (.int (11 : Int32)), .val (vw 0)] [(.int ((11 : Int32) - (0 : Int32))), (.int (8 : Int32))])) _
  rw [lf_8]
  show Steps p.tables e below (s₁.setTop (mkF m 12 #[.val (.int (0 : Int32)), .val (.int (8 : Int32)), .val (.int (11 : Int32)), .val (vw 0)] [(.int (11 : Int32)), (.int (8 : Int32))])) _
  refine XS.icmpYes X0.here hx rfl (pc0 := 12) (pc' := 23) rfl (hb hby d6_12) rfl (flt (by decide : ¬ ((11 : Int32) < (8 : Int32)))).2.2.2 (by decide) (by decide) ?_
  refine XS.iloadN X0.here hx rfl (hb hby d6_23) rfl ?_
  show Steps p.tables e below (s₁.setTop (mkF m 24 #[.val (.int (0 : Int32)), .val (.int (8 : Int32)), .val (.int (11 : Int32)), .val (vw 0)] [(.int (0 : Int32))])) _
  exact retI X0 hx hret (hb hby d6_24) hr
set_option maxRecDepth 65536 in
set_option maxHeartbeats 40000000 in
theorem rm_49 (l : Launch) (Z : State) (a0 : Array Value) (hw : ∀ d ∈ tables_1, d.before a0 Z = true) (w : Nat → Addr) (kk : Nat → ClassId) (iw : Nat → Int32) (vw : Nat → Value) (hN : Wd Z w kk iw vw) (ws : List Jvm.Cond)  (h0 : Heap) (O0 : Old Z Z.heap.size h0) :
    Met l Z (⟨s_0, s_10, "(III)I"⟩ : MethodName) (Jvm.Cond.code (⟨s_0, s_10, "(III)I"⟩ : MethodName) jdk_42_method_157_code 3 (some .int)) ws (Rm 1 0 0 15) #[(.int (0 : Int32)), (.int (8 : Int32)), (.int (11 : Int32))] h0 (OQ (some (.int (0 : Int32))) h0 Z.heap.size) := by
  have hN' := hN
  obtain ⟨hS0, hE0, hS1, hE1, hS2, hE2, hI0, hJ0, hR0, hRr0, hEq0⟩ := hN'
  refine own_body (plainFor_of_name pn_3) hisR ?_
  intro p e s m below meth c s₁ hx hby hml hown hnm hret X0 hZ e0
  have N0 := Fr.nil Z.heap.size
  obtain ⟨T1, X1, e1, st1⟩ := getS2 X0 hx hZ hown (host := "") (Or.inl (W hw 28 rfl)) Via.refl e0 (hR0.ext O0.2) (g := (mkF m 3 #[.val (.int (0 : Int32)), .val (.int (8 : Int32)), .val (.int (11 : Int32))] [(.int (11 : Int32)), (.int (8 : Int32)), (.int (0 : Int32))])) rfl (hb hby d5_3)
  obtain ⟨_, _, ⟨T2, L2, k2, n2⟩, -, X2, ⟨Lc2, hQ2, l2, y2, z2⟩, st2⟩ := Jvm.LawKit.callS X1 hx (y := (⟨s_6, s_11, s_5⟩ : MethodName)) hown (mvT hZ (W hw 30 rfl)) (mvT hZ (W hw 31 rfl)) (mvT hZ (W hw 29 rfl)) (mvT hZ (W hw 32 rfl)) (by decide) (backOf (W := 0) (rm_48 l Z a0 hw w kk iw vw hN [] h0 O0) hZ (W hw 32 rfl) (W hw 29 rfl) (by decide) (by decide)) (g := (mkF m 6 #[.val (.int (0 : Int32)), .val (.int (8 : Int32)), .val (.int (11 : Int32))] [(vw 0), (.int (11 : Int32)), (.int (8 : Int32)), (.int (0 : Int32))])) rfl (by rw [hml]; rfl) (argsL := [(.int (0 : Int32)), (.int (8 : Int32)), (.int (11 : Int32)), (vw 0)]) (rest := []) (lenOf pd_2 rfl) rfl (by show 2 * 0 + _ ≤ _; exact Nat.le_of_eq rfl) (hb hby d5_6) (fun _ _ => ⟨rfl, e1, (by decide : 0 + 0 ≤ _), (by decide : 0 + 0 ≤ _)⟩)
  dsimp only [Pt.U, Pt.locs, Pt.cells, Pt.slots] at X2 l2 y2 z2 st2 hQ2
  subst l2 y2 z2
  obtain ⟨rfl, N2q, e2⟩ := hQ2
  have N2 := Fr.app N0 N2q
  refine ⟨T2, some (.int (0 : Int32)), _, _, _, by decide, by decide, X2, nofun, (by rw [e2]; exact ⟨rfl, N2, rfl⟩), fun fs hr => castTop (ef_3 m (.int (0 : Int32)) rfl (.int (8 : Int32)) rfl (.int (11 : Int32)) rfl) ?_⟩
  show Steps p.tables e below (s₁.setTop (mkF m 0 #[.val (.int (0 : Int32)), .val (.int (8 : Int32)), .val (.int (11 : Int32))] [])) _
  refine XS.iloadN X0.here hx rfl (hb hby d5_0) rfl ?_
  refine XS.iloadN X0.here hx rfl (hb hby d5_1) rfl ?_
  refine XS.iloadN X0.here hx rfl (hb hby d5_2) rfl ?_
  refine st1 _ ?_
  refine st2 _ ?_
  show Steps p.tables e below (T2.setTop (mkF m 9 #[.val (.int (0 : Int32)), .val (.int (8 : Int32)), .val (.int (11 : Int32))] [(.int (0 : Int32))])) _
  exact retI X2 hx hret (hb hby d5_9) hr
theorem lf_30 : ((0 : Int32) + (8 : Int32)) = (8 : Int32) := by decide
set_option maxRecDepth 65536 in
set_option maxHeartbeats 40000000 in
theorem rm_50 (l : Launch) (Z : State) (a0 : Array Value) (hw : ∀ d ∈ tables_1, d.before a0 Z = true) (w : Nat → Addr) (kk : Nat → ClassId) (iw : Nat → Int32) (vw : Nat → Value) (hN : Wd Z w kk iw vw) (ws : List Jvm.Cond)  (h0 : Heap) (O0 : Old Z Z.heap.size h0) :
    Met l Z (⟨s_2, "checkLength", "(II)V"⟩ : MethodName) (Jvm.Cond.code (⟨s_2, "checkLength", "(II)V"⟩ : MethodName) jdk_65_method_131_code 2 none) ws (Rm 0 0 0 0) #[(.int (0 : Int32)), (.int (8 : Int32))] h0 (OQ (none) h0 Z.heap.size) := by
  have hN' := hN
  obtain ⟨hS0, hE0, hS1, hE1, hS2, hE2, hI0, hJ0, hR0, hRr0, hEq0⟩ := hN'
  refine own_body (plainFor_of_name pn_4) hisR ?_
  intro p e s m below meth c s₁ hx hby hml hown hnm hret X0 hZ e0
  have N0 := Fr.nil Z.heap.size
  refine ⟨s₁, none, _, _, _, by decide, by decide, X0, (fun _ => rfl), (by rw [e0]; exact ⟨rfl, N0, rfl⟩), fun fs hr => castTop (ef_4 m (.int (0 : Int32)) rfl (.int (8 : Int32)) rfl) ?_⟩
  show Steps p.tables e below (s₁.setTop (mkF m 0 #[.val (.int (0 : Int32)), .val (.int (8 : Int32))] [])) _
  refine XS.iloadN X0.here hx rfl (hb hby d10_0) rfl ?_
  refine XS.iloadN X0.here hx rfl (hb hby d10_1) rfl ?_
  refine XS.icmpYes X0.here hx rfl (pc0 := 2) (pc' := 37) rfl (hb hby d10_2) rfl (flt (by decide : ¬ ((8 : Int32) < (0 : Int32)))).2.1 (by decide) (by decide) ?_
  show Steps p.tables e below (s₁.setTop (mkF m 37 #[.val (.int (0 : Int32)), .val (.int (8 : Int32))] [])) _
  exact X0.returnOut hx hret (hb hby d10_37) hr
theorem lf_31 : ((8 : Int32) - (0 : Int32)) = (8 : Int32) := by decide
set_option maxRecDepth 65536 in
set_option maxHeartbeats 40000000 in
theorem rm_51 (l : Launch) (Z : State) (a0 : Array Value) (hw : ∀ d ∈ tables_1, d.before a0 Z = true) (w : Nat → Addr) (kk : Nat → ClassId) (iw : Nat → Int32) (vw : Nat → Value) (hN : Wd Z w kk iw vw) (ws : List Jvm.Cond)  (h0 : Heap) (O0 : Old Z Z.heap.size h0) :
    Met l Z (⟨s_14, "min", "(II)I"⟩ : MethodName) (Jvm.Cond.code (⟨s_14, "min", "(II)I"⟩ : MethodName) jdk_29_method_69_code 2 (some .int)) ws (Rm 0 0 0 0) #[(.int (11 : Int32)), (.int (8 : Int32))] h0 (OQ (some (.int (8 : Int32))) h0 Z.heap.size) := by
  have hN' := hN
  obtain ⟨hS0, hE0, hS1, hE1, hS2, hE2, hI0, hJ0, hR0, hRr0, hEq0⟩ := hN'
  refine own_body (Jvm.Free.JP.mathPlain rfl (by decide +kernel)) hisR ?_
  intro p e s m below meth c s₁ hx hby hml hown hnm hret X0 hZ e0
  have N0 := Fr.nil Z.heap.size
  refine ⟨s₁, some (.int (8 : Int32)), _, _, _, by decide, by decide, X0, nofun, (by rw [e0]; exact ⟨rfl, N0, rfl⟩), fun fs hr => castTop (ef_4 m (.int (11 : Int32)) rfl (.int (8 : Int32)) rfl) ?_⟩
  show Steps p.tables e below (s₁.setTop (mkF m 0 #[.val (.int (11 : Int32)), .val (.int (8 : Int32))] [])) _
  refine XS.iloadN X0.here hx rfl (hb hby d11_0) rfl ?_
  refine XS.iloadN X0.here hx rfl (hb hby d11_1) rfl ?_
  refine XS.icmpYes X0.here hx rfl (pc0 := 2) (pc' := 9) rfl (hb hby d11_2) rfl (tlt (by decide : (8 : Int32) < (11 : Int32))).2.2.1 (by decide) (by decide) ?_
  refine XS.iloadN X0.here hx rfl (hb hby d11_9) rfl ?_
  show Steps p.tables e below (s₁.setTop (mkF m 10 #[.val (.int (11 : Int32)), .val (.int (8 : Int32))] [(.int (8 : Int32))])) _
  exact retI X0 hx hret (hb hby d11_10) hr
def Qd_16 (Z : State) (w : Nat → Addr) (kk : Nat → ClassId) (iw : Nat → Int32) (vw : Nat → Value) (o1 : Addr) (vl_o1 : List Value) (kc_o1 : ClassId) (h0 : Heap) (n0 : Nat) (v : Option Value) (h : Heap) (L : List Loc) : Prop := ∃ (c1 : Addr) (kc1 : ClassId) (vx1 : List Value), v = some (.ref c1) ∧ Fr n0 L ∧ Keep h0 h [] ∧ h0.size ≤ c1 ∧ Exa Z h c1 "[B" ∧ Arv Z h c1 kc1 .byte (8 : Int32) vx1 (.int (0 : Int32))
set_option maxRecDepth 65536 in
set_option maxHeartbeats 40000000 in
theorem rm_52 (l : Launch) (Z : State) (a0 : Array Value) (hw : ∀ d ∈ tables_1, d.before a0 Z = true) (w : Nat → Addr) (kk : Nat → ClassId) (iw : Nat → Int32) (vw : Nat → Value) (hN : Wd Z w kk iw vw) (ws : List Jvm.Cond) (o1 : Addr) (vl_o1 : List Value) (kc_o1 : ClassId) (h0 : Heap) (O0 : Old Z Z.heap.size h0) (gn_o1 : Z.heap.size ≤ o1) (lt_o1 : o1 < h0.size) (E_o1 : Exa Z h0 o1 "[B") (V_o1 : Arv Z h0 o1 kc_o1 .byte (11 : Int32) vl_o1 (.int (0 : Int32))) :
    Met l Z (⟨s_2, s_13, "([BII)[B"⟩ : MethodName) (Jvm.Cond.code (⟨s_2, s_13, "([BII)[B"⟩ : MethodName) jdk_65_method_133_code 5 (some (.array .byte))) ws (Rm 1 1 8 18) #[(.ref o1), (.int (0 : Int32)), (.int (8 : Int32))] h0 (Qd_16 Z w kk iw vw o1 vl_o1 kc_o1 h0 Z.heap.size) := by
  have hN' := hN
  obtain ⟨hS0, hE0, hS1, hE1, hS2, hE2, hI0, hJ0, hR0, hRr0, hEq0⟩ := hN'
  refine own_body (plainFor_of_name pn_4) hisR ?_
  intro p e s m below meth c s₁ hx hby hml hown hnm hret X0 hZ e0
  have N0 := Fr.nil Z.heap.size
  have K0 : Keep h0 h0 [] := Keep.refl _ _
  obtain ⟨_, _, ⟨T1, L1, k1, n1⟩, -, X1, ⟨Lc1, hQ1, l1, y1, z1⟩, st1⟩ := Jvm.LawKit.callS X0 hx (y := (⟨s_2, "checkLength", "(II)V"⟩ : MethodName)) hown (mvT hZ (W hw 52 rfl)) (mvT hZ (W hw 53 rfl)) (mvT hZ (W hw 47 rfl)) (mvT hZ (W hw 54 rfl)) (by decide) (backOf (W := 0) (rm_50 l Z a0 hw w kk iw vw hN [] h0 O0) hZ (W hw 54 rfl) (W hw 47 rfl) (by decide) (by decide)) (g := (mkF m 2 #[.val (.ref o1), .val (.int (0 : Int32)), .val (.int (8 : Int32)), .unset, .unset] [(.int (8 : Int32)), (.int (0 : Int32))])) rfl (by rw [hml]; rfl) (argsL := [(.int (0 : Int32)), (.int (8 : Int32))]) (rest := []) (lenOf pd_4 rfl) rfl (by show 2 * 0 + _ ≤ _; exact Nat.le_of_eq rfl) (hb hby d9_2) (fun _ _ => ⟨rfl, e0, (by decide : 0 + 0 ≤ _), (by decide : 0 + 0 ≤ _)⟩)
  dsimp only [Pt.U, Pt.locs, Pt.cells, Pt.slots] at X1 l1 y1 z1 st1 hQ1
  subst l1 y1 z1
  obtain ⟨rfl, N1q, e1⟩ := hQ1
  have N1 := Fr.app N0 N1q
  obtain ⟨T2, h2, k2, X2, e2, E2, A2, AE2, st2⟩ := newPE X1 hx hZ (W hw 4 rfl) e1 (g := (mkF m 10 #[.val (.ref o1), .val (.int (0 : Int32)), .val (.int (8 : Int32)), .val (.int (8 : Int32)), .unset] [(.int (8 : Int32))])) rfl (hb hby d9_10) rfl (by decide) (cap := 8) (by decide) (by decide) (by decide) (by decide) (ad := "[B") rfl
  obtain ⟨b2, g2⟩ : ∃ z, z = h0.size := ⟨_, rfl⟩
  rw [← g2] at A2 st2 AE2
  have gn_b2 : Z.heap.size ≤ b2 := Nat.le_trans O0.2.1 (Nat.le_of_eq g2.symm)
  have sz_b2 : h0.size ≤ b2 := Nat.le_trans K0.1 (Nat.le_of_eq g2.symm)
  have ne_o1_b2 : o1 ≠ b2 := Nat.ne_of_lt (Nat.lt_of_lt_of_le E_o1.lt (Nat.le_of_eq g2.symm))
  have E_o1_v2 := E_o1.ext E2
  have V_o1_v2 := V_o1.ext E2
  have O2 := O0.ext E2
  have K2 := K0.ext E2
  have E_b2_v2 := AE2
  have V_b2_v2 : Arv Z h2 b2 k2 .byte (8 : Int32) [] (.int (0 : Int32)) := Arv.new A2 (by decide)
  obtain ⟨cl3, Ar3, q3, Sz3, Ng3, Hv3, Gv3⟩ := id V_o1_v2
  obtain ⟨_, _, ⟨T4, L4, k4, n4⟩, -, X4, ⟨Lc4, hQ4, l4, y4, z4⟩, st4⟩ := Jvm.LawKit.callS X2 hx (y := (⟨s_14, "min", "(II)I"⟩ : MethodName)) hown (mvT hZ (W hw 55 rfl)) (mvT hZ (W hw 56 rfl)) (mvT hZ (W hw 57 rfl)) (mvT hZ (W hw 58 rfl)) (by decide) (backOf (W := 4) (rm_51 l Z a0 hw w kk iw vw hN [] h2 O2) hZ (W hw 58 rfl) (W hw 57 rfl) (by decide) (by decide)) (g := (mkF m 24 #[.val (.ref o1), .val (.int (0 : Int32)), .val (.int (8 : Int32)), .val (.int (8 : Int32)), .val (.ref b2)] [(.int (8 : Int32)), (.int (11 : Int32)), (.int (0 : Int32)), (.ref b2), (.int (0 : Int32)), (.ref o1)])) rfl (by rw [hml]; rfl) (argsL := [(.int (11 : Int32)), (.int (8 : Int32))]) (rest := [(.int (0 : Int32)), (.ref b2), (.int (0 : Int32)), (.ref o1)]) (lenOf pd_5 rfl) rfl (by show 2 * 0 + _ ≤ _; exact Nat.le_of_eq rfl) (hb hby d9_24) (fun _ _ => ⟨rfl, e2, (by decide : 1 + 0 ≤ _), (by decide : 8 + 0 ≤ _)⟩)
  dsimp only [Pt.U, Pt.locs, Pt.cells, Pt.slots] at X4 l4 y4 z4 st4 hQ4
  subst l4 y4 z4
  obtain ⟨rfl, N4q, e4⟩ := hQ4
  have N4 := Fr.app N1 N4q
  have V_b2_v5 : Arv Z h2 b2 k2 .byte (8 : Int32) [(.int (0 : Int32)), (.int (0 : Int32)), (.int (0 : Int32)), (.int (0 : Int32)), (.int (0 : Int32)), (.int (0 : Int32)), (.int (0 : Int32)), (.int (0 : Int32))] (.int (0 : Int32)) := V_b2_v2.pad (pad_rep [] (.int (0 : Int32)) 8)
  obtain ⟨T6, h6, L6, X6, e6, N6, Kq6, Vc6, st6⟩ := cpA X4 hx hZ hown (W hw 59 rfl) (W hw 62 rfl) (W hw 60 rfl) (W hw 61 rfl) e4 V_o1_v2 V_b2_v5  (Or.inl ⟨rfl, rfl⟩) (by decide) (by decide) (by decide) (by decide) (by decide) rfl (by decide) N4 gn_b2 (g := (mkF m 27 #[.val (.ref o1), .val (.int (0 : Int32)), .val (.int (8 : Int32)), .val (.int (8 : Int32)), .val (.ref b2)] [(.int (8 : Int32)), (.int (0 : Int32)), (.ref b2), (.int (0 : Int32)), (.ref o1)])) rfl (by rw [hml]; rfl) rfl (hb hby d9_27) (by decide) (W := 0) (by show 2 * 0 + _ ≤ _; exact Nat.le_of_eq rfl) (by decide)
  have E_o1_v6 := E_o1_v2.keep Kq6
  have V_o1_v6 := V_o1_v2.keep Kq6 (ninS ne_o1_b2 nin0)
  have E_b2_v6 := E_b2_v2.keep Kq6
  have O6 := O2.keep Kq6 (allS gn_b2 all0)
  have K6 : Keep h0 h6 [] := K2.trans Kq6 (allS (Or.inr sz_b2) all0)
  obtain ⟨vl6, V_b2_v6⟩ : ∃ vs, Arv Z h6 b2 k2 .byte (8 : Int32) vs (.int (0 : Int32)) := ⟨_, Vc6⟩
  refine ⟨T6, some (.ref b2), _, _, _, by decide, by decide, X6, nofun, (by rw [e6]; exact ⟨b2, k2, vl6, rfl, N6, K6, sz_b2, E_b2_v6, V_b2_v6⟩), fun fs hr => castTop (ef_5 m (.ref o1) rfl (.int (0 : Int32)) rfl (.int (8 : Int32)) rfl) ?_⟩
  show Steps p.tables e below (s₁.setTop (mkF m 0 #[.val (.ref o1), .val (.int (0 : Int32)), .val (.int (8 : Int32)), .unset, .unset] [])) _
  refine XS.iloadN X0.here hx rfl (hb hby d9_0) rfl ?_
  refine XS.iloadN X0.here hx rfl (hb hby d9_1) rfl ?_
  refine st1 _ ?_
  refine XS.iloadN X1.here hx rfl (hb hby d9_5) rfl ?_
  refine XS.iloadN X1.here hx rfl (hb hby d9_6) rfl ?_
  refine XS.isub X1.here hx rfl (hb hby d9_7) rfl ?_
  show Steps p.tables e below (T1.setTop (mkF m 8 #[.val (.ref o1), .val (.int (0 : Int32)), .val (.int (8 : Int32)), .unset, .unset] [(.int ((8 : Int32) - (0 : Int32)))])) _
  rw [lf_31]
  refine XS.istoreN X1.here hx rfl (hb hby d9_8) rfl (l' := #[.val (.ref o1), .val (.int (0 : Int32)), .val (.int (8 : Int32)), .val (.int (8 : Int32)), .unset]) rfl ?_
  refine XS.iloadN X1.here hx rfl (hb hby d9_9) rfl ?_
  refine st2 _ ?_
  refine XS.astore X2.here hx rfl (hb hby d9_12) rfl rfl (l' := #[.val (.ref o1), .val (.int (0 : Int32)), .val (.int (8 : Int32)), .val (.int (8 : Int32)), .val (.ref b2)]) rfl ?_
  show Steps p.tables e below (T2.setTop (mkF m 14 #[.val (.ref o1), .val (.int (0 : Int32)), .val (.int (8 : Int32)), .val (.int (8 : Int32)), .val (.ref b2)] [])) _
  refine XS.aloadN X2.here hx rfl (hb hby d9_14) rfl rfl ?_
  refine XS.iloadN X2.here hx rfl (hb hby d9_15) rfl ?_
  refine XS.aload X2.here hx rfl (hb hby d9_16) rfl rfl ?_
  refine XS.iconst X2.here hx rfl (hb hby d9_18) ?_
  refine XS.aloadN X2.here hx rfl (hb hby d9_19) rfl rfl ?_
  refine X2.arraylength hx (by rw [e2]; exact Ar3.1) (State.isArrayOf_alike hZ.alike Ar3.2.1) (g := (mkF m 20 #[.val (.ref o1), .val (.int (0 : Int32)), .val (.int (8 : Int32)), .val (.int (8 : Int32)), .val (.ref b2)] [(.ref o1), (.int (0 : Int32)), (.ref b2), (.int (0 : Int32)), (.ref o1)])) rfl rfl (hb hby d9_20) _ ?_
  rw [len_of Sz3 Ng3]
  refine XS.iloadN X2.here hx rfl (hb hby d9_21) rfl ?_
  refine XS.isub X2.here hx rfl (hb hby d9_22) rfl ?_
  show Steps p.tables e below (T2.setTop (mkF m 23 #[.val (.ref o1), .val (.int (0 : Int32)), .val (.int (8 : Int32)), .val (.int (8 : Int32)), .val (.ref b2)] [(.int ((11 : Int32) - (0 : Int32))), (.int (0 : Int32)), (.ref b2), (.int (0 : Int32)), (.ref o1)])) _
  rw [lf_8]
  refine XS.iloadN X2.here hx rfl (hb hby d9_23) rfl ?_
  refine st4 _ ?_
  show Steps p.tables e below (T4.setTop (mkF m 27 #[.val (.ref o1), .val (.int (0 : Int32)), .val (.int (8 : Int32)), .val (.int (8 : Int32)), .val (.ref b2)] [(.int (8 : Int32)), (.int (0 : Int32)), (.ref b2), (.int (0 : Int32)), (.ref o1)])) _
  refine st6 _ ?_
  refine XS.aload X6.here hx rfl (hb hby d9_30) rfl rfl ?_
  show Steps p.tables e below (T6.setTop (mkF m 32 #[.val (.ref o1), .val (.int (0 : Int32)), .val (.int (8 : Int32)), .val (.int (8 : Int32)), .val (.ref b2)] [(.ref b2)])) _
  exact retOut X6 hx hret rfl (Or.inr (Or.inr (Or.inr (Or.inr ⟨rfl, rfl, rfl⟩)))) (hb hby d9_32) hr
set_option maxRecDepth 65536 in
set_option maxHeartbeats 40000000 in
theorem rm_53 (l : Launch) (Z : State) (a0 : Array Value) (hw : ∀ d ∈ tables_1, d.before a0 Z = true) (w : Nat → Addr) (kk : Nat → ClassId) (iw : Nat → Int32) (vw : Nat → Value) (hN : Wd Z w kk iw vw) (ws : List Jvm.Cond) (o1 : Addr) (vl_o1 : List Value) (kc_o1 : ClassId) (h0 : Heap) (O0 : Old Z Z.heap.size h0) (gn_o1 : Z.heap.size ≤ o1) (lt_o1 : o1 < h0.size) (E_o1 : Exa Z h0 o1 "[B") (V_o1 : Arv Z h0 o1 kc_o1 .byte (11 : Int32) vl_o1 (.int (0 : Int32))) :
    Met l Z (⟨s_2, "copyOfRange", "([BII)[B"⟩ : MethodName) (Jvm.Cond.code (⟨s_2, "copyOfRange", "([BII)[B"⟩ : MethodName) jdk_65_method_132_code 3 (some (.array .byte))) ws (Rm 2 1 8 34) #[(.ref o1), (.int (0 : Int32)), (.int (8 : Int32))] h0 (Qd_16 Z w kk iw vw o1 vl_o1 kc_o1 h0 Z.heap.size) := by
  have hN' := hN
  obtain ⟨hS0, hE0, hS1, hE1, hS2, hE2, hI0, hJ0, hR0, hRr0, hEq0⟩ := hN'
  refine own_body (plainFor_of_name pn_4) hisR ?_
  intro p e s m below meth c s₁ hx hby hml hown hnm hret X0 hZ e0
  have N0 := Fr.nil Z.heap.size
  have K0 : Keep h0 h0 [] := Keep.refl _ _
  obtain ⟨cl1, Ar1, q1, Sz1, Ng1, Hv1, Gv1⟩ := id V_o1
  obtain ⟨_, _, ⟨T2, L2, k2, n2⟩, -, X2, ⟨Lc2, hQ2, l2, y2, z2⟩, st2⟩ := Jvm.LawKit.callS X0 hx (y := (⟨s_2, s_13, "([BII)[B"⟩ : MethodName)) hown (mvT hZ (W hw 49 rfl)) (mvT hZ (W hw 50 rfl)) (mvT hZ (W hw 47 rfl)) (mvT hZ (W hw 51 rfl)) (by decide) (backOf (W := 0) (rm_52 l Z a0 hw w kk iw vw hN [] o1 vl_o1 kc_o1 h0 O0 gn_o1 E_o1.lt E_o1 V_o1) hZ (W hw 51 rfl) (W hw 47 rfl) (by decide) (by decide)) (g := (mkF m 13 #[.val (.ref o1), .val (.int (0 : Int32)), .val (.int (8 : Int32))] [(.int (8 : Int32)), (.int (0 : Int32)), (.ref o1)])) rfl (by rw [hml]; rfl) (argsL := [(.ref o1), (.int (0 : Int32)), (.int (8 : Int32))]) (rest := []) (lenOf pd_6 rfl) rfl (by show 2 * 0 + _ ≤ _; exact Nat.le_of_eq rfl) (hb hby d8_13) (fun _ _ => ⟨rfl, e0, (by decide : 0 + 1 ≤ _), (by decide : 0 + 8 ≤ _)⟩)
  dsimp only [Pt.U, Pt.locs, Pt.cells, Pt.slots] at X2 l2 y2 z2 st2 hQ2
  subst l2 y2 z2
  obtain ⟨b2_0, kb2_0, vl2_0, rfl, N2q, Kq2, tk2_0, tk2_1, tk2_2⟩ := hQ2
  have N2 := Fr.app N0 N2q
  have gn_b2_0 : Z.heap.size ≤ b2_0 := Nat.le_trans O0.2.1 tk2_0
  have sz_b2_0 : h0.size ≤ b2_0 := Nat.le_trans K0.1 tk2_0
  have ne_o1_b2_0 : o1 ≠ b2_0 := Nat.ne_of_lt (Nat.lt_of_lt_of_le E_o1.lt tk2_0)
  have E_o1_v2 := E_o1.keep Kq2
  have V_o1_v2 := V_o1.keep Kq2 nin0
  have O2 := O0.keep Kq2 all0
  have K2 : Keep h0 T2.heap [] := K0.trans Kq2 all0
  refine ⟨T2, some (.ref b2_0), _, _, _, by decide, by decide, X2, nofun, ⟨b2_0, kb2_0, vl2_0, rfl, N2, K2, sz_b2_0, tk2_1, tk2_2⟩, fun fs hr => castTop (ef_6 m (.ref o1) rfl (.int (0 : Int32)) rfl (.int (8 : Int32)) rfl) ?_⟩
  show Steps p.tables e below (s₁.setTop (mkF m 0 #[.val (.ref o1), .val (.int (0 : Int32)), .val (.int (8 : Int32))] [])) _
  refine XS.iloadN X0.here hx rfl (hb hby d8_0) rfl ?_
  refine XS.ifNo X0.here hx rfl (hb hby d8_1) rfl ((if0 _ _).trans (teq (by decide : (0 : Int32) = (0 : Int32))).2) ?_
  refine XS.iloadN X0.here hx rfl (hb hby d8_4) rfl ?_
  refine XS.aloadN X0.here hx rfl (hb hby d8_5) rfl rfl ?_
  refine X0.arraylength hx (by rw [e0]; exact Ar1.1) (State.isArrayOf_alike hZ.alike Ar1.2.1) (g := (mkF m 6 #[.val (.ref o1), .val (.int (0 : Int32)), .val (.int (8 : Int32))] [(.ref o1), (.int (8 : Int32))])) rfl rfl (hb hby d8_6) _ ?_
  rw [len_of Sz1 Ng1]
  refine XS.icmpNo X0.here hx rfl (hb hby d8_7) rfl (feq (by decide : ¬ ((8 : Int32) = (11 : Int32)))).1 ?_
  refine XS.aloadN X0.here hx rfl (hb hby d8_10) rfl rfl ?_
  refine XS.iloadN X0.here hx rfl (hb hby d8_11) rfl ?_
  refine XS.iloadN X0.here hx rfl (hb hby d8_12) rfl ?_
  refine st2 _ ?_
  show Steps p.tables e below (T2.setTop (mkF m 16 #[.val (.ref o1), .val (.int (0 : Int32)), .val (.int (8 : Int32))] [(.ref b2_0)])) _
  exact retOut X2 hx hret rfl (Or.inr (Or.inr (Or.inr (Or.inr ⟨rfl, rfl, rfl⟩)))) (hb hby d8_16) hr
def Qd_17 (Z : State) (w : Nat → Addr) (kk : Nat → ClassId) (iw : Nat → Int32) (vw : Nat → Value) (o1 : Addr) (o2 : Addr) (vl_o2 : List Value) (kc_o2 : ClassId) (h0 : Heap) (n0 : Nat) (v : Option Value) (h : Heap) (L : List Loc) : Prop := ∃ (c1 : Addr) (kc1 : ClassId) (vx1 : List Value), v = none ∧ Fr n0 L ∧ Keep h0 h [o1] ∧ h0.size ≤ c1 ∧ Exa Z h o1 s_0 ∧ Fld Z h o1 s_0 "value" "[B" (.ref c1) ∧ Fld Z h o1 s_0 "coder" "B" (.int (0 : Int32)) ∧ Exa Z h c1 "[B" ∧ Arv Z h c1 kc1 .byte (8 : Int32) vx1 (.int (0 : Int32))
set_option maxRecDepth 65536 in
set_option maxHeartbeats 40000000 in
theorem rm_54 (l : Launch) (Z : State) (a0 : Array Value) (hw : ∀ d ∈ tables_1, d.before a0 Z = true) (w : Nat → Addr) (kk : Nat → ClassId) (iw : Nat → Int32) (vw : Nat → Value) (hN : Wd Z w kk iw vw) (ws : List Jvm.Cond) (o1 : Addr) (o2 : Addr) (vl_o2 : List Value) (kc_o2 : ClassId) (h0 : Heap) (O0 : Old Z Z.heap.size h0) (gn_o1 : Z.heap.size ≤ o1) (lt_o1 : o1 < h0.size) (gn_o2 : Z.heap.size ≤ o2) (lt_o2 : o2 < h0.size) (E_o1 : Exa Z h0 o1 s_0) (F_o1_value : Fld Z h0 o1 s_0 "value" "[B" .null) (F_o1_coder : Fld Z h0 o1 s_0 "coder" "B" (.int (0 : Int32))) (E_o2 : Exa Z h0 o2 "[B") (V_o2 : Arv Z h0 o2 kc_o2 .byte (11 : Int32) vl_o2 (.int (0 : Int32))) (ne_o1_o2 : o1 ≠ o2) :
    Met l Z (⟨s_0, "<init>", s_7⟩ : MethodName) (Jvm.Cond.codeWith (⟨s_0, "<init>", s_7⟩ : MethodName) jdk_42_method_11_code 11 none [(800, 813, 816, 202)]) ws (Rm 3 1 8 49) #[(.ref o1), (.ref (w 0)), (.ref o2), (.int (0 : Int32)), (.int (8 : Int32))] h0 (Qd_17 Z w kk iw vw o1 o2 vl_o2 kc_o2 h0 Z.heap.size) := by
  have hN' := hN
  obtain ⟨hS0, hE0, hS1, hE1, hS2, hE2, hI0, hJ0, hR0, hRr0, hEq0⟩ := hN'
  refine own_body (plainFor_of_name pn_3) hisWith ?_
  intro p e s m below meth c s₁ hx hby hml hown hnm hret X0 hZ e0
  have N0 := Fr.nil Z.heap.size
  have K0 : Keep h0 h0 [o1] := Keep.refl _ _
  obtain ⟨T1, X1, e1, st1⟩ := initO X0 hx hZ hown (W hw 37 rfl) (W hw 38 rfl) (W hw 39 rfl) e0 (g := (mkF m 1 #[.val (.ref o1), .val (.ref (w 0)), .val (.ref o2), .val (.int (0 : Int32)), .val (.int (8 : Int32)), .unset, .unset, .unset, .unset, .unset, .unset] [(.ref o1)])) rfl (by rw [hml]; rfl) rfl (hb hby d7_1) (by decide) (W := 0) (by show 2 * 0 + _ ≤ _; exact Nat.le_of_eq rfl) (by decide)
  obtain ⟨T2, X2, e2, st2⟩ := getS2 X1 hx hZ hown (host := "") (Or.inl (W hw 40 rfl)) Via.refl e1 (hS1.ext O0.2) (g := (mkF m 31 #[.val (.ref o1), .val (.ref (w 0)), .val (.ref o2), .val (.int (0 : Int32)), .val (.int (8 : Int32)), .unset, .unset, .unset, .unset, .unset, .unset] [(.ref (w 0))])) rfl (hb hby d7_31)
  obtain ⟨T3, X3, e3, st3⟩ := getS2 X2 hx hZ hown (host := "") (Or.inl (W hw 42 rfl)) Via.refl e2 (hS2.ext O0.2) (g := (mkF m 347 #[.val (.ref o1), .val (.ref (w 0)), .val (.ref o2), .val (.int (0 : Int32)), .val (.int (8 : Int32)), .unset, .unset, .unset, .unset, .unset, .unset] [(.ref (w 0))])) rfl (hb hby d7_347)
  obtain ⟨T4, X4, e4, st4⟩ := getS2 X3 hx hZ hown (host := "") (Or.inl (W hw 44 rfl)) Via.refl e3 (hI0.ext O0.2) (g := (mkF m 353 #[.val (.ref o1), .val (.ref (w 0)), .val (.ref o2), .val (.int (0 : Int32)), .val (.int (8 : Int32)), .unset, .unset, .unset, .unset, .unset, .unset] [])) rfl (hb hby d7_353)
  obtain ⟨_, _, ⟨T5, L5, k5, n5⟩, -, X5, ⟨Lc5, hQ5, l5, y5, z5⟩, st5⟩ := Jvm.LawKit.callS X4 hx (y := (⟨s_2, "copyOfRange", "([BII)[B"⟩ : MethodName)) hown (mvT hZ (W hw 45 rfl)) (mvT hZ (W hw 46 rfl)) (mvT hZ (W hw 47 rfl)) (mvT hZ (W hw 48 rfl)) (by decide) (backOf (W := 1) (rm_53 l Z a0 hw w kk iw vw hN [] o2 vl_o2 kc_o2 h0 O0 gn_o2 E_o2.lt E_o2 V_o2) hZ (W hw 48 rfl) (W hw 47 rfl) (by decide) (by decide)) (g := (mkF m 366 #[.val (.ref o1), .val (.ref (w 0)), .val (.ref o2), .val (.int (0 : Int32)), .val (.int (8 : Int32)), .unset, .unset, .unset, .unset, .unset, .unset] [(.int (8 : Int32)), (.int (0 : Int32)), (.ref o2), (.ref o1)])) rfl (by rw [hml]; rfl) (argsL := [(.ref o2), (.int (0 : Int32)), (.int (8 : Int32))]) (rest := [(.ref o1)]) (lenOf pd_6 rfl) rfl (by show 2 * 0 + _ ≤ _; exact Nat.le_of_eq rfl) (hb hby d7_366) (fun _ _ => ⟨rfl, e4, (by decide : 0 + 1 ≤ _), (by decide : 0 + 8 ≤ _)⟩)
  dsimp only [Pt.U, Pt.locs, Pt.cells, Pt.slots] at X5 l5 y5 z5 st5 hQ5
  subst l5 y5 z5
  obtain ⟨b5_0, kb5_0, vl5_0, rfl, N5q, Kq5, tk5_0, tk5_1, tk5_2⟩ := hQ5
  have N5 := Fr.app N0 N5q
  have gn_b5_0 : Z.heap.size ≤ b5_0 := Nat.le_trans O0.2.1 tk5_0
  have sz_b5_0 : h0.size ≤ b5_0 := Nat.le_trans K0.1 tk5_0
  have ne_o2_b5_0 : o2 ≠ b5_0 := Nat.ne_of_lt (Nat.lt_of_lt_of_le E_o2.lt tk5_0)
  have ne_o1_b5_0 : o1 ≠ b5_0 := Nat.ne_of_lt (Nat.lt_of_lt_of_le E_o1.lt tk5_0)
  have E_o1_v5 := E_o1.keep Kq5
  have F_o1_value_v5 := F_o1_value.keep Kq5 nin0
  have F_o1_coder_v5 := F_o1_coder.keep Kq5 nin0
  have E_o2_v5 := E_o2.keep Kq5
  have V_o2_v5 := V_o2.keep Kq5 nin0
  have O5 := O0.keep Kq5 all0
  have K5 : Keep h0 T5.heap [o1] := K0.trans Kq5 all0
  obtain ⟨T6, h6, X6, e6, W6, st6⟩ := putF X5 hx hZ hown (host := "") (Or.inl (W hw 63 rfl)) Via.refl rfl F_o1_value_v5 E_o1_v5 (Or.inr ⟨(W hw 64 rfl), rfl, hnm⟩) (W hw 12 rfl) (ty := (.array .byte)) (by decide) rfl rfl (g := (mkF m 369 #[.val (.ref o1), .val (.ref (w 0)), .val (.ref o2), .val (.int (0 : Int32)), .val (.int (8 : Int32)), .unset, .unset, .unset, .unset, .unset, .unset] [(.ref b5_0), (.ref o1)])) rfl rfl (hb hby d7_369)
  have F_o1_value_v6 := F_o1_value_v5.same W6
  have N6 := Fr.snoc X6 N5 gn_o1
  have E_o1_v6 := E_o1_v5.wr W6
  have F_o1_coder_v6 := F_o1_coder_v5.other W6 (Or.inr (sn_0 hw))
  have E_o2_v6 := E_o2_v5.wr W6
  have V_o2_v6 := V_o2_v5.other W6 (Ne.symm ne_o1_o2)
  have tk5_1_v6 := tk5_1.wr W6
  have tk5_2_v6 := tk5_2.other W6 (Ne.symm ne_o1_b5_0)
  have O6 := O5.wr W6 gn_o1
  have K6 : Keep h0 h6 [o1] := K5.wr W6 (Or.inl (List.mem_of_getElem? (i := 0) rfl))
  obtain ⟨T7, h7, X7, e7, W7, st7⟩ := putFN X6 hx hZ hown (W hw 65 rfl) Via.refl e6 F_o1_coder_v6 E_o1_v6 (Or.inr ⟨(W hw 66 rfl), rfl, hnm⟩) (W hw 12 rfl) (ty := .byte) (v' := (.int (0 : Int32))) (by decide) rfl rfl (g := (mkF m 374 #[.val (.ref o1), .val (.ref (w 0)), .val (.ref o2), .val (.int (0 : Int32)), .val (.int (8 : Int32)), .unset, .unset, .unset, .unset, .unset, .unset] [(.int (0 : Int32)), (.ref o1)])) rfl rfl (hb hby d7_374)
  have F_o1_coder_v7 := F_o1_coder_v6.same W7
  have N7 := Fr.snoc X7 N6 gn_o1
  have E_o1_v7 := E_o1_v6.wr W7
  have F_o1_value_v7 := F_o1_value_v6.other W7 (Or.inr (sn_1 hw))
  have E_o2_v7 := E_o2_v6.wr W7
  have V_o2_v7 := V_o2_v6.other W7 (Ne.symm ne_o1_o2)
  have tk5_1_v7 := tk5_1_v6.wr W7
  have tk5_2_v7 := tk5_2_v6.other W7 (Ne.symm ne_o1_b5_0)
  have O7 := O6.wr W7 gn_o1
  have K7 : Keep h0 h7 [o1] := K6.wr W7 (Or.inl (List.mem_of_getElem? (i := 0) rfl))
  refine ⟨T7, none, _, _, _, by decide, by decide, X7, (fun _ => rfl), (by rw [e7]; exact ⟨b5_0, kb5_0, vl5_0, rfl, N7, K7, sz_b5_0, E_o1_v7, F_o1_value_v7, F_o1_coder_v7, tk5_1_v7, tk5_2_v7⟩), fun fs hr => castTop (ef_7 m (.ref o1) rfl (.ref (w 0)) rfl (.ref o2) rfl (.int (0 : Int32)) rfl (.int (8 : Int32)) rfl) ?_⟩
  show Steps p.tables e below (s₁.setTop (mkF m 0 #[.val (.ref o1), .val (.ref (w 0)), .val (.ref o2), .val (.int (0 : Int32)), .val (.int (8 : Int32)), .unset, .unset, .unset, .unset, .unset, .unset] [])) _
  refine XS.aloadN X0.here hx rfl (hb hby d7_0) rfl rfl ?_
  refine st1 _ ?_
  refine XS.iload X1.here hx rfl (hb hby d7_4) rfl ?_
  refine XS.ifYes X1.here hx rfl (pc0 := 6) (pc' := 30) rfl (hb hby d7_6) rfl ((if0 _ _).trans (feq (by decide : ¬ ((8 : Int32) = (0 : Int32)))).2) (by decide) (by decide) ?_
  refine XS.aloadN X1.here hx rfl (hb hby d7_30) rfl rfl ?_
  refine st2 _ ?_
  refine Jvm.RoadKit.acmp (g := (mkF m 34 #[.val (.ref o1), .val (.ref (w 0)), .val (.ref o2), .val (.int (0 : Int32)), .val (.int (8 : Int32)), .unset, .unset, .unset, .unset, .unset, .unset] [(.ref (w 1)), (.ref (w 0))])) X2 hx rfl rfl rfl (pc0 := 34) (pc' := 346) (same := false) rfl (hb hby d7_34) rfl (decide_eq_false fun q => (ne_exa hE0 hE1 (by decide)) (Value.ref.inj q)) (by decide) (by decide) ?_
  refine XS.aloadN X2.here hx rfl (hb hby d7_346) rfl rfl ?_
  refine st3 _ ?_
  refine Jvm.RoadKit.acmp (g := (mkF m 350 #[.val (.ref o1), .val (.ref (w 0)), .val (.ref o2), .val (.int (0 : Int32)), .val (.int (8 : Int32)), .unset, .unset, .unset, .unset, .unset, .unset] [(.ref (w 2)), (.ref (w 0))])) X3 hx rfl rfl rfl (pc0 := 350) (pc' := 353) (same := true) rfl (hb hby d7_350) rfl (decide_eq_true (congrArg Value.ref hEq0)) (by decide) (by decide) ?_
  show Steps p.tables e below (T3.setTop (mkF m 353 #[.val (.ref o1), .val (.ref (w 0)), .val (.ref o2), .val (.int (0 : Int32)), .val (.int (8 : Int32)), .unset, .unset, .unset, .unset, .unset, .unset] [])) _
  refine st4 _ ?_
  refine XS.ifNo X4.here hx rfl (hb hby d7_356) rfl ((if0 _ _).trans (feq hJ0).1) ?_
  refine XS.aloadN X4.here hx rfl (hb hby d7_359) rfl rfl ?_
  refine XS.aloadN X4.here hx rfl (hb hby d7_360) rfl rfl ?_
  refine XS.iloadN X4.here hx rfl (hb hby d7_361) rfl ?_
  refine XS.iloadN X4.here hx rfl (hb hby d7_362) rfl ?_
  refine XS.iload X4.here hx rfl (hb hby d7_363) rfl ?_
  refine XS.iadd X4.here hx rfl (hb hby d7_365) rfl ?_
  show Steps p.tables e below (T4.setTop (mkF m 366 #[.val (.ref o1), .val (.ref (w 0)), .val (.ref o2), .val (.int (0 : Int32)), .val (.int (8 : Int32)), .unset, .unset, .unset, .unset, .unset, .unset] [(.int ((0 : Int32) + (8 : Int32))), (.int (0 : Int32)), (.ref o2), (.ref o1)])) _
  rw [lf_30]
  refine st5 _ ?_
  refine st6 _ ?_
  show Steps p.tables e below (T6.setTop (mkF m 372 #[.val (.ref o1), .val (.ref (w 0)), .val (.ref o2), .val (.int (0 : Int32)), .val (.int (8 : Int32)), .unset, .unset, .unset, .unset, .unset, .unset] [])) _
  refine XS.aloadN X6.here hx rfl (hb hby d7_372) rfl rfl ?_
  refine XS.iconst X6.here hx rfl (hb hby d7_373) ?_
  refine st7 _ ?_
  refine XS.goto X7.here hx rfl (pc0 := 377) (pc' := 879) rfl (hb hby d7_377) (by decide) (by decide) ?_
  show Steps p.tables e below (T7.setTop (mkF m 879 #[.val (.ref o1), .val (.ref (w 0)), .val (.ref o2), .val (.int (0 : Int32)), .val (.int (8 : Int32)), .unset, .unset, .unset, .unset, .unset, .unset] [])) _
  exact X7.returnOut hx hret (hb hby d7_879) hr
set_option maxRecDepth 65536 in
set_option maxHeartbeats 40000000 in
theorem rm_55 (l : Launch) (Z : State) (a0 : Array Value) (hw : ∀ d ∈ tables_1, d.before a0 Z = true) (w : Nat → Addr) (kk : Nat → ClassId) (iw : Nat → Int32) (vw : Nat → Value) (hN : Wd Z w kk iw vw) (ws : List Jvm.Cond) (o1 : Addr) (o2 : Addr) (vl_o2 : List Value) (kc_o2 : ClassId) (h0 : Heap) (O0 : Old Z Z.heap.size h0) (gn_o1 : Z.heap.size ≤ o1) (lt_o1 : o1 < h0.size) (gn_o2 : Z.heap.size ≤ o2) (lt_o2 : o2 < h0.size) (E_o1 : Exa Z h0 o1 s_0) (F_o1_value : Fld Z h0 o1 s_0 "value" "[B" .null) (F_o1_coder : Fld Z h0 o1 s_0 "coder" "B" (.int (0 : Int32))) (E_o2 : Exa Z h0 o2 "[B") (V_o2 : Arv Z h0 o2 kc_o2 .byte (11 : Int32) vl_o2 (.int (0 : Int32))) (ne_o1_o2 : o1 ≠ o2) :
    Met l Z (⟨s_0, "<init>", s_8⟩ : MethodName) (Jvm.Cond.code (⟨s_0, "<init>", s_8⟩ : MethodName) jdk_42_method_10_code 5 none) ws (Rm 4 1 8 71) #[(.ref o1), (.ref o2), (.int (0 : Int32)), (.int (8 : Int32)), (.ref (w 0))] h0 (Qd_17 Z w kk iw vw o1 o2 vl_o2 kc_o2 h0 Z.heap.size) := by
  have hN' := hN
  obtain ⟨hS0, hE0, hS1, hE1, hS2, hE2, hI0, hJ0, hR0, hRr0, hEq0⟩ := hN'
  refine own_body (plainFor_of_name pn_3) hisR ?_
  intro p e s m below meth c s₁ hx hby hml hown hnm hret X0 hZ e0
  have N0 := Fr.nil Z.heap.size
  have K0 : Keep h0 h0 [o1] := Keep.refl _ _
  obtain ⟨_, _, ⟨T1, L1, k1, n1⟩, -, X1, ⟨Lc1, hQ1, l1, y1, z1⟩, st1⟩ := Jvm.LawKit.callS X0 hx (y := (⟨s_16, s_17, s_12⟩ : MethodName)) hown (mvT hZ (W hw 19 rfl)) (mvT hZ (W hw 20 rfl)) (mvT hZ (W hw 21 rfl)) (mvT hZ (W hw 22 rfl)) (by decide) (backOf (W := 1) (rm_3 l Z a0 hw w kk iw vw hN [] h0 O0) hZ (W hw 22 rfl) (W hw 21 rfl) (by decide) (by decide)) (g := (mkF m 3 #[.val (.ref o1), .val (.ref o2), .val (.int (0 : Int32)), .val (.int (8 : Int32)), .val (.ref (w 0))] [(.ref (w 0)), (.ref o1)])) rfl (by rw [hml]; rfl) (argsL := [(.ref (w 0))]) (rest := [(.ref o1)]) (lenOf pd_1 rfl) rfl (by show 2 * 0 + _ ≤ _; exact Nat.le_of_eq rfl) (hb hby d3_3) (fun _ _ => ⟨rfl, e0, (by decide : 0 + 0 ≤ _), (by decide : 0 + 0 ≤ _)⟩)
  dsimp only [Pt.U, Pt.locs, Pt.cells, Pt.slots] at X1 l1 y1 z1 st1 hQ1
  subst l1 y1 z1
  obtain ⟨rfl, N1q, e1⟩ := hQ1
  have N1 := Fr.app N0 N1q
  obtain ⟨T2, X2, e2, st2⟩ := castY X1 hx hZ hown (W hw 23 rfl) e1 (Ins.of_exa (hE0.ext O0.2) (W hw 24 rfl)) (g := (mkF m 6 #[.val (.ref o1), .val (.ref o2), .val (.int (0 : Int32)), .val (.int (8 : Int32)), .val (.ref (w 0))] [(.ref (w 0)), (.ref o1)])) rfl rfl (hb hby d3_6)
  obtain ⟨cl3, Ar3, q3, Sz3, Ng3, Hv3, Gv3⟩ := id V_o2
  obtain ⟨_, _, ⟨T4, L4, k4, n4⟩, -, X4, ⟨Lc4, hQ4, l4, y4, z4⟩, st4⟩ := Jvm.LawKit.callS X2 hx (y := (⟨s_0, s_10, "(III)I"⟩ : MethodName)) hown (mvT hZ (W hw 25 rfl)) (mvT hZ (W hw 26 rfl)) (mvT hZ (W hw 13 rfl)) (mvT hZ (W hw 27 rfl)) (by decide) (backOf (W := 3) (rm_49 l Z a0 hw w kk iw vw hN [] h0 O0) hZ (W hw 27 rfl) (W hw 13 rfl) (by decide) (by decide)) (g := (mkF m 14 #[.val (.ref o1), .val (.ref o2), .val (.int (0 : Int32)), .val (.int (8 : Int32)), .val (.ref (w 0))] [(.int (11 : Int32)), (.int (8 : Int32)), (.int (0 : Int32)), (.ref o2), (.ref (w 0)), (.ref o1)])) rfl (by rw [hml]; rfl) (argsL := [(.int (0 : Int32)), (.int (8 : Int32)), (.int (11 : Int32))]) (rest := [(.ref o2), (.ref (w 0)), (.ref o1)]) (lenOf pd_3 rfl) rfl (by show 2 * 0 + _ ≤ _; exact Nat.le_of_eq rfl) (hb hby d3_14) (fun _ _ => ⟨rfl, e2, (by decide : 0 + 0 ≤ _), (by decide : 0 + 0 ≤ _)⟩)
  dsimp only [Pt.U, Pt.locs, Pt.cells, Pt.slots] at X4 l4 y4 z4 st4 hQ4
  subst l4 y4 z4
  obtain ⟨rfl, N4q, e4⟩ := hQ4
  have N4 := Fr.app N1 N4q
  obtain ⟨_, _, ⟨T5, L5, k5, n5⟩, -, X5, ⟨Lc5, hQ5, l5, y5, z5⟩, st5⟩ := X4.specialBackH hx (y := (⟨s_0, "<init>", s_7⟩ : MethodName)) rfl hown (mvT hZ (W hw 33 rfl)) (mvT hZ (W hw 34 rfl)) (mvT hZ (W hw 36 rfl)) (by decide) (backOfWith (W := 0) (rm_54 l Z a0 hw w kk iw vw hN [] o1 o2 vl_o2 kc_o2 h0 O0 gn_o1 E_o1.lt gn_o2 E_o2.lt E_o1 F_o1_value F_o1_coder E_o2 V_o2 ne_o1_o2) hZ (W hw 36 rfl) (W hw 13 rfl) (by decide) (by decide)) (g := (mkF m 18 #[.val (.ref o1), .val (.ref o2), .val (.int (0 : Int32)), .val (.int (8 : Int32)), .val (.ref (w 0))] [(.int (8 : Int32)), (.int (0 : Int32)), (.ref o2), (.ref (w 0)), (.ref o1)])) rfl (by rw [hml]; rfl) (Steps.refl _) (a := o1) (argsL := [(.ref (w 0)), (.ref o2), (.int (0 : Int32)), (.int (8 : Int32))]) (rest := []) (lenOf pd_7 rfl) rfl (by show 2 * 0 + _ ≤ _; exact Nat.le_of_eq rfl) (hb hby d3_18) (fun _ _ => ⟨rfl, e4, (by decide : 0 + 1 ≤ _), (by decide : 0 + 8 ≤ _)⟩)
  dsimp only [Pt.U, Pt.locs, Pt.cells, Pt.slots] at X5 l5 y5 z5 st5 hQ5
  subst l5 y5 z5
  obtain ⟨b5_0, kb5_0, vl5_0, rfl, N5q, Kq5, tk5_0, tk5_1, tk5_2, tk5_3, tk5_4, tk5_5⟩ := hQ5
  have N5 := Fr.app N4 N5q
  have gn_b5_0 : Z.heap.size ≤ b5_0 := Nat.le_trans O0.2.1 tk5_0
  have sz_b5_0 : h0.size ≤ b5_0 := Nat.le_trans K0.1 tk5_0
  have ne_o2_b5_0 : o2 ≠ b5_0 := Nat.ne_of_lt (Nat.lt_of_lt_of_le E_o2.lt tk5_0)
  have ne_o1_b5_0 : o1 ≠ b5_0 := Nat.ne_of_lt (Nat.lt_of_lt_of_le E_o1.lt tk5_0)
  have E_o1_v5 := E_o1.keep Kq5
  have E_o2_v5 := E_o2.keep Kq5
  have V_o2_v5 := V_o2.keep Kq5 (ninS (Ne.symm ne_o1_o2) nin0)
  have O5 := O0.keep Kq5 (allS gn_o1 all0)
  have K5 : Keep h0 T5.heap [o1] := K0.trans Kq5 (allS (Or.inl (List.mem_of_getElem? (i := 0) rfl)) all0)
  refine ⟨T5, none, _, _, _, by decide, by decide, X5, (fun _ => rfl), ⟨b5_0, kb5_0, vl5_0, rfl, N5, K5, sz_b5_0, tk5_1, tk5_2, tk5_3, tk5_4, tk5_5⟩, fun fs hr => castTop (ef_8 m (.ref o1) rfl (.ref o2) rfl (.int (0 : Int32)) rfl (.int (8 : Int32)) rfl (.ref (w 0)) rfl) ?_⟩
  show Steps p.tables e below (s₁.setTop (mkF m 0 #[.val (.ref o1), .val (.ref o2), .val (.int (0 : Int32)), .val (.int (8 : Int32)), .val (.ref (w 0))] [])) _
  refine XS.aloadN X0.here hx rfl (hb hby d3_0) rfl rfl ?_
  refine XS.aload X0.here hx rfl (hb hby d3_1) rfl rfl ?_
  refine st1 _ ?_
  refine st2 _ ?_
  refine XS.aloadN X2.here hx rfl (hb hby d3_9) rfl rfl ?_
  refine XS.iloadN X2.here hx rfl (hb hby d3_10) rfl ?_
  refine XS.iloadN X2.here hx rfl (hb hby d3_11) rfl ?_
  refine XS.aloadN X2.here hx rfl (hb hby d3_12) rfl rfl ?_
  refine X2.arraylength hx (by rw [e2]; exact Ar3.1) (State.isArrayOf_alike hZ.alike Ar3.2.1) (g := (mkF m 13 #[.val (.ref o1), .val (.ref o2), .val (.int (0 : Int32)), .val (.int (8 : Int32)), .val (.ref (w 0))] [(.ref o2), (.int (8 : Int32)), (.int (0 : Int32)), (.ref o2), (.ref (w 0)), (.ref o1)])) rfl rfl (hb hby d3_13) _ ?_
  rw [len_of Sz3 Ng3]
  refine st4 _ ?_
  show Steps p.tables e below (T4.setTop (mkF m 17 #[.val (.ref o1), .val (.ref o2), .val (.int (0 : Int32)), .val (.int (8 : Int32)), .val (.ref (w 0))] [(.int (0 : Int32)), (.ref o2), (.ref (w 0)), (.ref o1)])) _
  refine XS.iloadN X4.here hx rfl (hb hby d3_17) rfl ?_
  refine st5.trans ?_
  show Steps p.tables e below (T5.setTop (mkF m 21 #[.val (.ref o1), .val (.ref o2), .val (.int (0 : Int32)), .val (.int (8 : Int32)), .val (.ref (w 0))] [])) _
  exact X5.returnOut hx hret (hb hby d3_21) hr
def Qd_18 (Z : State) (w : Nat → Addr) (kk : Nat → ClassId) (iw : Nat → Int32) (vw : Nat → Value) (o1 : Addr) (vl_o1 : List Value) (kc_o1 : ClassId) (h0 : Heap) (n0 : Nat) (v : Option Value) (h : Heap) (L : List Loc) : Prop := ∃ (c1 : Addr) (c2 : Addr) (kc1 : ClassId) (vx1 : List Value), v = some (.ref c1) ∧ Fr n0 L ∧ Keep h0 h [] ∧ h0.size ≤ c1 ∧ h0.size ≤ c2 ∧ c1 ≠ c2 ∧ Exa Z h c1 s_0 ∧ Fld Z h c1 s_0 "value" "[B" (.ref c2) ∧ Fld Z h c1 s_0 "coder" "B" (.int (0 : Int32)) ∧ Exa Z h c2 "[B" ∧ Arv Z h c2 kc1 .byte (8 : Int32) vx1 (.int (0 : Int32))
set_option maxRecDepth 65536 in
set_option maxHeartbeats 40000000 in
theorem rm_56 (l : Launch) (Z : State) (a0 : Array Value) (hw : ∀ d ∈ tables_1, d.before a0 Z = true) (w : Nat → Addr) (kk : Nat → ClassId) (iw : Nat → Int32) (vw : Nat → Value) (hN : Wd Z w kk iw vw) (ws : List Jvm.Cond) (o1 : Addr) (vl_o1 : List Value) (kc_o1 : ClassId) (h0 : Heap) (O0 : Old Z Z.heap.size h0) (gn_o1 : Z.heap.size ≤ o1) (lt_o1 : o1 < h0.size) (E_o1 : Exa Z h0 o1 "[B") (V_o1 : Arv Z h0 o1 kc_o1 .byte (11 : Int32) vl_o1 (.int (0 : Int32))) :
    Met l Z (⟨s_1, "string", s_9⟩ : MethodName) (Jvm.Cond.code (⟨s_1, "string", s_9⟩ : MethodName) prog_22_method_9_code 2 (some (.object s_0))) ws (Rm 5 2 12 88) #[(.ref o1), (.int (8 : Int32))] h0 (Qd_18 Z w kk iw vw o1 vl_o1 kc_o1 h0 Z.heap.size) := by
  have hN' := hN
  obtain ⟨hS0, hE0, hS1, hE1, hS2, hE2, hI0, hJ0, hR0, hRr0, hEq0⟩ := hN'
  refine own_body (plainFor_of_name pn_0) hisR ?_
  intro p e s m below meth c s₁ hx hby hml hown hnm hret X0 hZ e0
  have N0 := Fr.nil Z.heap.size
  have K0 : Keep h0 h0 [] := Keep.refl _ _
  obtain ⟨T1, h1, X1, e1, E1, A1, D1, -, st1⟩ := newO X0 hx hZ hown (W hw 11 rfl) (W hw 12 rfl) (W hw 13 rfl) e0 (g := (mkF m 0 #[.val (.ref o1), .val (.int (8 : Int32))] [])) rfl (hb hby d2_0) (by decide) (by decide)
  obtain ⟨b1, g1⟩ : ∃ z, z = h0.size := ⟨_, rfl⟩
  rw [← g1] at A1 st1 D1
  have gn_b1 : Z.heap.size ≤ b1 := Nat.le_trans O0.2.1 (Nat.le_of_eq g1.symm)
  have sz_b1 : h0.size ≤ b1 := Nat.le_trans K0.1 (Nat.le_of_eq g1.symm)
  have ne_o1_b1 : o1 ≠ b1 := Nat.ne_of_lt (Nat.lt_of_lt_of_le E_o1.lt (Nat.le_of_eq g1.symm))
  have E_o1_v1 := E_o1.ext E1
  have V_o1_v1 := V_o1.ext E1
  have O1 := O0.ext E1
  have K1 := K0.ext E1
  have E_b1_v1 := A1
  have F_b1_value_v1 : Fld Z h1 b1 s_0 "value" "[B" .null := D1 (Or.inr (W hw 64 rfl)) (ty := (.array .byte)) (by decide)
  have F_b1_coder_v1 : Fld Z h1 b1 s_0 "coder" "B" (.int (0 : Int32)) := D1 (Or.inr (W hw 66 rfl)) (ty := .byte) (by decide)
  obtain ⟨T2, X2, e2, st2⟩ := getS2 X1 hx hZ hown (host := "") (Or.inl (W hw 14 rfl)) Via.refl e1 (hS0.ext O1.2) (g := (mkF m 7 #[.val (.ref o1), .val (.int (8 : Int32))] [(.int (8 : Int32)), (.int (0 : Int32)), (.ref o1), (.ref b1), (.ref b1)])) rfl (hb hby d2_7)
  obtain ⟨_, _, ⟨T3, L3, k3, n3⟩, -, X3, ⟨Lc3, hQ3, l3, y3, z3⟩, st3⟩ := X2.specialBack hx (y := (⟨s_0, "<init>", s_8⟩ : MethodName)) rfl hown (mvT hZ (W hw 16 rfl)) (mvT hZ (W hw 17 rfl)) (mvT hZ (W hw 18 rfl)) (by decide) (backOf (W := 1) (rm_55 l Z a0 hw w kk iw vw hN [] b1 o1 vl_o1 kc_o1 h1 O1 gn_b1 E_b1_v1.lt gn_o1 E_o1_v1.lt E_b1_v1 F_b1_value_v1 F_b1_coder_v1 E_o1_v1 V_o1_v1 (Ne.symm ne_o1_b1)) hZ (W hw 18 rfl) (W hw 13 rfl) (by decide) (by decide)) (g := (mkF m 10 #[.val (.ref o1), .val (.int (8 : Int32))] [(.ref (w 0)), (.int (8 : Int32)), (.int (0 : Int32)), (.ref o1), (.ref b1), (.ref b1)])) rfl (by rw [hml]; rfl) (Steps.refl _) (a := b1) (argsL := [(.ref o1), (.int (0 : Int32)), (.int (8 : Int32)), (.ref (w 0))]) (rest := [(.ref b1)]) (lenOf pd_8 rfl) rfl (by show 2 * 0 + _ ≤ _; exact Nat.le_of_eq rfl) (hb hby d2_10) (fun _ _ => ⟨rfl, e2, (by decide : 1 + 1 ≤ _), (by decide : 4 + 8 ≤ _)⟩)
  dsimp only [Pt.U, Pt.locs, Pt.cells, Pt.slots] at X3 l3 y3 z3 st3 hQ3
  subst l3 y3 z3
  obtain ⟨b3_0, kb3_0, vl3_0, rfl, N3q, Kq3, tk3_0, tk3_1, tk3_2, tk3_3, tk3_4, tk3_5⟩ := hQ3
  have N3 := Fr.app N0 N3q
  have gn_b3_0 : Z.heap.size ≤ b3_0 := Nat.le_trans O1.2.1 tk3_0
  have sz_b3_0 : h0.size ≤ b3_0 := Nat.le_trans K1.1 tk3_0
  have ne_b1_b3_0 : b1 ≠ b3_0 := Nat.ne_of_lt (Nat.lt_of_lt_of_le E_b1_v1.lt tk3_0)
  have ne_o1_b3_0 : o1 ≠ b3_0 := Nat.ne_of_lt (Nat.lt_of_lt_of_le E_o1_v1.lt tk3_0)
  have E_o1_v3 := E_o1_v1.keep Kq3
  have V_o1_v3 := V_o1_v1.keep Kq3 (ninS ne_o1_b1 nin0)
  have E_b1_v3 := E_b1_v1.keep Kq3
  have O3 := O1.keep Kq3 (allS gn_b1 all0)
  have K3 : Keep h0 T3.heap [] := K1.trans Kq3 (allS (Or.inr sz_b1) all0)
  refine ⟨T3, some (.ref b1), _, _, _, by decide, by decide, X3, nofun, ⟨b1, b3_0, kb3_0, vl3_0, rfl, N3, K3, sz_b1, sz_b3_0, ne_b1_b3_0, tk3_1, tk3_2, tk3_3, tk3_4, tk3_5⟩, fun fs hr => castTop (ef_9 m (.ref o1) rfl (.int (8 : Int32)) rfl) ?_⟩
  show Steps p.tables e below (s₁.setTop (mkF m 0 #[.val (.ref o1), .val (.int (8 : Int32))] [])) _
  refine st1 _ ?_
  refine XS.dup X1.here hx rfl (hb hby d2_3) rfl rfl ?_
  refine XS.aloadN X1.here hx rfl (hb hby d2_4) rfl rfl ?_
  refine XS.iconst X1.here hx rfl (hb hby d2_5) ?_
  refine XS.iloadN X1.here hx rfl (hb hby d2_6) rfl ?_
  refine st2 _ ?_
  refine st3.trans ?_
  show Steps p.tables e below (T3.setTop (mkF m 13 #[.val (.ref o1), .val (.int (8 : Int32))] [(.ref b1)])) _
  exact retOut X3 hx hret rfl (Or.inr (Or.inr (Or.inr (Or.inr ⟨rfl, rfl, rfl⟩)))) (hb hby d2_13) hr
def Qd_19 (Z : State) (w : Nat → Addr) (kk : Nat → ClassId) (iw : Nat → Int32) (vw : Nat → Value) (p0 : Int32) (h0 : Heap) (n0 : Nat) (v : Option Value) (h : Heap) (L : List Loc) : Prop := ∃ (c1 : Addr) (c2 : Addr) (kc1 : ClassId) (vx1 : List Value), v = some (.ref c1) ∧ Fr n0 L ∧ Keep h0 h [] ∧ h0.size ≤ c1 ∧ h0.size ≤ c2 ∧ c1 ≠ c2 ∧ Exa Z h c1 s_0 ∧ Fld Z h c1 s_0 "value" "[B" (.ref c2) ∧ Fld Z h c1 s_0 "coder" "B" (.int (0 : Int32)) ∧ Exa Z h c2 "[B" ∧ Arv Z h c2 kc1 .byte (8 : Int32) vx1 (.int (0 : Int32))
set_option maxRecDepth 65536 in
set_option maxHeartbeats 40000000 in
theorem rm_57 (l : Launch) (Z : State) (a0 : Array Value) (hw : ∀ d ∈ tables_1, d.before a0 Z = true) (w : Nat → Addr) (kk : Nat → ClassId) (iw : Nat → Int32) (vw : Nat → Value) (hN : Wd Z w kk iw vw) (ws : List Jvm.Cond) (p0 : Int32) (h0 : Heap) (O0 : Old Z Z.heap.size h0) (hp0 : p0 < (0 : Int32)) (hp1 : ¬ ((p0 / (10000 : Int32)) = (0 : Int32))) (hp2 : ¬ (((p0 / (10000 : Int32)) / (10 : Int32)) = (0 : Int32))) (hp3 : ¬ ((((p0 / (10000 : Int32)) / (10 : Int32)) / (10 : Int32)) = (0 : Int32))) (hp4 : ((((p0 / (10000 : Int32)) / (10 : Int32)) / (10 : Int32)) / (10 : Int32)) = (0 : Int32)) :
    Met l Z (⟨s_1, "yearText", s_4⟩ : MethodName) (Jvm.Cond.code (⟨s_1, "yearText", s_4⟩ : MethodName) prog_22_method_4_code 2 (some (.object s_0))) ws (Rm 6 3 23 101) #[(.int p0)] h0 (Qd_19 Z w kk iw vw p0 h0 Z.heap.size) := by
  have hN' := hN
  obtain ⟨hS0, hE0, hS1, hE1, hS2, hE2, hI0, hJ0, hR0, hRr0, hEq0⟩ := hN'
  refine own_body (plainFor_of_name pn_0) hisR ?_
  intro p e s m below meth c s₁ hx hby hml hown hnm hret X0 hZ e0
  have N0 := Fr.nil Z.heap.size
  have K0 : Keep h0 h0 [] := Keep.refl _ _
  obtain ⟨T1, h1, k1, X1, e1, E1, A1, AE1, st1⟩ := newPE X0 hx hZ (W hw 4 rfl) e0 (g := (mkF m 2 #[.val (.int p0), .unset] [(.int (11 : Int32))])) rfl (hb hby d0_2) rfl (by decide) (cap := 11) (by decide) (by decide) (by decide) (by decide) (ad := "[B") rfl
  obtain ⟨b1, g1⟩ : ∃ z, z = h0.size := ⟨_, rfl⟩
  rw [← g1] at A1 st1 AE1
  have gn_b1 : Z.heap.size ≤ b1 := Nat.le_trans O0.2.1 (Nat.le_of_eq g1.symm)
  have sz_b1 : h0.size ≤ b1 := Nat.le_trans K0.1 (Nat.le_of_eq g1.symm)
  have O1 := O0.ext E1
  have K1 := K0.ext E1
  have E_b1_v1 := AE1
  have V_b1_v1 : Arv Z h1 b1 k1 .byte (11 : Int32) [] (.int (0 : Int32)) := Arv.new A1 (by decide)
  obtain ⟨_, _, ⟨T2, L2, k2, n2⟩, -, X2, ⟨Lc2, hQ2, l2, y2, z2⟩, st2⟩ := Jvm.LawKit.callS X1 hx (y := (⟨s_1, "writeYear", "([BI)I"⟩ : MethodName)) hown (mvT hZ (W hw 5 rfl)) (mvT hZ (W hw 6 rfl)) (mvT hZ (W hw 2 rfl)) (mvT hZ (W hw 7 rfl)) (by decide) (backOf (W := 1) (rm_47 l Z a0 hw w kk iw vw hN [] b1 p0 k1 h1 O1 gn_b1 E_b1_v1.lt E_b1_v1 V_b1_v1 hp0 hp1 hp2 hp3 hp4) hZ (W hw 7 rfl) (W hw 2 rfl) (by decide) (by decide)) (g := (mkF m 8 #[.val (.int p0), .val (.ref b1)] [(.int p0), (.ref b1), (.ref b1)])) rfl (by rw [hml]; rfl) (argsL := [(.ref b1), (.int p0)]) (rest := [(.ref b1)]) (lenOf pd_0 rfl) rfl (by show 2 * 0 + _ ≤ _; exact Nat.le_of_eq rfl) (hb hby d0_8) (fun _ _ => ⟨rfl, e1, (by decide : 1 + 0 ≤ _), (by decide : 11 + 0 ≤ _)⟩)
  dsimp only [Pt.U, Pt.locs, Pt.cells, Pt.slots] at X2 l2 y2 z2 st2 hQ2
  subst l2 y2 z2
  obtain ⟨vl2_0, rfl, N2q, Kq2, tk2_0, tk2_1⟩ := hQ2
  have N2 := Fr.app N0 N2q
  have E_b1_v2 := E_b1_v1.keep Kq2
  have O2 := O1.keep Kq2 (allS gn_b1 all0)
  have K2 : Keep h0 T2.heap [] := K1.trans Kq2 (allS (Or.inr sz_b1) all0)
  obtain ⟨_, _, ⟨T3, L3, k3, n3⟩, -, X3, ⟨Lc3, hQ3, l3, y3, z3⟩, st3⟩ := Jvm.LawKit.callS X2 hx (y := (⟨s_1, "string", s_9⟩ : MethodName)) hown (mvT hZ (W hw 8 rfl)) (mvT hZ (W hw 9 rfl)) (mvT hZ (W hw 2 rfl)) (mvT hZ (W hw 10 rfl)) (by decide) (backOf (W := 0) (rm_56 l Z a0 hw w kk iw vw hN [] b1 vl2_0 k1 T2.heap O2 gn_b1 tk2_0.lt tk2_0 tk2_1) hZ (W hw 10 rfl) (W hw 2 rfl) (by decide) (by decide)) (g := (mkF m 11 #[.val (.int p0), .val (.ref b1)] [(.int (8 : Int32)), (.ref b1)])) rfl (by rw [hml]; rfl) (argsL := [(.ref b1), (.int (8 : Int32))]) (rest := []) (lenOf pd_9 rfl) rfl (by show 2 * 0 + _ ≤ _; exact Nat.le_of_eq rfl) (hb hby d0_11) (fun _ _ => ⟨rfl, rfl, (by decide : 1 + 2 ≤ _), (by decide : 11 + 12 ≤ _)⟩)
  dsimp only [Pt.U, Pt.locs, Pt.cells, Pt.slots] at X3 l3 y3 z3 st3 hQ3
  subst l3 y3 z3
  obtain ⟨b3_0, b3_1, kb3_0, vl3_0, rfl, N3q, Kq3, tk3_0, tk3_1, tk3_2, tk3_3, tk3_4, tk3_5, tk3_6, tk3_7⟩ := hQ3
  have N3 := Fr.app N2 N3q
  have gn_b3_0 : Z.heap.size ≤ b3_0 := Nat.le_trans O2.2.1 tk3_0
  have sz_b3_0 : h0.size ≤ b3_0 := Nat.le_trans K2.1 tk3_0
  have ne_b1_b3_0 : b1 ≠ b3_0 := Nat.ne_of_lt (Nat.lt_of_lt_of_le tk2_0.lt tk3_0)
  have gn_b3_1 : Z.heap.size ≤ b3_1 := Nat.le_trans O2.2.1 tk3_1
  have sz_b3_1 : h0.size ≤ b3_1 := Nat.le_trans K2.1 tk3_1
  have ne_b1_b3_1 : b1 ≠ b3_1 := Nat.ne_of_lt (Nat.lt_of_lt_of_le tk2_0.lt tk3_1)
  have tk2_0_v3 := tk2_0.keep Kq3
  have tk2_1_v3 := tk2_1.keep Kq3 nin0
  have O3 := O2.keep Kq3 all0
  have K3 : Keep h0 T3.heap [] := K2.trans Kq3 all0
  refine ⟨T3, some (.ref b3_0), _, _, _, by decide, by decide, X3, nofun, ⟨b3_0, b3_1, kb3_0, vl3_0, rfl, N3, K3, sz_b3_0, sz_b3_1, tk3_2, tk3_3, tk3_4, tk3_5, tk3_6, tk3_7⟩, fun fs hr => castTop (ef_10 m (.int p0) rfl) ?_⟩
  show Steps p.tables e below (s₁.setTop (mkF m 0 #[.val (.int p0), .unset] [])) _
  refine XS.bipush X0.here hx rfl (hb hby d0_0) ?_
  refine st1 _ ?_
  refine XS.astoreN X1.here hx rfl (hb hby d0_4) rfl rfl (l' := #[.val (.int p0), .val (.ref b1)]) rfl ?_
  refine XS.aloadN X1.here hx rfl (hb hby d0_5) rfl rfl ?_
  refine XS.aloadN X1.here hx rfl (hb hby d0_6) rfl rfl ?_
  refine XS.iloadN X1.here hx rfl (hb hby d0_7) rfl ?_
  refine st2 _ ?_
  refine st3 _ ?_
  show Steps p.tables e below (T3.setTop (mkF m 14 #[.val (.int p0), .val (.ref b1)] [(.ref b3_0)])) _
  exact retOut X3 hx hret rfl (Or.inr (Or.inr (Or.inr (Or.inr ⟨rfl, rfl, rfl⟩)))) (hb hby d0_14) hr
set_option maxRecDepth 65536 in
set_option maxHeartbeats 40000000 in
theorem rm_58 (l : Launch) (Z : State) (a0 : Array Value) (hw : ∀ d ∈ tables_1, d.before a0 Z = true) (w : Nat → Addr) (kk : Nat → ClassId) (iw : Nat → Int32) (vw : Nat → Value) (hN : Wd Z w kk iw vw) (ws : List Jvm.Cond) (o1 : Addr) (o2 : Addr) (vl_o2 : List Value) (kc_o2 : ClassId) (h0 : Heap) (O0 : Old Z Z.heap.size h0) (gn_o1 : Z.heap.size ≤ o1) (lt_o1 : o1 < h0.size) (E_o1 : Exa Z h0 o1 s_0) (gn_o2 : Z.heap.size ≤ o2) (lt_o2 : o2 < h0.size) (F_o1_value : Fld Z h0 o1 s_0 "value" "[B" (.ref o2)) (F_o1_coder : Fld Z h0 o1 s_0 "coder" "B" (.int (0 : Int32))) (E_o2 : Exa Z h0 o2 "[B") (V_o2 : Arv Z h0 o2 kc_o2 .byte (8 : Int32) vl_o2 (.int (0 : Int32))) (ne_o1_o2 : o1 ≠ o2) :
    Met l Z (⟨s_0, "coder", "()B"⟩ : MethodName) (Jvm.Cond.code (⟨s_0, "coder", "()B"⟩ : MethodName) jdk_42_method_152_code 1 (some .byte)) ws (Rm 0 0 0 0) #[(.ref o1)] h0 (OQ (some (.int (0 : Int32))) h0 Z.heap.size) := by
  have hN' := hN
  obtain ⟨hS0, hE0, hS1, hE1, hS2, hE2, hI0, hJ0, hR0, hRr0, hEq0⟩ := hN'
  refine own_body (plainFor_of_name pn_3) hisR ?_
  intro p e s m below meth c s₁ hx hby hml hown hnm hret X0 hZ e0
  have N0 := Fr.nil Z.heap.size
  obtain ⟨T1, X1, e1, st1⟩ := getS2 X0 hx hZ hown (host := "") (Or.inl (W hw 44 rfl)) Via.refl e0 (hI0.ext O0.2) (g := (mkF m 0 #[.val (.ref o1)] [])) rfl (hb hby d13_0)
  obtain ⟨T2, X2, e2, st2⟩ := getF X1 hx hZ hown (host := "") (Or.inl (W hw 65 rfl)) Via.refl e1 F_o1_coder (g := (mkF m 7 #[.val (.ref o1)] [(.ref o1)])) rfl rfl (hb hby d13_7)
  refine ⟨T2, some (.int (0 : Int32)), _, _, _, by decide, by decide, X2, nofun, (by rw [e2]; exact ⟨rfl, N0, rfl⟩), fun fs hr => castTop (ef_1 m (.ref o1) rfl) ?_⟩
  show Steps p.tables e below (s₁.setTop (mkF m 0 #[.val (.ref o1)] [])) _
  refine st1 _ ?_
  refine XS.ifNo X1.here hx rfl (hb hby d13_3) rfl ((if0 _ _).trans (feq hJ0).1) ?_
  refine XS.aloadN X1.here hx rfl (hb hby d13_6) rfl rfl ?_
  refine st2 _ ?_
  refine XS.goto X2.here hx rfl (pc0 := 10) (pc' := 14) rfl (hb hby d13_10) (by decide) (by decide) ?_
  show Steps p.tables e below (T2.setTop (mkF m 14 #[.val (.ref o1)] [(.int (0 : Int32))])) _
  exact retN X2 hx (t := .byte) hret (by simp) (hb hby d13_14) hr
theorem lf_32 : ((8 : Int32) >>> ((0 : Int32) &&& 31)) = (8 : Int32) := by decide
set_option maxRecDepth 65536 in
set_option maxHeartbeats 40000000 in
theorem rm_59 (l : Launch) (Z : State) (a0 : Array Value) (hw : ∀ d ∈ tables_1, d.before a0 Z = true) (w : Nat → Addr) (kk : Nat → ClassId) (iw : Nat → Int32) (vw : Nat → Value) (hN : Wd Z w kk iw vw) (ws : List Jvm.Cond) (o1 : Addr) (o2 : Addr) (vl_o2 : List Value) (kc_o2 : ClassId) (h0 : Heap) (O0 : Old Z Z.heap.size h0) (gn_o1 : Z.heap.size ≤ o1) (lt_o1 : o1 < h0.size) (E_o1 : Exa Z h0 o1 s_0) (gn_o2 : Z.heap.size ≤ o2) (lt_o2 : o2 < h0.size) (F_o1_value : Fld Z h0 o1 s_0 "value" "[B" (.ref o2)) (F_o1_coder : Fld Z h0 o1 s_0 "coder" "B" (.int (0 : Int32))) (E_o2 : Exa Z h0 o2 "[B") (V_o2 : Arv Z h0 o2 kc_o2 .byte (8 : Int32) vl_o2 (.int (0 : Int32))) (ne_o1_o2 : o1 ≠ o2) :
    Met l Z (⟨s_0, "length", "()I"⟩ : MethodName) (Jvm.Cond.code (⟨s_0, "length", "()I"⟩ : MethodName) jdk_42_method_54_code 1 (some .int)) ws (Rm 1 0 0 13) #[(.ref o1)] h0 (OQ (some (.int (8 : Int32))) h0 Z.heap.size) := by
  have hN' := hN
  obtain ⟨hS0, hE0, hS1, hE1, hS2, hE2, hI0, hJ0, hR0, hRr0, hEq0⟩ := hN'
  refine own_body (plainFor_of_name pn_3) hisR ?_
  intro p e s m below meth c s₁ hx hby hml hown hnm hret X0 hZ e0
  have N0 := Fr.nil Z.heap.size
  obtain ⟨T1, X1, e1, st1⟩ := getF X0 hx hZ hown (host := "") (Or.inl (W hw 63 rfl)) Via.refl e0 F_o1_value (g := (mkF m 1 #[.val (.ref o1)] [(.ref o1)])) rfl rfl (hb hby d12_1)
  obtain ⟨cl2, Ar2, q2, Sz2, Ng2, Hv2, Gv2⟩ := id V_o2
  obtain ⟨cq3, kq3, q3a, q3b, q3c⟩ := isOf hZ e1 E_o1
  obtain ⟨_, _, ⟨T3, L3, k3, n3⟩, -, X3, ⟨Lc3, hQ3, l3, y3, z3⟩, st3⟩ := X1.virtualBack hx (y := (⟨s_0, "coder", "()B"⟩ : MethodName)) (z := (⟨s_0, "coder", "()B"⟩ : MethodName)) hown (mvT hZ (W hw 72 rfl)) (mvT hZ (W hw 73 rfl)) (notFace_of_selects (args := #[]) (mvT hZ (W hw 75 rfl))) (mvT hZ (W hw 75 rfl)) (mvT hZ (W hw 74 rfl)) (by decide) (backOf (W := 1) (rm_58 l Z a0 hw w kk iw vw hN [] o1 o2 vl_o2 kc_o2 h0 O0 gn_o1 E_o1.lt E_o1 gn_o2 E_o2.lt F_o1_value F_o1_coder E_o2 V_o2 ne_o1_o2) hZ (W hw 76 rfl) (W hw 13 rfl) (by decide) (by decide)) q3a q3c (g := (mkF m 6 #[.val (.ref o1)] [(.ref o1), (.int (8 : Int32))])) rfl (by rw [hml]; rfl) (Steps.refl _) (argsL := []) (rest := [(.int (8 : Int32))]) (lenOf pd_11 rfl) rfl (by show 2 * 0 + _ ≤ _; exact Nat.le_of_eq rfl) (hb hby d12_6) (fun _ _ => ⟨rfl, e1, (by decide : 0 + 0 ≤ _), (by decide : 0 + 0 ≤ _)⟩)
  dsimp only [Pt.U, Pt.locs, Pt.cells, Pt.slots] at X3 l3 y3 z3 st3 hQ3
  subst l3 y3 z3
  obtain ⟨rfl, N3q, e3⟩ := hQ3
  have N3 := Fr.app N0 N3q
  refine ⟨T3, some (.int (8 : Int32)), _, _, _, by decide, by decide, X3, nofun, (by rw [e3]; exact ⟨rfl, N3, rfl⟩), fun fs hr => castTop (ef_1 m (.ref o1) rfl) ?_⟩
  show Steps p.tables e below (s₁.setTop (mkF m 0 #[.val (.ref o1)] [])) _
  refine XS.aloadN X0.here hx rfl (hb hby d12_0) rfl rfl ?_
  refine st1 _ ?_
  refine X1.arraylength hx (by rw [e1]; exact Ar2.1) (State.isArrayOf_alike hZ.alike Ar2.2.1) (g := (mkF m 4 #[.val (.ref o1)] [(.ref o2)])) rfl rfl (hb hby d12_4) _ ?_
  rw [len_of Sz2 Ng2]
  refine XS.aloadN X1.here hx rfl (hb hby d12_5) rfl rfl ?_
  refine st3.trans ?_
  refine XS.ishr X3.here hx rfl (hb hby d12_9) rfl ?_
  show Steps p.tables e below (T3.setTop (mkF m 10 #[.val (.ref o1)] [(.int ((8 : Int32) >>> ((0 : Int32) &&& 31)))])) _
  rw [lf_32]
  show Steps p.tables e below (T3.setTop (mkF m 10 #[.val (.ref o1)] [(.int (8 : Int32))])) _
  exact retI X3 hx hret (hb hby d12_10) hr
set_option maxRecDepth 65536 in
set_option maxHeartbeats 40000000 in
theorem law_60 (l : Launch) (Z : State) (a0 : Array Value) (hw : ∀ d ∈ tables_1, d.before a0 Z = true) (w : Nat → Addr) (kk : Nat → ClassId) (iw : Nat → Int32) (vw : Nat → Value) (hN : Wd Z w kk iw vw) (ws : List Jvm.Cond) (p0 : Int32) (h0 : Heap) (O0 : Old Z Z.heap.size h0) (hp0 : p0 < (0 : Int32)) (hp1 : ¬ ((p0 / (10000 : Int32)) = (0 : Int32))) (hp2 : ¬ (((p0 / (10000 : Int32)) / (10 : Int32)) = (0 : Int32))) (hp3 : ¬ ((((p0 / (10000 : Int32)) / (10 : Int32)) / (10 : Int32)) = (0 : Int32))) (hp4 : ((((p0 / (10000 : Int32)) / (10 : Int32)) / (10 : Int32)) / (10 : Int32)) = (0 : Int32)) (hp5 : p0 < (1000 : Int32)) :
    MetFree l x (head1 (Jvm.Cond.code x code maxLocals ret :: ws) room_1) (fun a U => a = #[(.int p0)] ∧ Z.Warmed39 U.vm ∧ U.heap = h0) (fun _ _ _ _ _ => True) (fun _ U o U' => ∃ v L, o = .returned v ∧ OL (some (.int (1 : Int32))) Z.heap.size v U'.heap L ∧ FrameEnd U o U' L 16 128) := by
  have hN' := hN
  obtain ⟨hS0, hE0, hS1, hE1, hS2, hE2, hI0, hJ0, hR0, hRr0, hEq0⟩ := hN'
  refine MetFree.of_bodySF (plainFor_of_name pn_5) hisR ?_
  intro p e s m args below meth c s₁ Bd hml0 hP hK
  obtain ⟨rfl, hZ, hh⟩ := hP
  have hx := Bd.exec
  have hby := Bd.bytes
  have hml : c.maxLocals = 3 := hml0
  have hown : s.vm.findClass s_3 = some m.cls := findClass_of_methodNamed Bd.named
  have hnm := (name_of_methodNamed Bd.named Bd.method).1
  have X0 : Stand p l e room_1 s m #[(.int p0)] below meth c s₁ [] 0 0 := Stand.of_body Bd
  have e0 : s₁.heap = h0 := by rw [← hh, Bd.state]; rfl
  have N0 := Fr.nil Z.heap.size
  obtain ⟨_, _, ⟨T1, L1, k1, n1⟩, -, X1, ⟨Lc1, hQ1, l1, y1, z1⟩, st1⟩ := Jvm.LawKit.callS X0 hx (y := (⟨s_1, "yearText", s_4⟩ : MethodName)) hown (mvT hZ (W hw 0 rfl)) (mvT hZ (W hw 1 rfl)) (mvT hZ (W hw 2 rfl)) (mvT hZ (W hw 3 rfl)) (by decide) (backOf (W := 0) (rm_57 l Z a0 hw w kk iw vw hN [] p0 h0 O0 hp0 hp1 hp2 hp3 hp4) hZ (W hw 3 rfl) (W hw 2 rfl) (by decide) (by decide)) (g := (mkF m 1 #[.val (.int p0), .unset, .unset] [(.int p0)])) rfl (by rw [hml]; rfl) (argsL := [(.int p0)]) (rest := []) (lenOf pd_10 rfl) rfl (by show 2 * 0 + _ ≤ _; exact Nat.le_of_eq rfl) (hb hby at_1) (fun _ _ => ⟨rfl, e0, (by decide : 0 + 3 ≤ _), (by decide : 0 + 23 ≤ _)⟩)
  dsimp only [Pt.U, Pt.locs, Pt.cells, Pt.slots] at X1 l1 y1 z1 st1 hQ1
  subst l1 y1 z1
  obtain ⟨b1_0, b1_1, kb1_0, vl1_0, rfl, N1q, Kq1, tk1_0, tk1_1, tk1_2, tk1_3, tk1_4, tk1_5, tk1_6, tk1_7⟩ := hQ1
  have N1 := Fr.app N0 N1q
  have gn_b1_0 : Z.heap.size ≤ b1_0 := Nat.le_trans O0.2.1 tk1_0
  have gn_b1_1 : Z.heap.size ≤ b1_1 := Nat.le_trans O0.2.1 tk1_1
  have O1 := O0.keep Kq1 all0
  obtain ⟨cq2, kq2, q2a, q2b, q2c⟩ := isOf hZ rfl tk1_3
  obtain ⟨_, _, ⟨T2, L2, k2, n2⟩, -, X2, ⟨Lc2, hQ2, l2, y2, z2⟩, st2⟩ := X1.virtualBack hx (y := (⟨s_0, "length", "()I"⟩ : MethodName)) (z := (⟨s_0, "length", "()I"⟩ : MethodName)) hown (mvT hZ (W hw 67 rfl)) (mvT hZ (W hw 68 rfl)) (notFace_of_selects (args := #[]) (mvT hZ (W hw 70 rfl))) (mvT hZ (W hw 70 rfl)) (mvT hZ (W hw 69 rfl)) (by decide) (backOf (W := 0) (rm_59 l Z a0 hw w kk iw vw hN [] b1_0 b1_1 vl1_0 kb1_0 T1.heap O1 gn_b1_0 tk1_3.lt tk1_3 gn_b1_1 tk1_6.lt tk1_4 tk1_5 tk1_6 tk1_7 tk1_2) hZ (W hw 71 rfl) (W hw 13 rfl) (by decide) (by decide)) q2a q2c (g := (mkF m 6 #[.val (.int p0), .val (.ref b1_0), .unset] [(.ref b1_0)])) rfl (by rw [hml]; rfl) (Steps.refl _) (argsL := []) (rest := []) (lenOf pd_12 rfl) rfl (by show 2 * 0 + _ ≤ _; exact Nat.le_of_eq rfl) (hb hby at_6) (fun _ _ => ⟨rfl, rfl, (by decide : 3 + 0 ≤ _), (by decide : 23 + 0 ≤ _)⟩)
  dsimp only [Pt.U, Pt.locs, Pt.cells, Pt.slots] at X2 l2 y2 z2 st2 hQ2
  subst l2 y2 z2
  obtain ⟨rfl, N2q, e2⟩ := hQ2
  have N2 := Fr.app N1 N2q
  obtain ⟨_, _, ⟨T3, L3, k3, n3⟩, -, X3, ⟨Lc3, hQ3, l3, y3, z3⟩, st3⟩ := Jvm.LawKit.callS X2 hx (y := (⟨s_1, s_15, "(I)Z"⟩ : MethodName)) hown (mvT hZ (W hw 97 rfl)) (mvT hZ (W hw 98 rfl)) (mvT hZ (W hw 2 rfl)) (mvT hZ (W hw 99 rfl)) (by decide) (backOf (W := 0) (rm_16 l Z a0 hw w kk iw vw hN [] p0 T1.heap O1 hp5) hZ (W hw 99 rfl) (W hw 2 rfl) (by decide) (by decide)) (g := (mkF m 30 #[.val (.int p0), .val (.ref b1_0), .val (.int (0 : Int32))] [(.int p0)])) rfl (by rw [hml]; rfl) (argsL := [(.int p0)]) (rest := []) (lenOf pd_13 rfl) rfl (by show 2 * 0 + _ ≤ _; exact Nat.le_of_eq rfl) (hb hby at_30) (fun _ _ => ⟨rfl, e2, (by decide : 3 + 0 ≤ _), (by decide : 23 + 0 ≤ _)⟩)
  dsimp only [Pt.U, Pt.locs, Pt.cells, Pt.slots] at X3 l3 y3 z3 st3 hQ3
  subst l3 y3 z3
  obtain ⟨rfl, N3q, e3⟩ := hQ3
  have N3 := Fr.app N2 N3q
  obtain ⟨fs, hr, hrun, hended, hW, hsame⟩ := X3.leave (v := some (.int (1 : Int32))) (fun h => by rw [Bd.returns] at h; cases h)
  refine ⟨_, _, castTop (ef_12 m (.int p0) rfl) ?_, hrun, hended, _, _, rfl, ?_, ⟨_, rfl⟩, hW, hsame.mono (by decide) (by decide)⟩
  · show Steps p.tables e below (s₁.setTop (mkF m 0 #[.val (.int p0), .unset, .unset] [])) _
    refine XS.iloadN X0.here hx rfl (hb hby at_0) rfl ?_
    refine st1 _ ?_
    refine XS.astoreN X1.here hx rfl (hb hby at_4) rfl rfl (l' := #[.val (.int p0), .val (.ref b1_0), .unset]) rfl ?_
    refine XS.aloadN X1.here hx rfl (hb hby at_5) rfl rfl ?_
    refine st2.trans ?_
    refine XS.iconst X2.here hx rfl (hb hby at_9) ?_
    refine XS.icmpYes X2.here hx rfl (pc0 := 10) (pc' := 27) rfl (hb hby at_10) rfl (feq (by decide : ¬ ((8 : Int32) = (4 : Int32)))).2 (by decide) (by decide) ?_
    refine XS.iconst X2.here hx rfl (hb hby at_27) ?_
    refine XS.istoreN X2.here hx rfl (hb hby at_28) rfl (l' := #[.val (.int p0), .val (.ref b1_0), .val (.int (0 : Int32))]) rfl ?_
    refine XS.iloadN X2.here hx rfl (hb hby at_29) rfl ?_
    show Steps p.tables e below (T2.setTop (mkF m 30 #[.val (.int p0), .val (.ref b1_0), .val (.int (0 : Int32))] [(.int p0)])) _
    refine st3 _ ?_
    refine XS.iloadN X3.here hx rfl (hb hby at_33) rfl ?_
    refine XS.icmpNo X3.here hx rfl (hb hby at_34) rfl (teq (by decide : (0 : Int32) = (0 : Int32))).2 ?_
    refine XS.iconst X3.here hx rfl (hb hby at_37) ?_
    refine XS.goto X3.here hx rfl (pc0 := 38) (pc' := 42) rfl (hb hby at_38) (by decide) (by decide) ?_
    show Steps p.tables e below (T3.setTop (mkF m 42 #[.val (.int p0), .val (.ref b1_0), .val (.int (0 : Int32))] [(.int (1 : Int32))])) _
    exact retN X3 hx (t := .boolean) Bd.returns (by simp) (hb hby at_42) hr
  · show OL (some (.int (1 : Int32))) Z.heap.size _ T3.heap _
    exact ⟨rfl, N3⟩
theorem lf_33 : ((8 : Int32) + (1 : Int32)) = (9 : Int32) := by decide
theorem lf_34 : ((9 : Int32) - (1 : Int32)) = (8 : Int32) := by decide
theorem lf_35 : ((8 : Int32) + (-1 : Int32)) = (7 : Int32) := by decide
def Qd_20 (Z : State) (w : Nat → Addr) (kk : Nat → ClassId) (iw : Nat → Int32) (vw : Nat → Value) (o1 : Addr) (p1 : Int32) (kc_o1 : ClassId) (h0 : Heap) (n0 : Nat) (v : Option Value) (h : Heap) (L : List Loc) : Prop := ∃ (vx1 : List Value), v = some (.int (9 : Int32)) ∧ Fr n0 L ∧ Keep h0 h [o1] ∧ Exa Z h o1 "[B" ∧ Arv Z h o1 kc_o1 .byte (11 : Int32) vx1 (.int (0 : Int32))
set_option maxRecDepth 65536 in
set_option maxHeartbeats 40000000 in
theorem rm_61 (l : Launch) (Z : State) (a0 : Array Value) (hw : ∀ d ∈ tables_1, d.before a0 Z = true) (w : Nat → Addr) (kk : Nat → ClassId) (iw : Nat → Int32) (vw : Nat → Value) (hN : Wd Z w kk iw vw) (ws : List Jvm.Cond) (o1 : Addr) (p1 : Int32) (kc_o1 : ClassId) (h0 : Heap) (O0 : Old Z Z.heap.size h0) (gn_o1 : Z.heap.size ≤ o1) (lt_o1 : o1 < h0.size) (E_o1 : Exa Z h0 o1 "[B") (V_o1 : Arv Z h0 o1 kc_o1 .byte (11 : Int32) [] (.int (0 : Int32))) (hp0 : p1 < (0 : Int32)) (hp1 : ¬ ((p1 / (10000 : Int32)) = (0 : Int32))) (hp2 : ¬ (((p1 / (10000 : Int32)) / (10 : Int32)) = (0 : Int32))) (hp3 : ¬ ((((p1 / (10000 : Int32)) / (10 : Int32)) / (10 : Int32)) = (0 : Int32))) (hp4 : ¬ (((((p1 / (10000 : Int32)) / (10 : Int32)) / (10 : Int32)) / (10 : Int32)) = (0 : Int32))) (hp5 : (((((p1 / (10000 : Int32)) / (10 : Int32)) / (10 : Int32)) / (10 : Int32)) / (10 : Int32)) = (0 : Int32)) :
    Met l Z (⟨s_1, "writeYear", "([BI)I"⟩ : MethodName) (Jvm.Cond.code (⟨s_1, "writeYear", "([BI)I"⟩ : MethodName) prog_22_method_7_code 7 (some .int)) ws (Rm 0 0 0 0) #[(.ref o1), (.int p1)] h0 (Qd_20 Z w kk iw vw o1 p1 kc_o1 h0 Z.heap.size) := by
  have hN' := hN
  obtain ⟨hS0, hE0, hS1, hE1, hS2, hE2, hI0, hJ0, hR0, hRr0, hEq0⟩ := hN'
  refine own_body (plainFor_of_name pn_0) hisR ?_
  intro p e s m below meth c s₁ hx hby hml hown hnm hret X0 hZ e0
  have N0 := Fr.nil Z.heap.size
  have K0 : Keep h0 h0 [o1] := Keep.refl _ _
  have Vc1 := V_o1
  obtain ⟨cl1, Ar1, q1, Sz1, Ng1, Hv1, Gv1⟩ := Vc1
  have hin1 : ¬ ((0 : Int32) < 0 ∨ cl1.slots.size ≤ ((0 : Int32)).toNatClampNeg) := inb_of Sz1 ⟨(by decide : ¬ ((0 : Int32) < (0 : Int32))), (by decide : (0 : Int32) < (11 : Int32))⟩
  obtain ⟨T2, h2, X2, e2, W2, st2⟩ := stB X0 hx hZ e0 Ar1 (j := (0 : Int32)) hin1 (g := (mkF m 8 #[.val (.ref o1), .val (.int p1), .unset, .unset, .unset, .unset, .unset] [(.int (45 : Int32)), (.int (0 : Int32)), (.ref o1)])) rfl rfl (hb hby d1_8)
  obtain ⟨vl2, V_o1_v2⟩ := own_store V_o1 W2 (fits_nar_byte _) ⟨(by decide : ¬ ((0 : Int32) < (0 : Int32))), (by decide : (0 : Int32) < (11 : Int32))⟩
  have N2 := Fr.snoc X2 N0 gn_o1
  have E_o1_v2 := E_o1.wr W2
  have O2 := O0.wr W2 gn_o1
  have K2 : Keep h0 h2 [o1] := K0.wr W2 (Or.inl (List.mem_of_getElem? (i := 0) rfl))
  obtain ⟨T3, L3, X3, st3, N3, e3⟩ := sg_18 w kk iw vw hN o1 p1 (1 : Int32) p1 (5 : Int32) (p1 / (10000 : Int32)) vl2 kc_o1 X2 hx hZ hw hby hml hown e2 O2 N2 gn_o1 E_o1_v2.lt E_o1_v2 V_o1_v2 hp1
  obtain ⟨T4, L4, X4, st4, N4, e4⟩ := sg_18 w kk iw vw hN o1 p1 (1 : Int32) p1 (6 : Int32) ((p1 / (10000 : Int32)) / (10 : Int32)) vl2 kc_o1 X3 hx hZ hw hby hml hown e3 O2 N3 gn_o1 E_o1_v2.lt E_o1_v2 V_o1_v2 hp2
  obtain ⟨T5, L5, X5, st5, N5, e5⟩ := sg_18 w kk iw vw hN o1 p1 (1 : Int32) p1 (7 : Int32) (((p1 / (10000 : Int32)) / (10 : Int32)) / (10 : Int32)) vl2 kc_o1 X4 hx hZ hw hby hml hown e4 O2 N4 gn_o1 E_o1_v2.lt E_o1_v2 V_o1_v2 hp3
  obtain ⟨T6, L6, X6, st6, N6, e6⟩ := sg_18 w kk iw vw hN o1 p1 (1 : Int32) p1 (8 : Int32) ((((p1 / (10000 : Int32)) / (10 : Int32)) / (10 : Int32)) / (10 : Int32)) vl2 kc_o1 X5 hx hZ hw hby hml hown e5 O2 N5 gn_o1 E_o1_v2.lt E_o1_v2 V_o1_v2 hp4
  obtain ⟨T7, L7, vl7_0, z5_7, X7, st7, N7, Kq7, tk7_0, tk7_1⟩ := sg_1 w kk iw vw hN o1 p1 (1 : Int32) p1 (9 : Int32) p1 (8 : Int32) vl2 kc_o1 X6 hx hZ hw hby hml hown e6 O2 N6 gn_o1 E_o1_v2.lt E_o1_v2 V_o1_v2 (by decide : ¬ ((8 : Int32) < (1 : Int32))) (by decide : ¬ ((8 : Int32) < (0 : Int32))) (by decide : (8 : Int32) < (11 : Int32))
  have E_o1_v7 := E_o1_v2.keep Kq7
  have O7 := O2.keep Kq7 (allS gn_o1 all0)
  have K7 : Keep h0 T7.heap [o1] := K2.trans Kq7 (allS (Or.inl (List.mem_of_getElem? (i := 0) rfl)) all0)
  obtain ⟨T8, L8, vl8_0, z5_8, X8, st8, N8, Kq8, tk8_0, tk8_1⟩ := sg_1 w kk iw vw hN o1 p1 (1 : Int32) p1 (9 : Int32) z5_7 (7 : Int32) vl7_0 kc_o1 X7 hx hZ hw hby hml hown rfl O7 N7 gn_o1 tk7_0.lt tk7_0 tk7_1 (by decide : ¬ ((7 : Int32) < (1 : Int32))) (by decide : ¬ ((7 : Int32) < (0 : Int32))) (by decide : (7 : Int32) < (11 : Int32))
  have tk7_0_v8 := tk7_0.keep Kq8
  have O8 := O7.keep Kq8 (allS gn_o1 all0)
  have K8 : Keep h0 T8.heap [o1] := K7.trans Kq8 (allS (Or.inl (List.mem_of_getElem? (i := 0) rfl)) all0)
  obtain ⟨T9, L9, vl9_0, z5_9, X9, st9, N9, Kq9, tk9_0, tk9_1⟩ := sg_1 w kk iw vw hN o1 p1 (1 : Int32) p1 (9 : Int32) z5_8 (6 : Int32) vl8_0 kc_o1 X8 hx hZ hw hby hml hown rfl O8 N8 gn_o1 tk8_0.lt tk8_0 tk8_1 (by decide : ¬ ((6 : Int32) < (1 : Int32))) (by decide : ¬ ((6 : Int32) < (0 : Int32))) (by decide : (6 : Int32) < (11 : Int32))
  have tk8_0_v9 := tk8_0.keep Kq9
  have O9 := O8.keep Kq9 (allS gn_o1 all0)
  have K9 : Keep h0 T9.heap [o1] := K8.trans Kq9 (allS (Or.inl (List.mem_of_getElem? (i := 0) rfl)) all0)
  obtain ⟨T10, L10, vl10_0, z5_10, X10, st10, N10, Kq10, tk10_0, tk10_1⟩ := sg_1 w kk iw vw hN o1 p1 (1 : Int32) p1 (9 : Int32) z5_9 (5 : Int32) vl9_0 kc_o1 X9 hx hZ hw hby hml hown rfl O9 N9 gn_o1 tk9_0.lt tk9_0 tk9_1 (by decide : ¬ ((5 : Int32) < (1 : Int32))) (by decide : ¬ ((5 : Int32) < (0 : Int32))) (by decide : (5 : Int32) < (11 : Int32))
  have tk9_0_v10 := tk9_0.keep Kq10
  have O10 := O9.keep Kq10 (allS gn_o1 all0)
  have K10 : Keep h0 T10.heap [o1] := K9.trans Kq10 (allS (Or.inl (List.mem_of_getElem? (i := 0) rfl)) all0)
  obtain ⟨T11, L11, vl11_0, z5_11, X11, st11, N11, Kq11, tk11_0, tk11_1⟩ := sg_1 w kk iw vw hN o1 p1 (1 : Int32) p1 (9 : Int32) z5_10 (4 : Int32) vl10_0 kc_o1 X10 hx hZ hw hby hml hown rfl O10 N10 gn_o1 tk10_0.lt tk10_0 tk10_1 (by decide : ¬ ((4 : Int32) < (1 : Int32))) (by decide : ¬ ((4 : Int32) < (0 : Int32))) (by decide : (4 : Int32) < (11 : Int32))
  have tk10_0_v11 := tk10_0.keep Kq11
  have O11 := O10.keep Kq11 (allS gn_o1 all0)
  have K11 : Keep h0 T11.heap [o1] := K10.trans Kq11 (allS (Or.inl (List.mem_of_getElem? (i := 0) rfl)) all0)
  obtain ⟨T12, L12, vl12_0, z5_12, X12, st12, N12, Kq12, tk12_0, tk12_1⟩ := sg_1 w kk iw vw hN o1 p1 (1 : Int32) p1 (9 : Int32) z5_11 (3 : Int32) vl11_0 kc_o1 X11 hx hZ hw hby hml hown rfl O11 N11 gn_o1 tk11_0.lt tk11_0 tk11_1 (by decide : ¬ ((3 : Int32) < (1 : Int32))) (by decide : ¬ ((3 : Int32) < (0 : Int32))) (by decide : (3 : Int32) < (11 : Int32))
  have tk11_0_v12 := tk11_0.keep Kq12
  have O12 := O11.keep Kq12 (allS gn_o1 all0)
  have K12 : Keep h0 T12.heap [o1] := K11.trans Kq12 (allS (Or.inl (List.mem_of_getElem? (i := 0) rfl)) all0)
  obtain ⟨T13, L13, vl13_0, z5_13, X13, st13, N13, Kq13, tk13_0, tk13_1⟩ := sg_1 w kk iw vw hN o1 p1 (1 : Int32) p1 (9 : Int32) z5_12 (2 : Int32) vl12_0 kc_o1 X12 hx hZ hw hby hml hown rfl O12 N12 gn_o1 tk12_0.lt tk12_0 tk12_1 (by decide : ¬ ((2 : Int32) < (1 : Int32))) (by decide : ¬ ((2 : Int32) < (0 : Int32))) (by decide : (2 : Int32) < (11 : Int32))
  have tk12_0_v13 := tk12_0.keep Kq13
  have O13 := O12.keep Kq13 (allS gn_o1 all0)
  have K13 : Keep h0 T13.heap [o1] := K12.trans Kq13 (allS (Or.inl (List.mem_of_getElem? (i := 0) rfl)) all0)
  obtain ⟨T14, L14, vl14_0, z5_14, X14, st14, N14, Kq14, tk14_0, tk14_1⟩ := sg_1 w kk iw vw hN o1 p1 (1 : Int32) p1 (9 : Int32) z5_13 (1 : Int32) vl13_0 kc_o1 X13 hx hZ hw hby hml hown rfl O13 N13 gn_o1 tk13_0.lt tk13_0 tk13_1 (by decide : ¬ ((1 : Int32) < (1 : Int32))) (by decide : ¬ ((1 : Int32) < (0 : Int32))) (by decide : (1 : Int32) < (11 : Int32))
  have tk13_0_v14 := tk13_0.keep Kq14
  have O14 := O13.keep Kq14 (allS gn_o1 all0)
  have K14 : Keep h0 T14.heap [o1] := K13.trans Kq14 (allS (Or.inl (List.mem_of_getElem? (i := 0) rfl)) all0)
  refine ⟨T14, some (.int (9 : Int32)), _, _, _, by decide, by decide, X14, nofun, ⟨vl14_0, rfl, N14, K14, tk14_0, tk14_1⟩, fun fs hr => castTop (ef_0 m (.ref o1) rfl (.int p1) rfl) ?_⟩
  show Steps p.tables e below (s₁.setTop (mkF m 0 #[.val (.ref o1), .val (.int p1), .unset, .unset, .unset, .unset, .unset] [])) _
  refine XS.iloadN X0.here hx rfl (hb hby d1_0) rfl ?_
  refine XS.ifNo X0.here hx rfl (hb hby d1_1) rfl ((if0 _ _).trans (tlt hp0).2.1) ?_
  refine XS.aloadN X0.here hx rfl (hb hby d1_4) rfl rfl ?_
  refine XS.iconst X0.here hx rfl (hb hby d1_5) ?_
  refine XS.bipush X0.here hx rfl (hb hby d1_6) ?_
  refine st2 _ ?_
  refine XS.iconst X2.here hx rfl (hb hby d1_9) ?_
  refine XS.istoreN X2.here hx rfl (hb hby d1_10) rfl (l' := #[.val (.ref o1), .val (.int p1), .val (.int (1 : Int32)), .unset, .unset, .unset, .unset]) rfl ?_
  refine XS.goto X2.here hx rfl (pc0 := 11) (pc' := 33) rfl (hb hby d1_11) (by decide) (by decide) ?_
  refine XS.iloadN X2.here hx rfl (hb hby d1_33) rfl ?_
  show Steps p.tables e below (T2.setTop (mkF m 34 #[.val (.ref o1), .val (.int p1), .val (.int (1 : Int32)), .unset, .unset, .unset, .unset] [(.int p1)])) _
  refine XS.ifNo X2.here hx rfl (hb hby d1_34) rfl ((if0 _ _).trans (tlt hp0).2.1) ?_
  refine XS.iloadN X2.here hx rfl (hb hby d1_37) rfl ?_
  refine XS.goto X2.here hx rfl (pc0 := 38) (pc' := 43) rfl (hb hby d1_38) (by decide) (by decide) ?_
  refine XS.istoreN X2.here hx rfl (hb hby d1_43) rfl (l' := #[.val (.ref o1), .val (.int p1), .val (.int (1 : Int32)), .val (.int p1), .unset, .unset, .unset]) rfl ?_
  refine XS.iloadN X2.here hx rfl (hb hby d1_44) rfl ?_
  refine XS.iconst X2.here hx rfl (hb hby d1_45) ?_
  refine XS.iadd X2.here hx rfl (hb hby d1_46) rfl ?_
  show Steps p.tables e below (T2.setTop (mkF m 47 #[.val (.ref o1), .val (.int p1), .val (.int (1 : Int32)), .val (.int p1), .unset, .unset, .unset] [(.int ((1 : Int32) + (4 : Int32)))])) _
  rw [lf_0]
  refine XS.istore X2.here hx rfl (hb hby d1_47) rfl (l' := #[.val (.ref o1), .val (.int p1), .val (.int (1 : Int32)), .val (.int p1), .val (.int (5 : Int32)), .unset, .unset]) rfl ?_
  refine XS.iloadN X2.here hx rfl (hb hby d1_49) rfl ?_
  refine XS.sipush X2.here hx rfl (hb hby d1_50) ?_
  show Steps p.tables e below (T2.setTop (mkF m 53 #[.val (.ref o1), .val (.int p1), .val (.int (1 : Int32)), .val (.int p1), .val (.int (5 : Int32)), .unset, .unset] [(.int (10000 : Int32)), (.int p1)])) _
  refine XS.idiv X2.here hx rfl (hb hby d1_53) rfl (by decide : ¬ ((10000 : Int32) = (0 : Int32))) ?_
  refine XS.istore X2.here hx rfl (hb hby d1_54) rfl (l' := #[.val (.ref o1), .val (.int p1), .val (.int (1 : Int32)), .val (.int p1), .val (.int (5 : Int32)), .val (.int (p1 / (10000 : Int32))), .unset]) rfl ?_
  show Steps p.tables e below (T2.setTop (mkF m 56 #[.val (.ref o1), .val (.int p1), .val (.int (1 : Int32)), .val (.int p1), .val (.int (5 : Int32)), .val (.int (p1 / (10000 : Int32))), .unset] [])) _
  refine st3 _ ?_
  show Steps p.tables e below (T3.setTop (mkF m 56 #[.val (.ref o1), .val (.int p1), .val (.int (1 : Int32)), .val (.int p1), .val (.int ((5 : Int32) + (1 : Int32))), .val (.int ((p1 / (10000 : Int32)) / (10 : Int32))), .unset] [])) _
  rw [lf_12]
  show Steps p.tables e below (T3.setTop (mkF m 56 #[.val (.ref o1), .val (.int p1), .val (.int (1 : Int32)), .val (.int p1), .val (.int (6 : Int32)), .val (.int ((p1 / (10000 : Int32)) / (10 : Int32))), .unset] [])) _
  refine st4 _ ?_
  show Steps p.tables e below (T4.setTop (mkF m 56 #[.val (.ref o1), .val (.int p1), .val (.int (1 : Int32)), .val (.int p1), .val (.int ((6 : Int32) + (1 : Int32))), .val (.int (((p1 / (10000 : Int32)) / (10 : Int32)) / (10 : Int32))), .unset] [])) _
  rw [lf_19]
  show Steps p.tables e below (T4.setTop (mkF m 56 #[.val (.ref o1), .val (.int p1), .val (.int (1 : Int32)), .val (.int p1), .val (.int (7 : Int32)), .val (.int (((p1 / (10000 : Int32)) / (10 : Int32)) / (10 : Int32))), .unset] [])) _
  refine st5 _ ?_
  show Steps p.tables e below (T5.setTop (mkF m 56 #[.val (.ref o1), .val (.int p1), .val (.int (1 : Int32)), .val (.int p1), .val (.int ((7 : Int32) + (1 : Int32))), .val (.int ((((p1 / (10000 : Int32)) / (10 : Int32)) / (10 : Int32)) / (10 : Int32))), .unset] [])) _
  rw [lf_26]
  show Steps p.tables e below (T5.setTop (mkF m 56 #[.val (.ref o1), .val (.int p1), .val (.int (1 : Int32)), .val (.int p1), .val (.int (8 : Int32)), .val (.int ((((p1 / (10000 : Int32)) / (10 : Int32)) / (10 : Int32)) / (10 : Int32))), .unset] [])) _
  refine st6 _ ?_
  show Steps p.tables e below (T6.setTop (mkF m 56 #[.val (.ref o1), .val (.int p1), .val (.int (1 : Int32)), .val (.int p1), .val (.int ((8 : Int32) + (1 : Int32))), .val (.int (((((p1 / (10000 : Int32)) / (10 : Int32)) / (10 : Int32)) / (10 : Int32)) / (10 : Int32))), .unset] [])) _
  rw [lf_33]
  refine XS.iload X6.here hx rfl (hb hby d1_56) rfl ?_
  refine XS.ifYes X6.here hx rfl (pc0 := 58) (pc' := 74) rfl (hb hby d1_58) rfl ((if0 _ _).trans (teq hp5).1) (by decide) (by decide) ?_
  refine XS.iloadN X6.here hx rfl (hb hby d1_74) rfl ?_
  refine XS.istore X6.here hx rfl (hb hby d1_75) rfl (l' := #[.val (.ref o1), .val (.int p1), .val (.int (1 : Int32)), .val (.int p1), .val (.int (9 : Int32)), .val (.int p1), .unset]) rfl ?_
  refine XS.iload X6.here hx rfl (hb hby d1_77) rfl ?_
  refine XS.iconst X6.here hx rfl (hb hby d1_79) ?_
  refine XS.isub X6.here hx rfl (hb hby d1_80) rfl ?_
  show Steps p.tables e below (T6.setTop (mkF m 81 #[.val (.ref o1), .val (.int p1), .val (.int (1 : Int32)), .val (.int p1), .val (.int (9 : Int32)), .val (.int p1), .unset] [(.int ((9 : Int32) - (1 : Int32)))])) _
  rw [lf_34]
  refine XS.istore X6.here hx rfl (hb hby d1_81) rfl (l' := #[.val (.ref o1), .val (.int p1), .val (.int (1 : Int32)), .val (.int p1), .val (.int (9 : Int32)), .val (.int p1), .val (.int (8 : Int32))]) rfl ?_
  show Steps p.tables e below (T6.setTop (mkF m 83 #[.val (.ref o1), .val (.int p1), .val (.int (1 : Int32)), .val (.int p1), .val (.int (9 : Int32)), .val (.int p1), .val (.int (8 : Int32))] [])) _
  refine st7 _ ?_
  show Steps p.tables e below (T7.setTop (mkF m 83 #[.val (.ref o1), .val (.int p1), .val (.int (1 : Int32)), .val (.int p1), .val (.int (9 : Int32)), .val (.int z5_7), .val (.int ((8 : Int32) + (-1 : Int32)))] [])) _
  rw [lf_35]
  show Steps p.tables e below (T7.setTop (mkF m 83 #[.val (.ref o1), .val (.int p1), .val (.int (1 : Int32)), .val (.int p1), .val (.int (9 : Int32)), .val (.int z5_7), .val (.int (7 : Int32))] [])) _
  refine st8 _ ?_
  show Steps p.tables e below (T8.setTop (mkF m 83 #[.val (.ref o1), .val (.int p1), .val (.int (1 : Int32)), .val (.int p1), .val (.int (9 : Int32)), .val (.int z5_8), .val (.int ((7 : Int32) + (-1 : Int32)))] [])) _
  rw [lf_28]
  show Steps p.tables e below (T8.setTop (mkF m 83 #[.val (.ref o1), .val (.int p1), .val (.int (1 : Int32)), .val (.int p1), .val (.int (9 : Int32)), .val (.int z5_8), .val (.int (6 : Int32))] [])) _
  refine st9 _ ?_
  show Steps p.tables e below (T9.setTop (mkF m 83 #[.val (.ref o1), .val (.int p1), .val (.int (1 : Int32)), .val (.int p1), .val (.int (9 : Int32)), .val (.int z5_9), .val (.int ((6 : Int32) + (-1 : Int32)))] [])) _
  rw [lf_21]
  show Steps p.tables e below (T9.setTop (mkF m 83 #[.val (.ref o1), .val (.int p1), .val (.int (1 : Int32)), .val (.int p1), .val (.int (9 : Int32)), .val (.int z5_9), .val (.int (5 : Int32))] [])) _
  refine st10 _ ?_
  show Steps p.tables e below (T10.setTop (mkF m 83 #[.val (.ref o1), .val (.int p1), .val (.int (1 : Int32)), .val (.int p1), .val (.int (9 : Int32)), .val (.int z5_10), .val (.int ((5 : Int32) + (-1 : Int32)))] [])) _
  rw [lf_14]
  show Steps p.tables e below (T10.setTop (mkF m 83 #[.val (.ref o1), .val (.int p1), .val (.int (1 : Int32)), .val (.int p1), .val (.int (9 : Int32)), .val (.int z5_10), .val (.int (4 : Int32))] [])) _
  refine st11 _ ?_
  show Steps p.tables e below (T11.setTop (mkF m 83 #[.val (.ref o1), .val (.int p1), .val (.int (1 : Int32)), .val (.int p1), .val (.int (9 : Int32)), .val (.int z5_11), .val (.int ((4 : Int32) + (-1 : Int32)))] [])) _
  rw [lf_2]
  show Steps p.tables e below (T11.setTop (mkF m 83 #[.val (.ref o1), .val (.int p1), .val (.int (1 : Int32)), .val (.int p1), .val (.int (9 : Int32)), .val (.int z5_11), .val (.int (3 : Int32))] [])) _
  refine st12 _ ?_
  show Steps p.tables e below (T12.setTop (mkF m 83 #[.val (.ref o1), .val (.int p1), .val (.int (1 : Int32)), .val (.int p1), .val (.int (9 : Int32)), .val (.int z5_12), .val (.int ((3 : Int32) + (-1 : Int32)))] [])) _
  rw [lf_3]
  show Steps p.tables e below (T12.setTop (mkF m 83 #[.val (.ref o1), .val (.int p1), .val (.int (1 : Int32)), .val (.int p1), .val (.int (9 : Int32)), .val (.int z5_12), .val (.int (2 : Int32))] [])) _
  refine st13 _ ?_
  show Steps p.tables e below (T13.setTop (mkF m 83 #[.val (.ref o1), .val (.int p1), .val (.int (1 : Int32)), .val (.int p1), .val (.int (9 : Int32)), .val (.int z5_13), .val (.int ((2 : Int32) + (-1 : Int32)))] [])) _
  rw [lf_4]
  show Steps p.tables e below (T13.setTop (mkF m 83 #[.val (.ref o1), .val (.int p1), .val (.int (1 : Int32)), .val (.int p1), .val (.int (9 : Int32)), .val (.int z5_13), .val (.int (1 : Int32))] [])) _
  refine st14 _ ?_
  show Steps p.tables e below (T14.setTop (mkF m 83 #[.val (.ref o1), .val (.int p1), .val (.int (1 : Int32)), .val (.int p1), .val (.int (9 : Int32)), .val (.int z5_14), .val (.int ((1 : Int32) + (-1 : Int32)))] [])) _
  rw [lf_5]
  refine XS.iload X14.here hx rfl (hb hby d1_83) rfl ?_
  refine XS.iloadN X14.here hx rfl (hb hby d1_85) rfl ?_
  refine XS.icmpYes X14.here hx rfl (pc0 := 86) (pc' := 115) rfl (hb hby d1_86) rfl (tlt (by decide : (0 : Int32) < (1 : Int32))).1 (by decide) (by decide) ?_
  refine XS.iload X14.here hx rfl (hb hby d1_115) rfl ?_
  show Steps p.tables e below (T14.setTop (mkF m 117 #[.val (.ref o1), .val (.int p1), .val (.int (1 : Int32)), .val (.int p1), .val (.int (9 : Int32)), .val (.int z5_14), .val (.int (0 : Int32))] [(.int (9 : Int32))])) _
  exact retI X14 hx hret (hb hby d1_117) hr
theorem lf_36 : ((11 : Int32) ||| (9 : Int32)) = (11 : Int32) := by decide
set_option maxRecDepth 65536 in
set_option maxHeartbeats 40000000 in
theorem rm_62 (l : Launch) (Z : State) (a0 : Array Value) (hw : ∀ d ∈ tables_1, d.before a0 Z = true) (w : Nat → Addr) (kk : Nat → ClassId) (iw : Nat → Int32) (vw : Nat → Value) (hN : Wd Z w kk iw vw) (ws : List Jvm.Cond)  (h0 : Heap) (O0 : Old Z Z.heap.size h0) :
    Met l Z (⟨s_6, s_11, s_5⟩ : MethodName) (Jvm.Cond.code (⟨s_6, s_11, s_5⟩ : MethodName) jdk_41_method_13_code 4 (some .int)) ws (Rm 0 0 0 0) #[(.int (0 : Int32)), (.int (9 : Int32)), (.int (11 : Int32)), (vw 0)] h0 (OQ (some (.int (0 : Int32))) h0 Z.heap.size) := by
  have hN' := hN
  obtain ⟨hS0, hE0, hS1, hE1, hS2, hE2, hI0, hJ0, hR0, hRr0, hEq0⟩ := hN'
  refine own_body (plainFor_of_name pn_2) hisR ?_
  intro p e s m below meth c s₁ hx hby hml hown hnm hret X0 hZ e0
  have N0 := Fr.nil Z.heap.size
  refine ⟨s₁, some (.int (0 : Int32)), _, _, _, by decide, by decide, X0, nofun, (by rw [e0]; exact ⟨rfl, N0, rfl⟩), fun fs hr => castTop (ef_2 m (.int (0 : Int32)) rfl (.int (9 : Int32)) rfl (.int (11 : Int32)) rfl (vw 0) (own_cat hRr0)) ?_⟩
  show Steps p.tables e below (s₁.setTop (mkF m 0 #[.val (.int (0 : Int32)), .val (.int (9 : Int32)), .val (.int (11 : Int32)), .val (vw 0)] [])) _
  refine XS.iloadN X0.here hx rfl (hb hby d6_0) rfl ?_
  refine XS.iloadN X0.here hx rfl (hb hby d6_1) rfl ?_
  refine XS.ior X0.here hx rfl (hb hby d6_2) rfl ?_
  show Steps p.tables e below (s₁.setTop (mkF m 3 #[.val (.int (0 : Int32)), .val (.int (9 : Int32)), .val (.int (11 : Int32)), .val (vw 0)] [(.int ((11 : Int32) ||| (0 : Int32)))])) _
  rw [lf_6]
  refine XS.iloadN X0.here hx rfl (hb hby d6_3) rfl ?_
  refine XS.ior X0.here hx rfl (hb hby d6_4) rfl ?_
  show Steps p.tables e below (s₁.setTop (mkF m 5 #[.val (.int (0 : Int32)), .val (.int (9 : Int32)), .val (.int (11 : Int32)), .val (vw 0)] [(.int ((11 : Int32) ||| (9 : Int32)))])) _
  rw [lf_36]
  refine XS.ifNo X0.here hx rfl (hb hby d6_5) rfl ((if0 _ _).trans (flt (by decide : ¬ ((11 : Int32) < (0 : Int32)))).1) ?_
  refine XS.iloadN X0.here hx rfl (hb hby d6_8) rfl ?_
  refine XS.iloadN X0.here hx rfl (hb hby d6_9) rfl ?_
  refine XS.iloadN X0.here hx rfl (hb hby d6_10) rfl ?_
  refine XS.isub X0.here hx rfl (hb hby d6_11) rfl ?_
  show Steps p.tables e below (s₁.setTop (mkF m 12 #[.val (.int (0 : Int32)), .val (.int (9 : Int32)), .val (.int (11 : Int32)), .val (vw 0)] [(.int ((11 : Int32) - (0 : Int32))), (.int (9 : Int32))])) _
  rw [lf_8]
  show Steps p.tables e below (s₁.setTop (mkF m 12 #[.val (.int (0 : Int32)), .val (.int (9 : Int32)), .val (.int (11 : Int32)), .val (vw 0)] [(.int (11 : Int32)), (.int (9 : Int32))])) _
  refine XS.icmpYes X0.here hx rfl (pc0 := 12) (pc' := 23) rfl (hb hby d6_12) rfl (flt (by decide : ¬ ((11 : Int32) < (9 : Int32)))).2.2.2 (by decide) (by decide) ?_
  refine XS.iloadN X0.here hx rfl (hb hby d6_23) rfl ?_
  show Steps p.tables e below (s₁.setTop (mkF m 24 #[.val (.int (0 : Int32)), .val (.int (9 : Int32)), .val (.int (11 : Int32)), .val (vw 0)] [(.int (0 : Int32))])) _
  exact retI X0 hx hret (hb hby d6_24) hr
set_option maxRecDepth 65536 in
set_option maxHeartbeats 40000000 in
theorem rm_63 (l : Launch) (Z : State) (a0 : Array Value) (hw : ∀ d ∈ tables_1, d.before a0 Z = true) (w : Nat → Addr) (kk : Nat → ClassId) (iw : Nat → Int32) (vw : Nat → Value) (hN : Wd Z w kk iw vw) (ws : List Jvm.Cond)  (h0 : Heap) (O0 : Old Z Z.heap.size h0) :
    Met l Z (⟨s_0, s_10, "(III)I"⟩ : MethodName) (Jvm.Cond.code (⟨s_0, s_10, "(III)I"⟩ : MethodName) jdk_42_method_157_code 3 (some .int)) ws (Rm 1 0 0 15) #[(.int (0 : Int32)), (.int (9 : Int32)), (.int (11 : Int32))] h0 (OQ (some (.int (0 : Int32))) h0 Z.heap.size) := by
  have hN' := hN
  obtain ⟨hS0, hE0, hS1, hE1, hS2, hE2, hI0, hJ0, hR0, hRr0, hEq0⟩ := hN'
  refine own_body (plainFor_of_name pn_3) hisR ?_
  intro p e s m below meth c s₁ hx hby hml hown hnm hret X0 hZ e0
  have N0 := Fr.nil Z.heap.size
  obtain ⟨T1, X1, e1, st1⟩ := getS2 X0 hx hZ hown (host := "") (Or.inl (W hw 28 rfl)) Via.refl e0 (hR0.ext O0.2) (g := (mkF m 3 #[.val (.int (0 : Int32)), .val (.int (9 : Int32)), .val (.int (11 : Int32))] [(.int (11 : Int32)), (.int (9 : Int32)), (.int (0 : Int32))])) rfl (hb hby d5_3)
  obtain ⟨_, _, ⟨T2, L2, k2, n2⟩, -, X2, ⟨Lc2, hQ2, l2, y2, z2⟩, st2⟩ := Jvm.LawKit.callS X1 hx (y := (⟨s_6, s_11, s_5⟩ : MethodName)) hown (mvT hZ (W hw 30 rfl)) (mvT hZ (W hw 31 rfl)) (mvT hZ (W hw 29 rfl)) (mvT hZ (W hw 32 rfl)) (by decide) (backOf (W := 0) (rm_62 l Z a0 hw w kk iw vw hN [] h0 O0) hZ (W hw 32 rfl) (W hw 29 rfl) (by decide) (by decide)) (g := (mkF m 6 #[.val (.int (0 : Int32)), .val (.int (9 : Int32)), .val (.int (11 : Int32))] [(vw 0), (.int (11 : Int32)), (.int (9 : Int32)), (.int (0 : Int32))])) rfl (by rw [hml]; rfl) (argsL := [(.int (0 : Int32)), (.int (9 : Int32)), (.int (11 : Int32)), (vw 0)]) (rest := []) (lenOf pd_2 rfl) rfl (by show 2 * 0 + _ ≤ _; exact Nat.le_of_eq rfl) (hb hby d5_6) (fun _ _ => ⟨rfl, e1, (by decide : 0 + 0 ≤ _), (by decide : 0 + 0 ≤ _)⟩)
  dsimp only [Pt.U, Pt.locs, Pt.cells, Pt.slots] at X2 l2 y2 z2 st2 hQ2
  subst l2 y2 z2
  obtain ⟨rfl, N2q, e2⟩ := hQ2
  have N2 := Fr.app N0 N2q
  refine ⟨T2, some (.int (0 : Int32)), _, _, _, by decide, by decide, X2, nofun, (by rw [e2]; exact ⟨rfl, N2, rfl⟩), fun fs hr => castTop (ef_3 m (.int (0 : Int32)) rfl (.int (9 : Int32)) rfl (.int (11 : Int32)) rfl) ?_⟩
  show Steps p.tables e below (s₁.setTop (mkF m 0 #[.val (.int (0 : Int32)), .val (.int (9 : Int32)), .val (.int (11 : Int32))] [])) _
  refine XS.iloadN X0.here hx rfl (hb hby d5_0) rfl ?_
  refine XS.iloadN X0.here hx rfl (hb hby d5_1) rfl ?_
  refine XS.iloadN X0.here hx rfl (hb hby d5_2) rfl ?_
  refine st1 _ ?_
  refine st2 _ ?_
  show Steps p.tables e below (T2.setTop (mkF m 9 #[.val (.int (0 : Int32)), .val (.int (9 : Int32)), .val (.int (11 : Int32))] [(.int (0 : Int32))])) _
  exact retI X2 hx hret (hb hby d5_9) hr
theorem lf_37 : ((0 : Int32) + (9 : Int32)) = (9 : Int32) := by decide
set_option maxRecDepth 65536 in
set_option maxHeartbeats 40000000 in
theorem rm_64 (l : Launch) (Z : State) (a0 : Array Value) (hw : ∀ d ∈ tables_1, d.before a0 Z = true) (w : Nat → Addr) (kk : Nat → ClassId) (iw : Nat → Int32) (vw : Nat → Value) (hN : Wd Z w kk iw vw) (ws : List Jvm.Cond)  (h0 : Heap) (O0 : Old Z Z.heap.size h0) :
    Met l Z (⟨s_2, "checkLength", "(II)V"⟩ : MethodName) (Jvm.Cond.code (⟨s_2, "checkLength", "(II)V"⟩ : MethodName) jdk_65_method_131_code 2 none) ws (Rm 0 0 0 0) #[(.int (0 : Int32)), (.int (9 : Int32))] h0 (OQ (none) h0 Z.heap.size) := by
  have hN' := hN
  obtain ⟨hS0, hE0, hS1, hE1, hS2, hE2, hI0, hJ0, hR0, hRr0, hEq0⟩ := hN'
  refine own_body (plainFor_of_name pn_4) hisR ?_
  intro p e s m below meth c s₁ hx hby hml hown hnm hret X0 hZ e0
  have N0 := Fr.nil Z.heap.size
  refine ⟨s₁, none, _, _, _, by decide, by decide, X0, (fun _ => rfl), (by rw [e0]; exact ⟨rfl, N0, rfl⟩), fun fs hr => castTop (ef_4 m (.int (0 : Int32)) rfl (.int (9 : Int32)) rfl) ?_⟩
  show Steps p.tables e below (s₁.setTop (mkF m 0 #[.val (.int (0 : Int32)), .val (.int (9 : Int32))] [])) _
  refine XS.iloadN X0.here hx rfl (hb hby d10_0) rfl ?_
  refine XS.iloadN X0.here hx rfl (hb hby d10_1) rfl ?_
  refine XS.icmpYes X0.here hx rfl (pc0 := 2) (pc' := 37) rfl (hb hby d10_2) rfl (flt (by decide : ¬ ((9 : Int32) < (0 : Int32)))).2.1 (by decide) (by decide) ?_
  show Steps p.tables e below (s₁.setTop (mkF m 37 #[.val (.int (0 : Int32)), .val (.int (9 : Int32))] [])) _
  exact X0.returnOut hx hret (hb hby d10_37) hr
theorem lf_38 : ((9 : Int32) - (0 : Int32)) = (9 : Int32) := by decide
set_option maxRecDepth 65536 in
set_option maxHeartbeats 40000000 in
theorem rm_65 (l : Launch) (Z : State) (a0 : Array Value) (hw : ∀ d ∈ tables_1, d.before a0 Z = true) (w : Nat → Addr) (kk : Nat → ClassId) (iw : Nat → Int32) (vw : Nat → Value) (hN : Wd Z w kk iw vw) (ws : List Jvm.Cond)  (h0 : Heap) (O0 : Old Z Z.heap.size h0) :
    Met l Z (⟨s_14, "min", "(II)I"⟩ : MethodName) (Jvm.Cond.code (⟨s_14, "min", "(II)I"⟩ : MethodName) jdk_29_method_69_code 2 (some .int)) ws (Rm 0 0 0 0) #[(.int (11 : Int32)), (.int (9 : Int32))] h0 (OQ (some (.int (9 : Int32))) h0 Z.heap.size) := by
  have hN' := hN
  obtain ⟨hS0, hE0, hS1, hE1, hS2, hE2, hI0, hJ0, hR0, hRr0, hEq0⟩ := hN'
  refine own_body (Jvm.Free.JP.mathPlain rfl (by decide +kernel)) hisR ?_
  intro p e s m below meth c s₁ hx hby hml hown hnm hret X0 hZ e0
  have N0 := Fr.nil Z.heap.size
  refine ⟨s₁, some (.int (9 : Int32)), _, _, _, by decide, by decide, X0, nofun, (by rw [e0]; exact ⟨rfl, N0, rfl⟩), fun fs hr => castTop (ef_4 m (.int (11 : Int32)) rfl (.int (9 : Int32)) rfl) ?_⟩
  show Steps p.tables e below (s₁.setTop (mkF m 0 #[.val (.int (11 : Int32)), .val (.int (9 : Int32))] [])) _
  refine XS.iloadN X0.here hx rfl (hb hby d11_0) rfl ?_
  refine XS.iloadN X0.here hx rfl (hb hby d11_1) rfl ?_
  refine XS.icmpYes X0.here hx rfl (pc0 := 2) (pc' := 9) rfl (hb hby d11_2) rfl (tlt (by decide : (9 : Int32) < (11 : Int32))).2.2.1 (by decide) (by decide) ?_
  refine XS.iloadN X0.here hx rfl (hb hby d11_9) rfl ?_
  show Steps p.tables e below (s₁.setTop (mkF m 10 #[.val (.int (11 : Int32)), .val (.int (9 : Int32))] [(.int (9 : Int32))])) _
  exact retI X0 hx hret (hb hby d11_10) hr
def Qd_21 (Z : State) (w : Nat → Addr) (kk : Nat → ClassId) (iw : Nat → Int32) (vw : Nat → Value) (o1 : Addr) (vl_o1 : List Value) (kc_o1 : ClassId) (h0 : Heap) (n0 : Nat) (v : Option Value) (h : Heap) (L : List Loc) : Prop := ∃ (c1 : Addr) (kc1 : ClassId) (vx1 : List Value), v = some (.ref c1) ∧ Fr n0 L ∧ Keep h0 h [] ∧ h0.size ≤ c1 ∧ Exa Z h c1 "[B" ∧ Arv Z h c1 kc1 .byte (9 : Int32) vx1 (.int (0 : Int32))
set_option maxRecDepth 65536 in
set_option maxHeartbeats 40000000 in
theorem rm_66 (l : Launch) (Z : State) (a0 : Array Value) (hw : ∀ d ∈ tables_1, d.before a0 Z = true) (w : Nat → Addr) (kk : Nat → ClassId) (iw : Nat → Int32) (vw : Nat → Value) (hN : Wd Z w kk iw vw) (ws : List Jvm.Cond) (o1 : Addr) (vl_o1 : List Value) (kc_o1 : ClassId) (h0 : Heap) (O0 : Old Z Z.heap.size h0) (gn_o1 : Z.heap.size ≤ o1) (lt_o1 : o1 < h0.size) (E_o1 : Exa Z h0 o1 "[B") (V_o1 : Arv Z h0 o1 kc_o1 .byte (11 : Int32) vl_o1 (.int (0 : Int32))) :
    Met l Z (⟨s_2, s_13, "([BII)[B"⟩ : MethodName) (Jvm.Cond.code (⟨s_2, s_13, "([BII)[B"⟩ : MethodName) jdk_65_method_133_code 5 (some (.array .byte))) ws (Rm 1 1 9 18) #[(.ref o1), (.int (0 : Int32)), (.int (9 : Int32))] h0 (Qd_21 Z w kk iw vw o1 vl_o1 kc_o1 h0 Z.heap.size) := by
  have hN' := hN
  obtain ⟨hS0, hE0, hS1, hE1, hS2, hE2, hI0, hJ0, hR0, hRr0, hEq0⟩ := hN'
  refine own_body (plainFor_of_name pn_4) hisR ?_
  intro p e s m below meth c s₁ hx hby hml hown hnm hret X0 hZ e0
  have N0 := Fr.nil Z.heap.size
  have K0 : Keep h0 h0 [] := Keep.refl _ _
  obtain ⟨_, _, ⟨T1, L1, k1, n1⟩, -, X1, ⟨Lc1, hQ1, l1, y1, z1⟩, st1⟩ := Jvm.LawKit.callS X0 hx (y := (⟨s_2, "checkLength", "(II)V"⟩ : MethodName)) hown (mvT hZ (W hw 52 rfl)) (mvT hZ (W hw 53 rfl)) (mvT hZ (W hw 47 rfl)) (mvT hZ (W hw 54 rfl)) (by decide) (backOf (W := 0) (rm_64 l Z a0 hw w kk iw vw hN [] h0 O0) hZ (W hw 54 rfl) (W hw 47 rfl) (by decide) (by decide)) (g := (mkF m 2 #[.val (.ref o1), .val (.int (0 : Int32)), .val (.int (9 : Int32)), .unset, .unset] [(.int (9 : Int32)), (.int (0 : Int32))])) rfl (by rw [hml]; rfl) (argsL := [(.int (0 : Int32)), (.int (9 : Int32))]) (rest := []) (lenOf pd_4 rfl) rfl (by show 2 * 0 + _ ≤ _; exact Nat.le_of_eq rfl) (hb hby d9_2) (fun _ _ => ⟨rfl, e0, (by decide : 0 + 0 ≤ _), (by decide : 0 + 0 ≤ _)⟩)
  dsimp only [Pt.U, Pt.locs, Pt.cells, Pt.slots] at X1 l1 y1 z1 st1 hQ1
  subst l1 y1 z1
  obtain ⟨rfl, N1q, e1⟩ := hQ1
  have N1 := Fr.app N0 N1q
  obtain ⟨T2, h2, k2, X2, e2, E2, A2, AE2, st2⟩ := newPE X1 hx hZ (W hw 4 rfl) e1 (g := (mkF m 10 #[.val (.ref o1), .val (.int (0 : Int32)), .val (.int (9 : Int32)), .val (.int (9 : Int32)), .unset] [(.int (9 : Int32))])) rfl (hb hby d9_10) rfl (by decide) (cap := 9) (by decide) (by decide) (by decide) (by decide) (ad := "[B") rfl
  obtain ⟨b2, g2⟩ : ∃ z, z = h0.size := ⟨_, rfl⟩
  rw [← g2] at A2 st2 AE2
  have gn_b2 : Z.heap.size ≤ b2 := Nat.le_trans O0.2.1 (Nat.le_of_eq g2.symm)
  have sz_b2 : h0.size ≤ b2 := Nat.le_trans K0.1 (Nat.le_of_eq g2.symm)
  have ne_o1_b2 : o1 ≠ b2 := Nat.ne_of_lt (Nat.lt_of_lt_of_le E_o1.lt (Nat.le_of_eq g2.symm))
  have E_o1_v2 := E_o1.ext E2
  have V_o1_v2 := V_o1.ext E2
  have O2 := O0.ext E2
  have K2 := K0.ext E2
  have E_b2_v2 := AE2
  have V_b2_v2 : Arv Z h2 b2 k2 .byte (9 : Int32) [] (.int (0 : Int32)) := Arv.new A2 (by decide)
  obtain ⟨cl3, Ar3, q3, Sz3, Ng3, Hv3, Gv3⟩ := id V_o1_v2
  obtain ⟨_, _, ⟨T4, L4, k4, n4⟩, -, X4, ⟨Lc4, hQ4, l4, y4, z4⟩, st4⟩ := Jvm.LawKit.callS X2 hx (y := (⟨s_14, "min", "(II)I"⟩ : MethodName)) hown (mvT hZ (W hw 55 rfl)) (mvT hZ (W hw 56 rfl)) (mvT hZ (W hw 57 rfl)) (mvT hZ (W hw 58 rfl)) (by decide) (backOf (W := 4) (rm_65 l Z a0 hw w kk iw vw hN [] h2 O2) hZ (W hw 58 rfl) (W hw 57 rfl) (by decide) (by decide)) (g := (mkF m 24 #[.val (.ref o1), .val (.int (0 : Int32)), .val (.int (9 : Int32)), .val (.int (9 : Int32)), .val (.ref b2)] [(.int (9 : Int32)), (.int (11 : Int32)), (.int (0 : Int32)), (.ref b2), (.int (0 : Int32)), (.ref o1)])) rfl (by rw [hml]; rfl) (argsL := [(.int (11 : Int32)), (.int (9 : Int32))]) (rest := [(.int (0 : Int32)), (.ref b2), (.int (0 : Int32)), (.ref o1)]) (lenOf pd_5 rfl) rfl (by show 2 * 0 + _ ≤ _; exact Nat.le_of_eq rfl) (hb hby d9_24) (fun _ _ => ⟨rfl, e2, (by decide : 1 + 0 ≤ _), (by decide : 9 + 0 ≤ _)⟩)
  dsimp only [Pt.U, Pt.locs, Pt.cells, Pt.slots] at X4 l4 y4 z4 st4 hQ4
  subst l4 y4 z4
  obtain ⟨rfl, N4q, e4⟩ := hQ4
  have N4 := Fr.app N1 N4q
  have V_b2_v5 : Arv Z h2 b2 k2 .byte (9 : Int32) [(.int (0 : Int32)), (.int (0 : Int32)), (.int (0 : Int32)), (.int (0 : Int32)), (.int (0 : Int32)), (.int (0 : Int32)), (.int (0 : Int32)), (.int (0 : Int32)), (.int (0 : Int32))] (.int (0 : Int32)) := V_b2_v2.pad (pad_rep [] (.int (0 : Int32)) 9)
  obtain ⟨T6, h6, L6, X6, e6, N6, Kq6, Vc6, st6⟩ := cpA X4 hx hZ hown (W hw 59 rfl) (W hw 62 rfl) (W hw 60 rfl) (W hw 61 rfl) e4 V_o1_v2 V_b2_v5  (Or.inl ⟨rfl, rfl⟩) (by decide) (by decide) (by decide) (by decide) (by decide) rfl (by decide) N4 gn_b2 (g := (mkF m 27 #[.val (.ref o1), .val (.int (0 : Int32)), .val (.int (9 : Int32)), .val (.int (9 : Int32)), .val (.ref b2)] [(.int (9 : Int32)), (.int (0 : Int32)), (.ref b2), (.int (0 : Int32)), (.ref o1)])) rfl (by rw [hml]; rfl) rfl (hb hby d9_27) (by decide) (W := 0) (by show 2 * 0 + _ ≤ _; exact Nat.le_of_eq rfl) (by decide)
  have E_o1_v6 := E_o1_v2.keep Kq6
  have V_o1_v6 := V_o1_v2.keep Kq6 (ninS ne_o1_b2 nin0)
  have E_b2_v6 := E_b2_v2.keep Kq6
  have O6 := O2.keep Kq6 (allS gn_b2 all0)
  have K6 : Keep h0 h6 [] := K2.trans Kq6 (allS (Or.inr sz_b2) all0)
  obtain ⟨vl6, V_b2_v6⟩ : ∃ vs, Arv Z h6 b2 k2 .byte (9 : Int32) vs (.int (0 : Int32)) := ⟨_, Vc6⟩
  refine ⟨T6, some (.ref b2), _, _, _, by decide, by decide, X6, nofun, (by rw [e6]; exact ⟨b2, k2, vl6, rfl, N6, K6, sz_b2, E_b2_v6, V_b2_v6⟩), fun fs hr => castTop (ef_5 m (.ref o1) rfl (.int (0 : Int32)) rfl (.int (9 : Int32)) rfl) ?_⟩
  show Steps p.tables e below (s₁.setTop (mkF m 0 #[.val (.ref o1), .val (.int (0 : Int32)), .val (.int (9 : Int32)), .unset, .unset] [])) _
  refine XS.iloadN X0.here hx rfl (hb hby d9_0) rfl ?_
  refine XS.iloadN X0.here hx rfl (hb hby d9_1) rfl ?_
  refine st1 _ ?_
  refine XS.iloadN X1.here hx rfl (hb hby d9_5) rfl ?_
  refine XS.iloadN X1.here hx rfl (hb hby d9_6) rfl ?_
  refine XS.isub X1.here hx rfl (hb hby d9_7) rfl ?_
  show Steps p.tables e below (T1.setTop (mkF m 8 #[.val (.ref o1), .val (.int (0 : Int32)), .val (.int (9 : Int32)), .unset, .unset] [(.int ((9 : Int32) - (0 : Int32)))])) _
  rw [lf_38]
  refine XS.istoreN X1.here hx rfl (hb hby d9_8) rfl (l' := #[.val (.ref o1), .val (.int (0 : Int32)), .val (.int (9 : Int32)), .val (.int (9 : Int32)), .unset]) rfl ?_
  refine XS.iloadN X1.here hx rfl (hb hby d9_9) rfl ?_
  refine st2 _ ?_
  refine XS.astore X2.here hx rfl (hb hby d9_12) rfl rfl (l' := #[.val (.ref o1), .val (.int (0 : Int32)), .val (.int (9 : Int32)), .val (.int (9 : Int32)), .val (.ref b2)]) rfl ?_
  show Steps p.tables e below (T2.setTop (mkF m 14 #[.val (.ref o1), .val (.int (0 : Int32)), .val (.int (9 : Int32)), .val (.int (9 : Int32)), .val (.ref b2)] [])) _
  refine XS.aloadN X2.here hx rfl (hb hby d9_14) rfl rfl ?_
  refine XS.iloadN X2.here hx rfl (hb hby d9_15) rfl ?_
  refine XS.aload X2.here hx rfl (hb hby d9_16) rfl rfl ?_
  refine XS.iconst X2.here hx rfl (hb hby d9_18) ?_
  refine XS.aloadN X2.here hx rfl (hb hby d9_19) rfl rfl ?_
  refine X2.arraylength hx (by rw [e2]; exact Ar3.1) (State.isArrayOf_alike hZ.alike Ar3.2.1) (g := (mkF m 20 #[.val (.ref o1), .val (.int (0 : Int32)), .val (.int (9 : Int32)), .val (.int (9 : Int32)), .val (.ref b2)] [(.ref o1), (.int (0 : Int32)), (.ref b2), (.int (0 : Int32)), (.ref o1)])) rfl rfl (hb hby d9_20) _ ?_
  rw [len_of Sz3 Ng3]
  refine XS.iloadN X2.here hx rfl (hb hby d9_21) rfl ?_
  refine XS.isub X2.here hx rfl (hb hby d9_22) rfl ?_
  show Steps p.tables e below (T2.setTop (mkF m 23 #[.val (.ref o1), .val (.int (0 : Int32)), .val (.int (9 : Int32)), .val (.int (9 : Int32)), .val (.ref b2)] [(.int ((11 : Int32) - (0 : Int32))), (.int (0 : Int32)), (.ref b2), (.int (0 : Int32)), (.ref o1)])) _
  rw [lf_8]
  refine XS.iloadN X2.here hx rfl (hb hby d9_23) rfl ?_
  refine st4 _ ?_
  show Steps p.tables e below (T4.setTop (mkF m 27 #[.val (.ref o1), .val (.int (0 : Int32)), .val (.int (9 : Int32)), .val (.int (9 : Int32)), .val (.ref b2)] [(.int (9 : Int32)), (.int (0 : Int32)), (.ref b2), (.int (0 : Int32)), (.ref o1)])) _
  refine st6 _ ?_
  refine XS.aload X6.here hx rfl (hb hby d9_30) rfl rfl ?_
  show Steps p.tables e below (T6.setTop (mkF m 32 #[.val (.ref o1), .val (.int (0 : Int32)), .val (.int (9 : Int32)), .val (.int (9 : Int32)), .val (.ref b2)] [(.ref b2)])) _
  exact retOut X6 hx hret rfl (Or.inr (Or.inr (Or.inr (Or.inr ⟨rfl, rfl, rfl⟩)))) (hb hby d9_32) hr
set_option maxRecDepth 65536 in
set_option maxHeartbeats 40000000 in
theorem rm_67 (l : Launch) (Z : State) (a0 : Array Value) (hw : ∀ d ∈ tables_1, d.before a0 Z = true) (w : Nat → Addr) (kk : Nat → ClassId) (iw : Nat → Int32) (vw : Nat → Value) (hN : Wd Z w kk iw vw) (ws : List Jvm.Cond) (o1 : Addr) (vl_o1 : List Value) (kc_o1 : ClassId) (h0 : Heap) (O0 : Old Z Z.heap.size h0) (gn_o1 : Z.heap.size ≤ o1) (lt_o1 : o1 < h0.size) (E_o1 : Exa Z h0 o1 "[B") (V_o1 : Arv Z h0 o1 kc_o1 .byte (11 : Int32) vl_o1 (.int (0 : Int32))) :
    Met l Z (⟨s_2, "copyOfRange", "([BII)[B"⟩ : MethodName) (Jvm.Cond.code (⟨s_2, "copyOfRange", "([BII)[B"⟩ : MethodName) jdk_65_method_132_code 3 (some (.array .byte))) ws (Rm 2 1 9 34) #[(.ref o1), (.int (0 : Int32)), (.int (9 : Int32))] h0 (Qd_21 Z w kk iw vw o1 vl_o1 kc_o1 h0 Z.heap.size) := by
  have hN' := hN
  obtain ⟨hS0, hE0, hS1, hE1, hS2, hE2, hI0, hJ0, hR0, hRr0, hEq0⟩ := hN'
  refine own_body (plainFor_of_name pn_4) hisR ?_
  intro p e s m below meth c s₁ hx hby hml hown hnm hret X0 hZ e0
  have N0 := Fr.nil Z.heap.size
  have K0 : Keep h0 h0 [] := Keep.refl _ _
  obtain ⟨cl1, Ar1, q1, Sz1, Ng1, Hv1, Gv1⟩ := id V_o1
  obtain ⟨_, _, ⟨T2, L2, k2, n2⟩, -, X2, ⟨Lc2, hQ2, l2, y2, z2⟩, st2⟩ := Jvm.LawKit.callS X0 hx (y := (⟨s_2, s_13, "([BII)[B"⟩ : MethodName)) hown (mvT hZ (W hw 49 rfl)) (mvT hZ (W hw 50 rfl)) (mvT hZ (W hw 47 rfl)) (mvT hZ (W hw 51 rfl)) (by decide) (backOf (W := 0) (rm_66 l Z a0 hw w kk iw vw hN [] o1 vl_o1 kc_o1 h0 O0 gn_o1 E_o1.lt E_o1 V_o1) hZ (W hw 51 rfl) (W hw 47 rfl) (by decide) (by decide)) (g := (mkF m 13 #[.val (.ref o1), .val (.int (0 : Int32)), .val (.int (9 : Int32))] [(.int (9 : Int32)), (.int (0 : Int32)), (.ref o1)])) rfl (by rw [hml]; rfl) (argsL := [(.ref o1), (.int (0 : Int32)), (.int (9 : Int32))]) (rest := []) (lenOf pd_6 rfl) rfl (by show 2 * 0 + _ ≤ _; exact Nat.le_of_eq rfl) (hb hby d8_13) (fun _ _ => ⟨rfl, e0, (by decide : 0 + 1 ≤ _), (by decide : 0 + 9 ≤ _)⟩)
  dsimp only [Pt.U, Pt.locs, Pt.cells, Pt.slots] at X2 l2 y2 z2 st2 hQ2
  subst l2 y2 z2
  obtain ⟨b2_0, kb2_0, vl2_0, rfl, N2q, Kq2, tk2_0, tk2_1, tk2_2⟩ := hQ2
  have N2 := Fr.app N0 N2q
  have gn_b2_0 : Z.heap.size ≤ b2_0 := Nat.le_trans O0.2.1 tk2_0
  have sz_b2_0 : h0.size ≤ b2_0 := Nat.le_trans K0.1 tk2_0
  have ne_o1_b2_0 : o1 ≠ b2_0 := Nat.ne_of_lt (Nat.lt_of_lt_of_le E_o1.lt tk2_0)
  have E_o1_v2 := E_o1.keep Kq2
  have V_o1_v2 := V_o1.keep Kq2 nin0
  have O2 := O0.keep Kq2 all0
  have K2 : Keep h0 T2.heap [] := K0.trans Kq2 all0
  refine ⟨T2, some (.ref b2_0), _, _, _, by decide, by decide, X2, nofun, ⟨b2_0, kb2_0, vl2_0, rfl, N2, K2, sz_b2_0, tk2_1, tk2_2⟩, fun fs hr => castTop (ef_6 m (.ref o1) rfl (.int (0 : Int32)) rfl (.int (9 : Int32)) rfl) ?_⟩
  show Steps p.tables e below (s₁.setTop (mkF m 0 #[.val (.ref o1), .val (.int (0 : Int32)), .val (.int (9 : Int32))] [])) _
  refine XS.iloadN X0.here hx rfl (hb hby d8_0) rfl ?_
  refine XS.ifNo X0.here hx rfl (hb hby d8_1) rfl ((if0 _ _).trans (teq (by decide : (0 : Int32) = (0 : Int32))).2) ?_
  refine XS.iloadN X0.here hx rfl (hb hby d8_4) rfl ?_
  refine XS.aloadN X0.here hx rfl (hb hby d8_5) rfl rfl ?_
  refine X0.arraylength hx (by rw [e0]; exact Ar1.1) (State.isArrayOf_alike hZ.alike Ar1.2.1) (g := (mkF m 6 #[.val (.ref o1), .val (.int (0 : Int32)), .val (.int (9 : Int32))] [(.ref o1), (.int (9 : Int32))])) rfl rfl (hb hby d8_6) _ ?_
  rw [len_of Sz1 Ng1]
  refine XS.icmpNo X0.here hx rfl (hb hby d8_7) rfl (feq (by decide : ¬ ((9 : Int32) = (11 : Int32)))).1 ?_
  refine XS.aloadN X0.here hx rfl (hb hby d8_10) rfl rfl ?_
  refine XS.iloadN X0.here hx rfl (hb hby d8_11) rfl ?_
  refine XS.iloadN X0.here hx rfl (hb hby d8_12) rfl ?_
  refine st2 _ ?_
  show Steps p.tables e below (T2.setTop (mkF m 16 #[.val (.ref o1), .val (.int (0 : Int32)), .val (.int (9 : Int32))] [(.ref b2_0)])) _
  exact retOut X2 hx hret rfl (Or.inr (Or.inr (Or.inr (Or.inr ⟨rfl, rfl, rfl⟩)))) (hb hby d8_16) hr
def Qd_22 (Z : State) (w : Nat → Addr) (kk : Nat → ClassId) (iw : Nat → Int32) (vw : Nat → Value) (o1 : Addr) (o2 : Addr) (vl_o2 : List Value) (kc_o2 : ClassId) (h0 : Heap) (n0 : Nat) (v : Option Value) (h : Heap) (L : List Loc) : Prop := ∃ (c1 : Addr) (kc1 : ClassId) (vx1 : List Value), v = none ∧ Fr n0 L ∧ Keep h0 h [o1] ∧ h0.size ≤ c1 ∧ Exa Z h o1 s_0 ∧ Fld Z h o1 s_0 "value" "[B" (.ref c1) ∧ Fld Z h o1 s_0 "coder" "B" (.int (0 : Int32)) ∧ Exa Z h c1 "[B" ∧ Arv Z h c1 kc1 .byte (9 : Int32) vx1 (.int (0 : Int32))
set_option maxRecDepth 65536 in
set_option maxHeartbeats 40000000 in
theorem rm_68 (l : Launch) (Z : State) (a0 : Array Value) (hw : ∀ d ∈ tables_1, d.before a0 Z = true) (w : Nat → Addr) (kk : Nat → ClassId) (iw : Nat → Int32) (vw : Nat → Value) (hN : Wd Z w kk iw vw) (ws : List Jvm.Cond) (o1 : Addr) (o2 : Addr) (vl_o2 : List Value) (kc_o2 : ClassId) (h0 : Heap) (O0 : Old Z Z.heap.size h0) (gn_o1 : Z.heap.size ≤ o1) (lt_o1 : o1 < h0.size) (gn_o2 : Z.heap.size ≤ o2) (lt_o2 : o2 < h0.size) (E_o1 : Exa Z h0 o1 s_0) (F_o1_value : Fld Z h0 o1 s_0 "value" "[B" .null) (F_o1_coder : Fld Z h0 o1 s_0 "coder" "B" (.int (0 : Int32))) (E_o2 : Exa Z h0 o2 "[B") (V_o2 : Arv Z h0 o2 kc_o2 .byte (11 : Int32) vl_o2 (.int (0 : Int32))) (ne_o1_o2 : o1 ≠ o2) :
    Met l Z (⟨s_0, "<init>", s_7⟩ : MethodName) (Jvm.Cond.codeWith (⟨s_0, "<init>", s_7⟩ : MethodName) jdk_42_method_11_code 11 none [(800, 813, 816, 202)]) ws (Rm 3 1 9 49) #[(.ref o1), (.ref (w 0)), (.ref o2), (.int (0 : Int32)), (.int (9 : Int32))] h0 (Qd_22 Z w kk iw vw o1 o2 vl_o2 kc_o2 h0 Z.heap.size) := by
  have hN' := hN
  obtain ⟨hS0, hE0, hS1, hE1, hS2, hE2, hI0, hJ0, hR0, hRr0, hEq0⟩ := hN'
  refine own_body (plainFor_of_name pn_3) hisWith ?_
  intro p e s m below meth c s₁ hx hby hml hown hnm hret X0 hZ e0
  have N0 := Fr.nil Z.heap.size
  have K0 : Keep h0 h0 [o1] := Keep.refl _ _
  obtain ⟨T1, X1, e1, st1⟩ := initO X0 hx hZ hown (W hw 37 rfl) (W hw 38 rfl) (W hw 39 rfl) e0 (g := (mkF m 1 #[.val (.ref o1), .val (.ref (w 0)), .val (.ref o2), .val (.int (0 : Int32)), .val (.int (9 : Int32)), .unset, .unset, .unset, .unset, .unset, .unset] [(.ref o1)])) rfl (by rw [hml]; rfl) rfl (hb hby d7_1) (by decide) (W := 0) (by show 2 * 0 + _ ≤ _; exact Nat.le_of_eq rfl) (by decide)
  obtain ⟨T2, X2, e2, st2⟩ := getS2 X1 hx hZ hown (host := "") (Or.inl (W hw 40 rfl)) Via.refl e1 (hS1.ext O0.2) (g := (mkF m 31 #[.val (.ref o1), .val (.ref (w 0)), .val (.ref o2), .val (.int (0 : Int32)), .val (.int (9 : Int32)), .unset, .unset, .unset, .unset, .unset, .unset] [(.ref (w 0))])) rfl (hb hby d7_31)
  obtain ⟨T3, X3, e3, st3⟩ := getS2 X2 hx hZ hown (host := "") (Or.inl (W hw 42 rfl)) Via.refl e2 (hS2.ext O0.2) (g := (mkF m 347 #[.val (.ref o1), .val (.ref (w 0)), .val (.ref o2), .val (.int (0 : Int32)), .val (.int (9 : Int32)), .unset, .unset, .unset, .unset, .unset, .unset] [(.ref (w 0))])) rfl (hb hby d7_347)
  obtain ⟨T4, X4, e4, st4⟩ := getS2 X3 hx hZ hown (host := "") (Or.inl (W hw 44 rfl)) Via.refl e3 (hI0.ext O0.2) (g := (mkF m 353 #[.val (.ref o1), .val (.ref (w 0)), .val (.ref o2), .val (.int (0 : Int32)), .val (.int (9 : Int32)), .unset, .unset, .unset, .unset, .unset, .unset] [])) rfl (hb hby d7_353)
  obtain ⟨_, _, ⟨T5, L5, k5, n5⟩, -, X5, ⟨Lc5, hQ5, l5, y5, z5⟩, st5⟩ := Jvm.LawKit.callS X4 hx (y := (⟨s_2, "copyOfRange", "([BII)[B"⟩ : MethodName)) hown (mvT hZ (W hw 45 rfl)) (mvT hZ (W hw 46 rfl)) (mvT hZ (W hw 47 rfl)) (mvT hZ (W hw 48 rfl)) (by decide) (backOf (W := 1) (rm_67 l Z a0 hw w kk iw vw hN [] o2 vl_o2 kc_o2 h0 O0 gn_o2 E_o2.lt E_o2 V_o2) hZ (W hw 48 rfl) (W hw 47 rfl) (by decide) (by decide)) (g := (mkF m 366 #[.val (.ref o1), .val (.ref (w 0)), .val (.ref o2), .val (.int (0 : Int32)), .val (.int (9 : Int32)), .unset, .unset, .unset, .unset, .unset, .unset] [(.int (9 : Int32)), (.int (0 : Int32)), (.ref o2), (.ref o1)])) rfl (by rw [hml]; rfl) (argsL := [(.ref o2), (.int (0 : Int32)), (.int (9 : Int32))]) (rest := [(.ref o1)]) (lenOf pd_6 rfl) rfl (by show 2 * 0 + _ ≤ _; exact Nat.le_of_eq rfl) (hb hby d7_366) (fun _ _ => ⟨rfl, e4, (by decide : 0 + 1 ≤ _), (by decide : 0 + 9 ≤ _)⟩)
  dsimp only [Pt.U, Pt.locs, Pt.cells, Pt.slots] at X5 l5 y5 z5 st5 hQ5
  subst l5 y5 z5
  obtain ⟨b5_0, kb5_0, vl5_0, rfl, N5q, Kq5, tk5_0, tk5_1, tk5_2⟩ := hQ5
  have N5 := Fr.app N0 N5q
  have gn_b5_0 : Z.heap.size ≤ b5_0 := Nat.le_trans O0.2.1 tk5_0
  have sz_b5_0 : h0.size ≤ b5_0 := Nat.le_trans K0.1 tk5_0
  have ne_o2_b5_0 : o2 ≠ b5_0 := Nat.ne_of_lt (Nat.lt_of_lt_of_le E_o2.lt tk5_0)
  have ne_o1_b5_0 : o1 ≠ b5_0 := Nat.ne_of_lt (Nat.lt_of_lt_of_le E_o1.lt tk5_0)
  have E_o1_v5 := E_o1.keep Kq5
  have F_o1_value_v5 := F_o1_value.keep Kq5 nin0
  have F_o1_coder_v5 := F_o1_coder.keep Kq5 nin0
  have E_o2_v5 := E_o2.keep Kq5
  have V_o2_v5 := V_o2.keep Kq5 nin0
  have O5 := O0.keep Kq5 all0
  have K5 : Keep h0 T5.heap [o1] := K0.trans Kq5 all0
  obtain ⟨T6, h6, X6, e6, W6, st6⟩ := putF X5 hx hZ hown (host := "") (Or.inl (W hw 63 rfl)) Via.refl rfl F_o1_value_v5 E_o1_v5 (Or.inr ⟨(W hw 64 rfl), rfl, hnm⟩) (W hw 12 rfl) (ty := (.array .byte)) (by decide) rfl rfl (g := (mkF m 369 #[.val (.ref o1), .val (.ref (w 0)), .val (.ref o2), .val (.int (0 : Int32)), .val (.int (9 : Int32)), .unset, .unset, .unset, .unset, .unset, .unset] [(.ref b5_0), (.ref o1)])) rfl rfl (hb hby d7_369)
  have F_o1_value_v6 := F_o1_value_v5.same W6
  have N6 := Fr.snoc X6 N5 gn_o1
  have E_o1_v6 := E_o1_v5.wr W6
  have F_o1_coder_v6 := F_o1_coder_v5.other W6 (Or.inr (sn_0 hw))
  have E_o2_v6 := E_o2_v5.wr W6
  have V_o2_v6 := V_o2_v5.other W6 (Ne.symm ne_o1_o2)
  have tk5_1_v6 := tk5_1.wr W6
  have tk5_2_v6 := tk5_2.other W6 (Ne.symm ne_o1_b5_0)
  have O6 := O5.wr W6 gn_o1
  have K6 : Keep h0 h6 [o1] := K5.wr W6 (Or.inl (List.mem_of_getElem? (i := 0) rfl))
  obtain ⟨T7, h7, X7, e7, W7, st7⟩ := putFN X6 hx hZ hown (W hw 65 rfl) Via.refl e6 F_o1_coder_v6 E_o1_v6 (Or.inr ⟨(W hw 66 rfl), rfl, hnm⟩) (W hw 12 rfl) (ty := .byte) (v' := (.int (0 : Int32))) (by decide) rfl rfl (g := (mkF m 374 #[.val (.ref o1), .val (.ref (w 0)), .val (.ref o2), .val (.int (0 : Int32)), .val (.int (9 : Int32)), .unset, .unset, .unset, .unset, .unset, .unset] [(.int (0 : Int32)), (.ref o1)])) rfl rfl (hb hby d7_374)
  have F_o1_coder_v7 := F_o1_coder_v6.same W7
  have N7 := Fr.snoc X7 N6 gn_o1
  have E_o1_v7 := E_o1_v6.wr W7
  have F_o1_value_v7 := F_o1_value_v6.other W7 (Or.inr (sn_1 hw))
  have E_o2_v7 := E_o2_v6.wr W7
  have V_o2_v7 := V_o2_v6.other W7 (Ne.symm ne_o1_o2)
  have tk5_1_v7 := tk5_1_v6.wr W7
  have tk5_2_v7 := tk5_2_v6.other W7 (Ne.symm ne_o1_b5_0)
  have O7 := O6.wr W7 gn_o1
  have K7 : Keep h0 h7 [o1] := K6.wr W7 (Or.inl (List.mem_of_getElem? (i := 0) rfl))
  refine ⟨T7, none, _, _, _, by decide, by decide, X7, (fun _ => rfl), (by rw [e7]; exact ⟨b5_0, kb5_0, vl5_0, rfl, N7, K7, sz_b5_0, E_o1_v7, F_o1_value_v7, F_o1_coder_v7, tk5_1_v7, tk5_2_v7⟩), fun fs hr => castTop (ef_7 m (.ref o1) rfl (.ref (w 0)) rfl (.ref o2) rfl (.int (0 : Int32)) rfl (.int (9 : Int32)) rfl) ?_⟩
  show Steps p.tables e below (s₁.setTop (mkF m 0 #[.val (.ref o1), .val (.ref (w 0)), .val (.ref o2), .val (.int (0 : Int32)), .val (.int (9 : Int32)), .unset, .unset, .unset, .unset, .unset, .unset] [])) _
  refine XS.aloadN X0.here hx rfl (hb hby d7_0) rfl rfl ?_
  refine st1 _ ?_
  refine XS.iload X1.here hx rfl (hb hby d7_4) rfl ?_
  refine XS.ifYes X1.here hx rfl (pc0 := 6) (pc' := 30) rfl (hb hby d7_6) rfl ((if0 _ _).trans (feq (by decide : ¬ ((9 : Int32) = (0 : Int32)))).2) (by decide) (by decide) ?_
  refine XS.aloadN X1.here hx rfl (hb hby d7_30) rfl rfl ?_
  refine st2 _ ?_
  refine Jvm.RoadKit.acmp (g := (mkF m 34 #[.val (.ref o1), .val (.ref (w 0)), .val (.ref o2), .val (.int (0 : Int32)), .val (.int (9 : Int32)), .unset, .unset, .unset, .unset, .unset, .unset] [(.ref (w 1)), (.ref (w 0))])) X2 hx rfl rfl rfl (pc0 := 34) (pc' := 346) (same := false) rfl (hb hby d7_34) rfl (decide_eq_false fun q => (ne_exa hE0 hE1 (by decide)) (Value.ref.inj q)) (by decide) (by decide) ?_
  refine XS.aloadN X2.here hx rfl (hb hby d7_346) rfl rfl ?_
  refine st3 _ ?_
  refine Jvm.RoadKit.acmp (g := (mkF m 350 #[.val (.ref o1), .val (.ref (w 0)), .val (.ref o2), .val (.int (0 : Int32)), .val (.int (9 : Int32)), .unset, .unset, .unset, .unset, .unset, .unset] [(.ref (w 2)), (.ref (w 0))])) X3 hx rfl rfl rfl (pc0 := 350) (pc' := 353) (same := true) rfl (hb hby d7_350) rfl (decide_eq_true (congrArg Value.ref hEq0)) (by decide) (by decide) ?_
  show Steps p.tables e below (T3.setTop (mkF m 353 #[.val (.ref o1), .val (.ref (w 0)), .val (.ref o2), .val (.int (0 : Int32)), .val (.int (9 : Int32)), .unset, .unset, .unset, .unset, .unset, .unset] [])) _
  refine st4 _ ?_
  refine XS.ifNo X4.here hx rfl (hb hby d7_356) rfl ((if0 _ _).trans (feq hJ0).1) ?_
  refine XS.aloadN X4.here hx rfl (hb hby d7_359) rfl rfl ?_
  refine XS.aloadN X4.here hx rfl (hb hby d7_360) rfl rfl ?_
  refine XS.iloadN X4.here hx rfl (hb hby d7_361) rfl ?_
  refine XS.iloadN X4.here hx rfl (hb hby d7_362) rfl ?_
  refine XS.iload X4.here hx rfl (hb hby d7_363) rfl ?_
  refine XS.iadd X4.here hx rfl (hb hby d7_365) rfl ?_
  show Steps p.tables e below (T4.setTop (mkF m 366 #[.val (.ref o1), .val (.ref (w 0)), .val (.ref o2), .val (.int (0 : Int32)), .val (.int (9 : Int32)), .unset, .unset, .unset, .unset, .unset, .unset] [(.int ((0 : Int32) + (9 : Int32))), (.int (0 : Int32)), (.ref o2), (.ref o1)])) _
  rw [lf_37]
  refine st5 _ ?_
  refine st6 _ ?_
  show Steps p.tables e below (T6.setTop (mkF m 372 #[.val (.ref o1), .val (.ref (w 0)), .val (.ref o2), .val (.int (0 : Int32)), .val (.int (9 : Int32)), .unset, .unset, .unset, .unset, .unset, .unset] [])) _
  refine XS.aloadN X6.here hx rfl (hb hby d7_372) rfl rfl ?_
  refine XS.iconst X6.here hx rfl (hb hby d7_373) ?_
  refine st7 _ ?_
  refine XS.goto X7.here hx rfl (pc0 := 377) (pc' := 879) rfl (hb hby d7_377) (by decide) (by decide) ?_
  show Steps p.tables e below (T7.setTop (mkF m 879 #[.val (.ref o1), .val (.ref (w 0)), .val (.ref o2), .val (.int (0 : Int32)), .val (.int (9 : Int32)), .unset, .unset, .unset, .unset, .unset, .unset] [])) _
  exact X7.returnOut hx hret (hb hby d7_879) hr
set_option maxRecDepth 65536 in
set_option maxHeartbeats 40000000 in
theorem rm_69 (l : Launch) (Z : State) (a0 : Array Value) (hw : ∀ d ∈ tables_1, d.before a0 Z = true) (w : Nat → Addr) (kk : Nat → ClassId) (iw : Nat → Int32) (vw : Nat → Value) (hN : Wd Z w kk iw vw) (ws : List Jvm.Cond) (o1 : Addr) (o2 : Addr) (vl_o2 : List Value) (kc_o2 : ClassId) (h0 : Heap) (O0 : Old Z Z.heap.size h0) (gn_o1 : Z.heap.size ≤ o1) (lt_o1 : o1 < h0.size) (gn_o2 : Z.heap.size ≤ o2) (lt_o2 : o2 < h0.size) (E_o1 : Exa Z h0 o1 s_0) (F_o1_value : Fld Z h0 o1 s_0 "value" "[B" .null) (F_o1_coder : Fld Z h0 o1 s_0 "coder" "B" (.int (0 : Int32))) (E_o2 : Exa Z h0 o2 "[B") (V_o2 : Arv Z h0 o2 kc_o2 .byte (11 : Int32) vl_o2 (.int (0 : Int32))) (ne_o1_o2 : o1 ≠ o2) :
    Met l Z (⟨s_0, "<init>", s_8⟩ : MethodName) (Jvm.Cond.code (⟨s_0, "<init>", s_8⟩ : MethodName) jdk_42_method_10_code 5 none) ws (Rm 4 1 9 71) #[(.ref o1), (.ref o2), (.int (0 : Int32)), (.int (9 : Int32)), (.ref (w 0))] h0 (Qd_22 Z w kk iw vw o1 o2 vl_o2 kc_o2 h0 Z.heap.size) := by
  have hN' := hN
  obtain ⟨hS0, hE0, hS1, hE1, hS2, hE2, hI0, hJ0, hR0, hRr0, hEq0⟩ := hN'
  refine own_body (plainFor_of_name pn_3) hisR ?_
  intro p e s m below meth c s₁ hx hby hml hown hnm hret X0 hZ e0
  have N0 := Fr.nil Z.heap.size
  have K0 : Keep h0 h0 [o1] := Keep.refl _ _
  obtain ⟨_, _, ⟨T1, L1, k1, n1⟩, -, X1, ⟨Lc1, hQ1, l1, y1, z1⟩, st1⟩ := Jvm.LawKit.callS X0 hx (y := (⟨s_16, s_17, s_12⟩ : MethodName)) hown (mvT hZ (W hw 19 rfl)) (mvT hZ (W hw 20 rfl)) (mvT hZ (W hw 21 rfl)) (mvT hZ (W hw 22 rfl)) (by decide) (backOf (W := 1) (rm_3 l Z a0 hw w kk iw vw hN [] h0 O0) hZ (W hw 22 rfl) (W hw 21 rfl) (by decide) (by decide)) (g := (mkF m 3 #[.val (.ref o1), .val (.ref o2), .val (.int (0 : Int32)), .val (.int (9 : Int32)), .val (.ref (w 0))] [(.ref (w 0)), (.ref o1)])) rfl (by rw [hml]; rfl) (argsL := [(.ref (w 0))]) (rest := [(.ref o1)]) (lenOf pd_1 rfl) rfl (by show 2 * 0 + _ ≤ _; exact Nat.le_of_eq rfl) (hb hby d3_3) (fun _ _ => ⟨rfl, e0, (by decide : 0 + 0 ≤ _), (by decide : 0 + 0 ≤ _)⟩)
  dsimp only [Pt.U, Pt.locs, Pt.cells, Pt.slots] at X1 l1 y1 z1 st1 hQ1
  subst l1 y1 z1
  obtain ⟨rfl, N1q, e1⟩ := hQ1
  have N1 := Fr.app N0 N1q
  obtain ⟨T2, X2, e2, st2⟩ := castY X1 hx hZ hown (W hw 23 rfl) e1 (Ins.of_exa (hE0.ext O0.2) (W hw 24 rfl)) (g := (mkF m 6 #[.val (.ref o1), .val (.ref o2), .val (.int (0 : Int32)), .val (.int (9 : Int32)), .val (.ref (w 0))] [(.ref (w 0)), (.ref o1)])) rfl rfl (hb hby d3_6)
  obtain ⟨cl3, Ar3, q3, Sz3, Ng3, Hv3, Gv3⟩ := id V_o2
  obtain ⟨_, _, ⟨T4, L4, k4, n4⟩, -, X4, ⟨Lc4, hQ4, l4, y4, z4⟩, st4⟩ := Jvm.LawKit.callS X2 hx (y := (⟨s_0, s_10, "(III)I"⟩ : MethodName)) hown (mvT hZ (W hw 25 rfl)) (mvT hZ (W hw 26 rfl)) (mvT hZ (W hw 13 rfl)) (mvT hZ (W hw 27 rfl)) (by decide) (backOf (W := 3) (rm_63 l Z a0 hw w kk iw vw hN [] h0 O0) hZ (W hw 27 rfl) (W hw 13 rfl) (by decide) (by decide)) (g := (mkF m 14 #[.val (.ref o1), .val (.ref o2), .val (.int (0 : Int32)), .val (.int (9 : Int32)), .val (.ref (w 0))] [(.int (11 : Int32)), (.int (9 : Int32)), (.int (0 : Int32)), (.ref o2), (.ref (w 0)), (.ref o1)])) rfl (by rw [hml]; rfl) (argsL := [(.int (0 : Int32)), (.int (9 : Int32)), (.int (11 : Int32))]) (rest := [(.ref o2), (.ref (w 0)), (.ref o1)]) (lenOf pd_3 rfl) rfl (by show 2 * 0 + _ ≤ _; exact Nat.le_of_eq rfl) (hb hby d3_14) (fun _ _ => ⟨rfl, e2, (by decide : 0 + 0 ≤ _), (by decide : 0 + 0 ≤ _)⟩)
  dsimp only [Pt.U, Pt.locs, Pt.cells, Pt.slots] at X4 l4 y4 z4 st4 hQ4
  subst l4 y4 z4
  obtain ⟨rfl, N4q, e4⟩ := hQ4
  have N4 := Fr.app N1 N4q
  obtain ⟨_, _, ⟨T5, L5, k5, n5⟩, -, X5, ⟨Lc5, hQ5, l5, y5, z5⟩, st5⟩ := X4.specialBackH hx (y := (⟨s_0, "<init>", s_7⟩ : MethodName)) rfl hown (mvT hZ (W hw 33 rfl)) (mvT hZ (W hw 34 rfl)) (mvT hZ (W hw 36 rfl)) (by decide) (backOfWith (W := 0) (rm_68 l Z a0 hw w kk iw vw hN [] o1 o2 vl_o2 kc_o2 h0 O0 gn_o1 E_o1.lt gn_o2 E_o2.lt E_o1 F_o1_value F_o1_coder E_o2 V_o2 ne_o1_o2) hZ (W hw 36 rfl) (W hw 13 rfl) (by decide) (by decide)) (g := (mkF m 18 #[.val (.ref o1), .val (.ref o2), .val (.int (0 : Int32)), .val (.int (9 : Int32)), .val (.ref (w 0))] [(.int (9 : Int32)), (.int (0 : Int32)), (.ref o2), (.ref (w 0)), (.ref o1)])) rfl (by rw [hml]; rfl) (Steps.refl _) (a := o1) (argsL := [(.ref (w 0)), (.ref o2), (.int (0 : Int32)), (.int (9 : Int32))]) (rest := []) (lenOf pd_7 rfl) rfl (by show 2 * 0 + _ ≤ _; exact Nat.le_of_eq rfl) (hb hby d3_18) (fun _ _ => ⟨rfl, e4, (by decide : 0 + 1 ≤ _), (by decide : 0 + 9 ≤ _)⟩)
  dsimp only [Pt.U, Pt.locs, Pt.cells, Pt.slots] at X5 l5 y5 z5 st5 hQ5
  subst l5 y5 z5
  obtain ⟨b5_0, kb5_0, vl5_0, rfl, N5q, Kq5, tk5_0, tk5_1, tk5_2, tk5_3, tk5_4, tk5_5⟩ := hQ5
  have N5 := Fr.app N4 N5q
  have gn_b5_0 : Z.heap.size ≤ b5_0 := Nat.le_trans O0.2.1 tk5_0
  have sz_b5_0 : h0.size ≤ b5_0 := Nat.le_trans K0.1 tk5_0
  have ne_o2_b5_0 : o2 ≠ b5_0 := Nat.ne_of_lt (Nat.lt_of_lt_of_le E_o2.lt tk5_0)
  have ne_o1_b5_0 : o1 ≠ b5_0 := Nat.ne_of_lt (Nat.lt_of_lt_of_le E_o1.lt tk5_0)
  have E_o1_v5 := E_o1.keep Kq5
  have E_o2_v5 := E_o2.keep Kq5
  have V_o2_v5 := V_o2.keep Kq5 (ninS (Ne.symm ne_o1_o2) nin0)
  have O5 := O0.keep Kq5 (allS gn_o1 all0)
  have K5 : Keep h0 T5.heap [o1] := K0.trans Kq5 (allS (Or.inl (List.mem_of_getElem? (i := 0) rfl)) all0)
  refine ⟨T5, none, _, _, _, by decide, by decide, X5, (fun _ => rfl), ⟨b5_0, kb5_0, vl5_0, rfl, N5, K5, sz_b5_0, tk5_1, tk5_2, tk5_3, tk5_4, tk5_5⟩, fun fs hr => castTop (ef_8 m (.ref o1) rfl (.ref o2) rfl (.int (0 : Int32)) rfl (.int (9 : Int32)) rfl (.ref (w 0)) rfl) ?_⟩
  show Steps p.tables e below (s₁.setTop (mkF m 0 #[.val (.ref o1), .val (.ref o2), .val (.int (0 : Int32)), .val (.int (9 : Int32)), .val (.ref (w 0))] [])) _
  refine XS.aloadN X0.here hx rfl (hb hby d3_0) rfl rfl ?_
  refine XS.aload X0.here hx rfl (hb hby d3_1) rfl rfl ?_
  refine st1 _ ?_
  refine st2 _ ?_
  refine XS.aloadN X2.here hx rfl (hb hby d3_9) rfl rfl ?_
  refine XS.iloadN X2.here hx rfl (hb hby d3_10) rfl ?_
  refine XS.iloadN X2.here hx rfl (hb hby d3_11) rfl ?_
  refine XS.aloadN X2.here hx rfl (hb hby d3_12) rfl rfl ?_
  refine X2.arraylength hx (by rw [e2]; exact Ar3.1) (State.isArrayOf_alike hZ.alike Ar3.2.1) (g := (mkF m 13 #[.val (.ref o1), .val (.ref o2), .val (.int (0 : Int32)), .val (.int (9 : Int32)), .val (.ref (w 0))] [(.ref o2), (.int (9 : Int32)), (.int (0 : Int32)), (.ref o2), (.ref (w 0)), (.ref o1)])) rfl rfl (hb hby d3_13) _ ?_
  rw [len_of Sz3 Ng3]
  refine st4 _ ?_
  show Steps p.tables e below (T4.setTop (mkF m 17 #[.val (.ref o1), .val (.ref o2), .val (.int (0 : Int32)), .val (.int (9 : Int32)), .val (.ref (w 0))] [(.int (0 : Int32)), (.ref o2), (.ref (w 0)), (.ref o1)])) _
  refine XS.iloadN X4.here hx rfl (hb hby d3_17) rfl ?_
  refine st5.trans ?_
  show Steps p.tables e below (T5.setTop (mkF m 21 #[.val (.ref o1), .val (.ref o2), .val (.int (0 : Int32)), .val (.int (9 : Int32)), .val (.ref (w 0))] [])) _
  exact X5.returnOut hx hret (hb hby d3_21) hr
def Qd_23 (Z : State) (w : Nat → Addr) (kk : Nat → ClassId) (iw : Nat → Int32) (vw : Nat → Value) (o1 : Addr) (vl_o1 : List Value) (kc_o1 : ClassId) (h0 : Heap) (n0 : Nat) (v : Option Value) (h : Heap) (L : List Loc) : Prop := ∃ (c1 : Addr) (c2 : Addr) (kc1 : ClassId) (vx1 : List Value), v = some (.ref c1) ∧ Fr n0 L ∧ Keep h0 h [] ∧ h0.size ≤ c1 ∧ h0.size ≤ c2 ∧ c1 ≠ c2 ∧ Exa Z h c1 s_0 ∧ Fld Z h c1 s_0 "value" "[B" (.ref c2) ∧ Fld Z h c1 s_0 "coder" "B" (.int (0 : Int32)) ∧ Exa Z h c2 "[B" ∧ Arv Z h c2 kc1 .byte (9 : Int32) vx1 (.int (0 : Int32))
set_option maxRecDepth 65536 in
set_option maxHeartbeats 40000000 in
theorem rm_70 (l : Launch) (Z : State) (a0 : Array Value) (hw : ∀ d ∈ tables_1, d.before a0 Z = true) (w : Nat → Addr) (kk : Nat → ClassId) (iw : Nat → Int32) (vw : Nat → Value) (hN : Wd Z w kk iw vw) (ws : List Jvm.Cond) (o1 : Addr) (vl_o1 : List Value) (kc_o1 : ClassId) (h0 : Heap) (O0 : Old Z Z.heap.size h0) (gn_o1 : Z.heap.size ≤ o1) (lt_o1 : o1 < h0.size) (E_o1 : Exa Z h0 o1 "[B") (V_o1 : Arv Z h0 o1 kc_o1 .byte (11 : Int32) vl_o1 (.int (0 : Int32))) :
    Met l Z (⟨s_1, "string", s_9⟩ : MethodName) (Jvm.Cond.code (⟨s_1, "string", s_9⟩ : MethodName) prog_22_method_9_code 2 (some (.object s_0))) ws (Rm 5 2 13 88) #[(.ref o1), (.int (9 : Int32))] h0 (Qd_23 Z w kk iw vw o1 vl_o1 kc_o1 h0 Z.heap.size) := by
  have hN' := hN
  obtain ⟨hS0, hE0, hS1, hE1, hS2, hE2, hI0, hJ0, hR0, hRr0, hEq0⟩ := hN'
  refine own_body (plainFor_of_name pn_0) hisR ?_
  intro p e s m below meth c s₁ hx hby hml hown hnm hret X0 hZ e0
  have N0 := Fr.nil Z.heap.size
  have K0 : Keep h0 h0 [] := Keep.refl _ _
  obtain ⟨T1, h1, X1, e1, E1, A1, D1, -, st1⟩ := newO X0 hx hZ hown (W hw 11 rfl) (W hw 12 rfl) (W hw 13 rfl) e0 (g := (mkF m 0 #[.val (.ref o1), .val (.int (9 : Int32))] [])) rfl (hb hby d2_0) (by decide) (by decide)
  obtain ⟨b1, g1⟩ : ∃ z, z = h0.size := ⟨_, rfl⟩
  rw [← g1] at A1 st1 D1
  have gn_b1 : Z.heap.size ≤ b1 := Nat.le_trans O0.2.1 (Nat.le_of_eq g1.symm)
  have sz_b1 : h0.size ≤ b1 := Nat.le_trans K0.1 (Nat.le_of_eq g1.symm)
  have ne_o1_b1 : o1 ≠ b1 := Nat.ne_of_lt (Nat.lt_of_lt_of_le E_o1.lt (Nat.le_of_eq g1.symm))
  have E_o1_v1 := E_o1.ext E1
  have V_o1_v1 := V_o1.ext E1
  have O1 := O0.ext E1
  have K1 := K0.ext E1
  have E_b1_v1 := A1
  have F_b1_value_v1 : Fld Z h1 b1 s_0 "value" "[B" .null := D1 (Or.inr (W hw 64 rfl)) (ty := (.array .byte)) (by decide)
  have F_b1_coder_v1 : Fld Z h1 b1 s_0 "coder" "B" (.int (0 : Int32)) := D1 (Or.inr (W hw 66 rfl)) (ty := .byte) (by decide)
  obtain ⟨T2, X2, e2, st2⟩ := getS2 X1 hx hZ hown (host := "") (Or.inl (W hw 14 rfl)) Via.refl e1 (hS0.ext O1.2) (g := (mkF m 7 #[.val (.ref o1), .val (.int (9 : Int32))] [(.int (9 : Int32)), (.int (0 : Int32)), (.ref o1), (.ref b1), (.ref b1)])) rfl (hb hby d2_7)
  obtain ⟨_, _, ⟨T3, L3, k3, n3⟩, -, X3, ⟨Lc3, hQ3, l3, y3, z3⟩, st3⟩ := X2.specialBack hx (y := (⟨s_0, "<init>", s_8⟩ : MethodName)) rfl hown (mvT hZ (W hw 16 rfl)) (mvT hZ (W hw 17 rfl)) (mvT hZ (W hw 18 rfl)) (by decide) (backOf (W := 1) (rm_69 l Z a0 hw w kk iw vw hN [] b1 o1 vl_o1 kc_o1 h1 O1 gn_b1 E_b1_v1.lt gn_o1 E_o1_v1.lt E_b1_v1 F_b1_value_v1 F_b1_coder_v1 E_o1_v1 V_o1_v1 (Ne.symm ne_o1_b1)) hZ (W hw 18 rfl) (W hw 13 rfl) (by decide) (by decide)) (g := (mkF m 10 #[.val (.ref o1), .val (.int (9 : Int32))] [(.ref (w 0)), (.int (9 : Int32)), (.int (0 : Int32)), (.ref o1), (.ref b1), (.ref b1)])) rfl (by rw [hml]; rfl) (Steps.refl _) (a := b1) (argsL := [(.ref o1), (.int (0 : Int32)), (.int (9 : Int32)), (.ref (w 0))]) (rest := [(.ref b1)]) (lenOf pd_8 rfl) rfl (by show 2 * 0 + _ ≤ _; exact Nat.le_of_eq rfl) (hb hby d2_10) (fun _ _ => ⟨rfl, e2, (by decide : 1 + 1 ≤ _), (by decide : 4 + 9 ≤ _)⟩)
  dsimp only [Pt.U, Pt.locs, Pt.cells, Pt.slots] at X3 l3 y3 z3 st3 hQ3
  subst l3 y3 z3
  obtain ⟨b3_0, kb3_0, vl3_0, rfl, N3q, Kq3, tk3_0, tk3_1, tk3_2, tk3_3, tk3_4, tk3_5⟩ := hQ3
  have N3 := Fr.app N0 N3q
  have gn_b3_0 : Z.heap.size ≤ b3_0 := Nat.le_trans O1.2.1 tk3_0
  have sz_b3_0 : h0.size ≤ b3_0 := Nat.le_trans K1.1 tk3_0
  have ne_b1_b3_0 : b1 ≠ b3_0 := Nat.ne_of_lt (Nat.lt_of_lt_of_le E_b1_v1.lt tk3_0)
  have ne_o1_b3_0 : o1 ≠ b3_0 := Nat.ne_of_lt (Nat.lt_of_lt_of_le E_o1_v1.lt tk3_0)
  have E_o1_v3 := E_o1_v1.keep Kq3
  have V_o1_v3 := V_o1_v1.keep Kq3 (ninS ne_o1_b1 nin0)
  have E_b1_v3 := E_b1_v1.keep Kq3
  have O3 := O1.keep Kq3 (allS gn_b1 all0)
  have K3 : Keep h0 T3.heap [] := K1.trans Kq3 (allS (Or.inr sz_b1) all0)
  refine ⟨T3, some (.ref b1), _, _, _, by decide, by decide, X3, nofun, ⟨b1, b3_0, kb3_0, vl3_0, rfl, N3, K3, sz_b1, sz_b3_0, ne_b1_b3_0, tk3_1, tk3_2, tk3_3, tk3_4, tk3_5⟩, fun fs hr => castTop (ef_9 m (.ref o1) rfl (.int (9 : Int32)) rfl) ?_⟩
  show Steps p.tables e below (s₁.setTop (mkF m 0 #[.val (.ref o1), .val (.int (9 : Int32))] [])) _
  refine st1 _ ?_
  refine XS.dup X1.here hx rfl (hb hby d2_3) rfl rfl ?_
  refine XS.aloadN X1.here hx rfl (hb hby d2_4) rfl rfl ?_
  refine XS.iconst X1.here hx rfl (hb hby d2_5) ?_
  refine XS.iloadN X1.here hx rfl (hb hby d2_6) rfl ?_
  refine st2 _ ?_
  refine st3.trans ?_
  show Steps p.tables e below (T3.setTop (mkF m 13 #[.val (.ref o1), .val (.int (9 : Int32))] [(.ref b1)])) _
  exact retOut X3 hx hret rfl (Or.inr (Or.inr (Or.inr (Or.inr ⟨rfl, rfl, rfl⟩)))) (hb hby d2_13) hr
def Qd_24 (Z : State) (w : Nat → Addr) (kk : Nat → ClassId) (iw : Nat → Int32) (vw : Nat → Value) (p0 : Int32) (h0 : Heap) (n0 : Nat) (v : Option Value) (h : Heap) (L : List Loc) : Prop := ∃ (c1 : Addr) (c2 : Addr) (kc1 : ClassId) (vx1 : List Value), v = some (.ref c1) ∧ Fr n0 L ∧ Keep h0 h [] ∧ h0.size ≤ c1 ∧ h0.size ≤ c2 ∧ c1 ≠ c2 ∧ Exa Z h c1 s_0 ∧ Fld Z h c1 s_0 "value" "[B" (.ref c2) ∧ Fld Z h c1 s_0 "coder" "B" (.int (0 : Int32)) ∧ Exa Z h c2 "[B" ∧ Arv Z h c2 kc1 .byte (9 : Int32) vx1 (.int (0 : Int32))
set_option maxRecDepth 65536 in
set_option maxHeartbeats 40000000 in
theorem rm_71 (l : Launch) (Z : State) (a0 : Array Value) (hw : ∀ d ∈ tables_1, d.before a0 Z = true) (w : Nat → Addr) (kk : Nat → ClassId) (iw : Nat → Int32) (vw : Nat → Value) (hN : Wd Z w kk iw vw) (ws : List Jvm.Cond) (p0 : Int32) (h0 : Heap) (O0 : Old Z Z.heap.size h0) (hp0 : p0 < (0 : Int32)) (hp1 : ¬ ((p0 / (10000 : Int32)) = (0 : Int32))) (hp2 : ¬ (((p0 / (10000 : Int32)) / (10 : Int32)) = (0 : Int32))) (hp3 : ¬ ((((p0 / (10000 : Int32)) / (10 : Int32)) / (10 : Int32)) = (0 : Int32))) (hp4 : ¬ (((((p0 / (10000 : Int32)) / (10 : Int32)) / (10 : Int32)) / (10 : Int32)) = (0 : Int32))) (hp5 : (((((p0 / (10000 : Int32)) / (10 : Int32)) / (10 : Int32)) / (10 : Int32)) / (10 : Int32)) = (0 : Int32)) :
    Met l Z (⟨s_1, "yearText", s_4⟩ : MethodName) (Jvm.Cond.code (⟨s_1, "yearText", s_4⟩ : MethodName) prog_22_method_4_code 2 (some (.object s_0))) ws (Rm 6 3 24 101) #[(.int p0)] h0 (Qd_24 Z w kk iw vw p0 h0 Z.heap.size) := by
  have hN' := hN
  obtain ⟨hS0, hE0, hS1, hE1, hS2, hE2, hI0, hJ0, hR0, hRr0, hEq0⟩ := hN'
  refine own_body (plainFor_of_name pn_0) hisR ?_
  intro p e s m below meth c s₁ hx hby hml hown hnm hret X0 hZ e0
  have N0 := Fr.nil Z.heap.size
  have K0 : Keep h0 h0 [] := Keep.refl _ _
  obtain ⟨T1, h1, k1, X1, e1, E1, A1, AE1, st1⟩ := newPE X0 hx hZ (W hw 4 rfl) e0 (g := (mkF m 2 #[.val (.int p0), .unset] [(.int (11 : Int32))])) rfl (hb hby d0_2) rfl (by decide) (cap := 11) (by decide) (by decide) (by decide) (by decide) (ad := "[B") rfl
  obtain ⟨b1, g1⟩ : ∃ z, z = h0.size := ⟨_, rfl⟩
  rw [← g1] at A1 st1 AE1
  have gn_b1 : Z.heap.size ≤ b1 := Nat.le_trans O0.2.1 (Nat.le_of_eq g1.symm)
  have sz_b1 : h0.size ≤ b1 := Nat.le_trans K0.1 (Nat.le_of_eq g1.symm)
  have O1 := O0.ext E1
  have K1 := K0.ext E1
  have E_b1_v1 := AE1
  have V_b1_v1 : Arv Z h1 b1 k1 .byte (11 : Int32) [] (.int (0 : Int32)) := Arv.new A1 (by decide)
  obtain ⟨_, _, ⟨T2, L2, k2, n2⟩, -, X2, ⟨Lc2, hQ2, l2, y2, z2⟩, st2⟩ := Jvm.LawKit.callS X1 hx (y := (⟨s_1, "writeYear", "([BI)I"⟩ : MethodName)) hown (mvT hZ (W hw 5 rfl)) (mvT hZ (W hw 6 rfl)) (mvT hZ (W hw 2 rfl)) (mvT hZ (W hw 7 rfl)) (by decide) (backOf (W := 1) (rm_61 l Z a0 hw w kk iw vw hN [] b1 p0 k1 h1 O1 gn_b1 E_b1_v1.lt E_b1_v1 V_b1_v1 hp0 hp1 hp2 hp3 hp4 hp5) hZ (W hw 7 rfl) (W hw 2 rfl) (by decide) (by decide)) (g := (mkF m 8 #[.val (.int p0), .val (.ref b1)] [(.int p0), (.ref b1), (.ref b1)])) rfl (by rw [hml]; rfl) (argsL := [(.ref b1), (.int p0)]) (rest := [(.ref b1)]) (lenOf pd_0 rfl) rfl (by show 2 * 0 + _ ≤ _; exact Nat.le_of_eq rfl) (hb hby d0_8) (fun _ _ => ⟨rfl, e1, (by decide : 1 + 0 ≤ _), (by decide : 11 + 0 ≤ _)⟩)
  dsimp only [Pt.U, Pt.locs, Pt.cells, Pt.slots] at X2 l2 y2 z2 st2 hQ2
  subst l2 y2 z2
  obtain ⟨vl2_0, rfl, N2q, Kq2, tk2_0, tk2_1⟩ := hQ2
  have N2 := Fr.app N0 N2q
  have E_b1_v2 := E_b1_v1.keep Kq2
  have O2 := O1.keep Kq2 (allS gn_b1 all0)
  have K2 : Keep h0 T2.heap [] := K1.trans Kq2 (allS (Or.inr sz_b1) all0)
  obtain ⟨_, _, ⟨T3, L3, k3, n3⟩, -, X3, ⟨Lc3, hQ3, l3, y3, z3⟩, st3⟩ := Jvm.LawKit.callS X2 hx (y := (⟨s_1, "string", s_9⟩ : MethodName)) hown (mvT hZ (W hw 8 rfl)) (mvT hZ (W hw 9 rfl)) (mvT hZ (W hw 2 rfl)) (mvT hZ (W hw 10 rfl)) (by decide) (backOf (W := 0) (rm_70 l Z a0 hw w kk iw vw hN [] b1 vl2_0 k1 T2.heap O2 gn_b1 tk2_0.lt tk2_0 tk2_1) hZ (W hw 10 rfl) (W hw 2 rfl) (by decide) (by decide)) (g := (mkF m 11 #[.val (.int p0), .val (.ref b1)] [(.int (9 : Int32)), (.ref b1)])) rfl (by rw [hml]; rfl) (argsL := [(.ref b1), (.int (9 : Int32))]) (rest := []) (lenOf pd_9 rfl) rfl (by show 2 * 0 + _ ≤ _; exact Nat.le_of_eq rfl) (hb hby d0_11) (fun _ _ => ⟨rfl, rfl, (by decide : 1 + 2 ≤ _), (by decide : 11 + 13 ≤ _)⟩)
  dsimp only [Pt.U, Pt.locs, Pt.cells, Pt.slots] at X3 l3 y3 z3 st3 hQ3
  subst l3 y3 z3
  obtain ⟨b3_0, b3_1, kb3_0, vl3_0, rfl, N3q, Kq3, tk3_0, tk3_1, tk3_2, tk3_3, tk3_4, tk3_5, tk3_6, tk3_7⟩ := hQ3
  have N3 := Fr.app N2 N3q
  have gn_b3_0 : Z.heap.size ≤ b3_0 := Nat.le_trans O2.2.1 tk3_0
  have sz_b3_0 : h0.size ≤ b3_0 := Nat.le_trans K2.1 tk3_0
  have ne_b1_b3_0 : b1 ≠ b3_0 := Nat.ne_of_lt (Nat.lt_of_lt_of_le tk2_0.lt tk3_0)
  have gn_b3_1 : Z.heap.size ≤ b3_1 := Nat.le_trans O2.2.1 tk3_1
  have sz_b3_1 : h0.size ≤ b3_1 := Nat.le_trans K2.1 tk3_1
  have ne_b1_b3_1 : b1 ≠ b3_1 := Nat.ne_of_lt (Nat.lt_of_lt_of_le tk2_0.lt tk3_1)
  have tk2_0_v3 := tk2_0.keep Kq3
  have tk2_1_v3 := tk2_1.keep Kq3 nin0
  have O3 := O2.keep Kq3 all0
  have K3 : Keep h0 T3.heap [] := K2.trans Kq3 all0
  refine ⟨T3, some (.ref b3_0), _, _, _, by decide, by decide, X3, nofun, ⟨b3_0, b3_1, kb3_0, vl3_0, rfl, N3, K3, sz_b3_0, sz_b3_1, tk3_2, tk3_3, tk3_4, tk3_5, tk3_6, tk3_7⟩, fun fs hr => castTop (ef_10 m (.int p0) rfl) ?_⟩
  show Steps p.tables e below (s₁.setTop (mkF m 0 #[.val (.int p0), .unset] [])) _
  refine XS.bipush X0.here hx rfl (hb hby d0_0) ?_
  refine st1 _ ?_
  refine XS.astoreN X1.here hx rfl (hb hby d0_4) rfl rfl (l' := #[.val (.int p0), .val (.ref b1)]) rfl ?_
  refine XS.aloadN X1.here hx rfl (hb hby d0_5) rfl rfl ?_
  refine XS.aloadN X1.here hx rfl (hb hby d0_6) rfl rfl ?_
  refine XS.iloadN X1.here hx rfl (hb hby d0_7) rfl ?_
  refine st2 _ ?_
  refine st3 _ ?_
  show Steps p.tables e below (T3.setTop (mkF m 14 #[.val (.int p0), .val (.ref b1)] [(.ref b3_0)])) _
  exact retOut X3 hx hret rfl (Or.inr (Or.inr (Or.inr (Or.inr ⟨rfl, rfl, rfl⟩)))) (hb hby d0_14) hr
set_option maxRecDepth 65536 in
set_option maxHeartbeats 40000000 in
theorem rm_72 (l : Launch) (Z : State) (a0 : Array Value) (hw : ∀ d ∈ tables_1, d.before a0 Z = true) (w : Nat → Addr) (kk : Nat → ClassId) (iw : Nat → Int32) (vw : Nat → Value) (hN : Wd Z w kk iw vw) (ws : List Jvm.Cond) (o1 : Addr) (o2 : Addr) (vl_o2 : List Value) (kc_o2 : ClassId) (h0 : Heap) (O0 : Old Z Z.heap.size h0) (gn_o1 : Z.heap.size ≤ o1) (lt_o1 : o1 < h0.size) (E_o1 : Exa Z h0 o1 s_0) (gn_o2 : Z.heap.size ≤ o2) (lt_o2 : o2 < h0.size) (F_o1_value : Fld Z h0 o1 s_0 "value" "[B" (.ref o2)) (F_o1_coder : Fld Z h0 o1 s_0 "coder" "B" (.int (0 : Int32))) (E_o2 : Exa Z h0 o2 "[B") (V_o2 : Arv Z h0 o2 kc_o2 .byte (9 : Int32) vl_o2 (.int (0 : Int32))) (ne_o1_o2 : o1 ≠ o2) :
    Met l Z (⟨s_0, "coder", "()B"⟩ : MethodName) (Jvm.Cond.code (⟨s_0, "coder", "()B"⟩ : MethodName) jdk_42_method_152_code 1 (some .byte)) ws (Rm 0 0 0 0) #[(.ref o1)] h0 (OQ (some (.int (0 : Int32))) h0 Z.heap.size) := by
  have hN' := hN
  obtain ⟨hS0, hE0, hS1, hE1, hS2, hE2, hI0, hJ0, hR0, hRr0, hEq0⟩ := hN'
  refine own_body (plainFor_of_name pn_3) hisR ?_
  intro p e s m below meth c s₁ hx hby hml hown hnm hret X0 hZ e0
  have N0 := Fr.nil Z.heap.size
  obtain ⟨T1, X1, e1, st1⟩ := getS2 X0 hx hZ hown (host := "") (Or.inl (W hw 44 rfl)) Via.refl e0 (hI0.ext O0.2) (g := (mkF m 0 #[.val (.ref o1)] [])) rfl (hb hby d13_0)
  obtain ⟨T2, X2, e2, st2⟩ := getF X1 hx hZ hown (host := "") (Or.inl (W hw 65 rfl)) Via.refl e1 F_o1_coder (g := (mkF m 7 #[.val (.ref o1)] [(.ref o1)])) rfl rfl (hb hby d13_7)
  refine ⟨T2, some (.int (0 : Int32)), _, _, _, by decide, by decide, X2, nofun, (by rw [e2]; exact ⟨rfl, N0, rfl⟩), fun fs hr => castTop (ef_1 m (.ref o1) rfl) ?_⟩
  show Steps p.tables e below (s₁.setTop (mkF m 0 #[.val (.ref o1)] [])) _
  refine st1 _ ?_
  refine XS.ifNo X1.here hx rfl (hb hby d13_3) rfl ((if0 _ _).trans (feq hJ0).1) ?_
  refine XS.aloadN X1.here hx rfl (hb hby d13_6) rfl rfl ?_
  refine st2 _ ?_
  refine XS.goto X2.here hx rfl (pc0 := 10) (pc' := 14) rfl (hb hby d13_10) (by decide) (by decide) ?_
  show Steps p.tables e below (T2.setTop (mkF m 14 #[.val (.ref o1)] [(.int (0 : Int32))])) _
  exact retN X2 hx (t := .byte) hret (by simp) (hb hby d13_14) hr
theorem lf_39 : ((9 : Int32) >>> ((0 : Int32) &&& 31)) = (9 : Int32) := by decide
set_option maxRecDepth 65536 in
set_option maxHeartbeats 40000000 in
theorem rm_73 (l : Launch) (Z : State) (a0 : Array Value) (hw : ∀ d ∈ tables_1, d.before a0 Z = true) (w : Nat → Addr) (kk : Nat → ClassId) (iw : Nat → Int32) (vw : Nat → Value) (hN : Wd Z w kk iw vw) (ws : List Jvm.Cond) (o1 : Addr) (o2 : Addr) (vl_o2 : List Value) (kc_o2 : ClassId) (h0 : Heap) (O0 : Old Z Z.heap.size h0) (gn_o1 : Z.heap.size ≤ o1) (lt_o1 : o1 < h0.size) (E_o1 : Exa Z h0 o1 s_0) (gn_o2 : Z.heap.size ≤ o2) (lt_o2 : o2 < h0.size) (F_o1_value : Fld Z h0 o1 s_0 "value" "[B" (.ref o2)) (F_o1_coder : Fld Z h0 o1 s_0 "coder" "B" (.int (0 : Int32))) (E_o2 : Exa Z h0 o2 "[B") (V_o2 : Arv Z h0 o2 kc_o2 .byte (9 : Int32) vl_o2 (.int (0 : Int32))) (ne_o1_o2 : o1 ≠ o2) :
    Met l Z (⟨s_0, "length", "()I"⟩ : MethodName) (Jvm.Cond.code (⟨s_0, "length", "()I"⟩ : MethodName) jdk_42_method_54_code 1 (some .int)) ws (Rm 1 0 0 13) #[(.ref o1)] h0 (OQ (some (.int (9 : Int32))) h0 Z.heap.size) := by
  have hN' := hN
  obtain ⟨hS0, hE0, hS1, hE1, hS2, hE2, hI0, hJ0, hR0, hRr0, hEq0⟩ := hN'
  refine own_body (plainFor_of_name pn_3) hisR ?_
  intro p e s m below meth c s₁ hx hby hml hown hnm hret X0 hZ e0
  have N0 := Fr.nil Z.heap.size
  obtain ⟨T1, X1, e1, st1⟩ := getF X0 hx hZ hown (host := "") (Or.inl (W hw 63 rfl)) Via.refl e0 F_o1_value (g := (mkF m 1 #[.val (.ref o1)] [(.ref o1)])) rfl rfl (hb hby d12_1)
  obtain ⟨cl2, Ar2, q2, Sz2, Ng2, Hv2, Gv2⟩ := id V_o2
  obtain ⟨cq3, kq3, q3a, q3b, q3c⟩ := isOf hZ e1 E_o1
  obtain ⟨_, _, ⟨T3, L3, k3, n3⟩, -, X3, ⟨Lc3, hQ3, l3, y3, z3⟩, st3⟩ := X1.virtualBack hx (y := (⟨s_0, "coder", "()B"⟩ : MethodName)) (z := (⟨s_0, "coder", "()B"⟩ : MethodName)) hown (mvT hZ (W hw 72 rfl)) (mvT hZ (W hw 73 rfl)) (notFace_of_selects (args := #[]) (mvT hZ (W hw 75 rfl))) (mvT hZ (W hw 75 rfl)) (mvT hZ (W hw 74 rfl)) (by decide) (backOf (W := 1) (rm_72 l Z a0 hw w kk iw vw hN [] o1 o2 vl_o2 kc_o2 h0 O0 gn_o1 E_o1.lt E_o1 gn_o2 E_o2.lt F_o1_value F_o1_coder E_o2 V_o2 ne_o1_o2) hZ (W hw 76 rfl) (W hw 13 rfl) (by decide) (by decide)) q3a q3c (g := (mkF m 6 #[.val (.ref o1)] [(.ref o1), (.int (9 : Int32))])) rfl (by rw [hml]; rfl) (Steps.refl _) (argsL := []) (rest := [(.int (9 : Int32))]) (lenOf pd_11 rfl) rfl (by show 2 * 0 + _ ≤ _; exact Nat.le_of_eq rfl) (hb hby d12_6) (fun _ _ => ⟨rfl, e1, (by decide : 0 + 0 ≤ _), (by decide : 0 + 0 ≤ _)⟩)
  dsimp only [Pt.U, Pt.locs, Pt.cells, Pt.slots] at X3 l3 y3 z3 st3 hQ3
  subst l3 y3 z3
  obtain ⟨rfl, N3q, e3⟩ := hQ3
  have N3 := Fr.app N0 N3q
  refine ⟨T3, some (.int (9 : Int32)), _, _, _, by decide, by decide, X3, nofun, (by rw [e3]; exact ⟨rfl, N3, rfl⟩), fun fs hr => castTop (ef_1 m (.ref o1) rfl) ?_⟩
  show Steps p.tables e below (s₁.setTop (mkF m 0 #[.val (.ref o1)] [])) _
  refine XS.aloadN X0.here hx rfl (hb hby d12_0) rfl rfl ?_
  refine st1 _ ?_
  refine X1.arraylength hx (by rw [e1]; exact Ar2.1) (State.isArrayOf_alike hZ.alike Ar2.2.1) (g := (mkF m 4 #[.val (.ref o1)] [(.ref o2)])) rfl rfl (hb hby d12_4) _ ?_
  rw [len_of Sz2 Ng2]
  refine XS.aloadN X1.here hx rfl (hb hby d12_5) rfl rfl ?_
  refine st3.trans ?_
  refine XS.ishr X3.here hx rfl (hb hby d12_9) rfl ?_
  show Steps p.tables e below (T3.setTop (mkF m 10 #[.val (.ref o1)] [(.int ((9 : Int32) >>> ((0 : Int32) &&& 31)))])) _
  rw [lf_39]
  show Steps p.tables e below (T3.setTop (mkF m 10 #[.val (.ref o1)] [(.int (9 : Int32))])) _
  exact retI X3 hx hret (hb hby d12_10) hr
set_option maxRecDepth 65536 in
set_option maxHeartbeats 40000000 in
theorem law_74 (l : Launch) (Z : State) (a0 : Array Value) (hw : ∀ d ∈ tables_1, d.before a0 Z = true) (w : Nat → Addr) (kk : Nat → ClassId) (iw : Nat → Int32) (vw : Nat → Value) (hN : Wd Z w kk iw vw) (ws : List Jvm.Cond) (p0 : Int32) (h0 : Heap) (O0 : Old Z Z.heap.size h0) (hp0 : p0 < (0 : Int32)) (hp1 : ¬ ((p0 / (10000 : Int32)) = (0 : Int32))) (hp2 : ¬ (((p0 / (10000 : Int32)) / (10 : Int32)) = (0 : Int32))) (hp3 : ¬ ((((p0 / (10000 : Int32)) / (10 : Int32)) / (10 : Int32)) = (0 : Int32))) (hp4 : ¬ (((((p0 / (10000 : Int32)) / (10 : Int32)) / (10 : Int32)) / (10 : Int32)) = (0 : Int32))) (hp5 : (((((p0 / (10000 : Int32)) / (10 : Int32)) / (10 : Int32)) / (10 : Int32)) / (10 : Int32)) = (0 : Int32)) (hp6 : p0 < (1000 : Int32)) :
    MetFree l x (head1 (Jvm.Cond.code x code maxLocals ret :: ws) room_1) (fun a U => a = #[(.int p0)] ∧ Z.Warmed39 U.vm ∧ U.heap = h0) (fun _ _ _ _ _ => True) (fun _ U o U' => ∃ v L, o = .returned v ∧ OL (some (.int (1 : Int32))) Z.heap.size v U'.heap L ∧ FrameEnd U o U' L 16 128) := by
  have hN' := hN
  obtain ⟨hS0, hE0, hS1, hE1, hS2, hE2, hI0, hJ0, hR0, hRr0, hEq0⟩ := hN'
  refine MetFree.of_bodySF (plainFor_of_name pn_5) hisR ?_
  intro p e s m args below meth c s₁ Bd hml0 hP hK
  obtain ⟨rfl, hZ, hh⟩ := hP
  have hx := Bd.exec
  have hby := Bd.bytes
  have hml : c.maxLocals = 3 := hml0
  have hown : s.vm.findClass s_3 = some m.cls := findClass_of_methodNamed Bd.named
  have hnm := (name_of_methodNamed Bd.named Bd.method).1
  have X0 : Stand p l e room_1 s m #[(.int p0)] below meth c s₁ [] 0 0 := Stand.of_body Bd
  have e0 : s₁.heap = h0 := by rw [← hh, Bd.state]; rfl
  have N0 := Fr.nil Z.heap.size
  obtain ⟨_, _, ⟨T1, L1, k1, n1⟩, -, X1, ⟨Lc1, hQ1, l1, y1, z1⟩, st1⟩ := Jvm.LawKit.callS X0 hx (y := (⟨s_1, "yearText", s_4⟩ : MethodName)) hown (mvT hZ (W hw 0 rfl)) (mvT hZ (W hw 1 rfl)) (mvT hZ (W hw 2 rfl)) (mvT hZ (W hw 3 rfl)) (by decide) (backOf (W := 0) (rm_71 l Z a0 hw w kk iw vw hN [] p0 h0 O0 hp0 hp1 hp2 hp3 hp4 hp5) hZ (W hw 3 rfl) (W hw 2 rfl) (by decide) (by decide)) (g := (mkF m 1 #[.val (.int p0), .unset, .unset] [(.int p0)])) rfl (by rw [hml]; rfl) (argsL := [(.int p0)]) (rest := []) (lenOf pd_10 rfl) rfl (by show 2 * 0 + _ ≤ _; exact Nat.le_of_eq rfl) (hb hby at_1) (fun _ _ => ⟨rfl, e0, (by decide : 0 + 3 ≤ _), (by decide : 0 + 24 ≤ _)⟩)
  dsimp only [Pt.U, Pt.locs, Pt.cells, Pt.slots] at X1 l1 y1 z1 st1 hQ1
  subst l1 y1 z1
  obtain ⟨b1_0, b1_1, kb1_0, vl1_0, rfl, N1q, Kq1, tk1_0, tk1_1, tk1_2, tk1_3, tk1_4, tk1_5, tk1_6, tk1_7⟩ := hQ1
  have N1 := Fr.app N0 N1q
  have gn_b1_0 : Z.heap.size ≤ b1_0 := Nat.le_trans O0.2.1 tk1_0
  have gn_b1_1 : Z.heap.size ≤ b1_1 := Nat.le_trans O0.2.1 tk1_1
  have O1 := O0.keep Kq1 all0
  obtain ⟨cq2, kq2, q2a, q2b, q2c⟩ := isOf hZ rfl tk1_3
  obtain ⟨_, _, ⟨T2, L2, k2, n2⟩, -, X2, ⟨Lc2, hQ2, l2, y2, z2⟩, st2⟩ := X1.virtualBack hx (y := (⟨s_0, "length", "()I"⟩ : MethodName)) (z := (⟨s_0, "length", "()I"⟩ : MethodName)) hown (mvT hZ (W hw 67 rfl)) (mvT hZ (W hw 68 rfl)) (notFace_of_selects (args := #[]) (mvT hZ (W hw 70 rfl))) (mvT hZ (W hw 70 rfl)) (mvT hZ (W hw 69 rfl)) (by decide) (backOf (W := 0) (rm_73 l Z a0 hw w kk iw vw hN [] b1_0 b1_1 vl1_0 kb1_0 T1.heap O1 gn_b1_0 tk1_3.lt tk1_3 gn_b1_1 tk1_6.lt tk1_4 tk1_5 tk1_6 tk1_7 tk1_2) hZ (W hw 71 rfl) (W hw 13 rfl) (by decide) (by decide)) q2a q2c (g := (mkF m 6 #[.val (.int p0), .val (.ref b1_0), .unset] [(.ref b1_0)])) rfl (by rw [hml]; rfl) (Steps.refl _) (argsL := []) (rest := []) (lenOf pd_12 rfl) rfl (by show 2 * 0 + _ ≤ _; exact Nat.le_of_eq rfl) (hb hby at_6) (fun _ _ => ⟨rfl, rfl, (by decide : 3 + 0 ≤ _), (by decide : 24 + 0 ≤ _)⟩)
  dsimp only [Pt.U, Pt.locs, Pt.cells, Pt.slots] at X2 l2 y2 z2 st2 hQ2
  subst l2 y2 z2
  obtain ⟨rfl, N2q, e2⟩ := hQ2
  have N2 := Fr.app N1 N2q
  obtain ⟨_, _, ⟨T3, L3, k3, n3⟩, -, X3, ⟨Lc3, hQ3, l3, y3, z3⟩, st3⟩ := Jvm.LawKit.callS X2 hx (y := (⟨s_1, s_15, "(I)Z"⟩ : MethodName)) hown (mvT hZ (W hw 97 rfl)) (mvT hZ (W hw 98 rfl)) (mvT hZ (W hw 2 rfl)) (mvT hZ (W hw 99 rfl)) (by decide) (backOf (W := 0) (rm_16 l Z a0 hw w kk iw vw hN [] p0 T1.heap O1 hp6) hZ (W hw 99 rfl) (W hw 2 rfl) (by decide) (by decide)) (g := (mkF m 30 #[.val (.int p0), .val (.ref b1_0), .val (.int (0 : Int32))] [(.int p0)])) rfl (by rw [hml]; rfl) (argsL := [(.int p0)]) (rest := []) (lenOf pd_13 rfl) rfl (by show 2 * 0 + _ ≤ _; exact Nat.le_of_eq rfl) (hb hby at_30) (fun _ _ => ⟨rfl, e2, (by decide : 3 + 0 ≤ _), (by decide : 24 + 0 ≤ _)⟩)
  dsimp only [Pt.U, Pt.locs, Pt.cells, Pt.slots] at X3 l3 y3 z3 st3 hQ3
  subst l3 y3 z3
  obtain ⟨rfl, N3q, e3⟩ := hQ3
  have N3 := Fr.app N2 N3q
  obtain ⟨fs, hr, hrun, hended, hW, hsame⟩ := X3.leave (v := some (.int (1 : Int32))) (fun h => by rw [Bd.returns] at h; cases h)
  refine ⟨_, _, castTop (ef_12 m (.int p0) rfl) ?_, hrun, hended, _, _, rfl, ?_, ⟨_, rfl⟩, hW, hsame.mono (by decide) (by decide)⟩
  · show Steps p.tables e below (s₁.setTop (mkF m 0 #[.val (.int p0), .unset, .unset] [])) _
    refine XS.iloadN X0.here hx rfl (hb hby at_0) rfl ?_
    refine st1 _ ?_
    refine XS.astoreN X1.here hx rfl (hb hby at_4) rfl rfl (l' := #[.val (.int p0), .val (.ref b1_0), .unset]) rfl ?_
    refine XS.aloadN X1.here hx rfl (hb hby at_5) rfl rfl ?_
    refine st2.trans ?_
    refine XS.iconst X2.here hx rfl (hb hby at_9) ?_
    refine XS.icmpYes X2.here hx rfl (pc0 := 10) (pc' := 27) rfl (hb hby at_10) rfl (feq (by decide : ¬ ((9 : Int32) = (4 : Int32)))).2 (by decide) (by decide) ?_
    refine XS.iconst X2.here hx rfl (hb hby at_27) ?_
    refine XS.istoreN X2.here hx rfl (hb hby at_28) rfl (l' := #[.val (.int p0), .val (.ref b1_0), .val (.int (0 : Int32))]) rfl ?_
    refine XS.iloadN X2.here hx rfl (hb hby at_29) rfl ?_
    show Steps p.tables e below (T2.setTop (mkF m 30 #[.val (.int p0), .val (.ref b1_0), .val (.int (0 : Int32))] [(.int p0)])) _
    refine st3 _ ?_
    refine XS.iloadN X3.here hx rfl (hb hby at_33) rfl ?_
    refine XS.icmpNo X3.here hx rfl (hb hby at_34) rfl (teq (by decide : (0 : Int32) = (0 : Int32))).2 ?_
    refine XS.iconst X3.here hx rfl (hb hby at_37) ?_
    refine XS.goto X3.here hx rfl (pc0 := 38) (pc' := 42) rfl (hb hby at_38) (by decide) (by decide) ?_
    show Steps p.tables e below (T3.setTop (mkF m 42 #[.val (.int p0), .val (.ref b1_0), .val (.int (0 : Int32))] [(.int (1 : Int32))])) _
    exact retN X3 hx (t := .boolean) Bd.returns (by simp) (hb hby at_42) hr
  · show OL (some (.int (1 : Int32))) Z.heap.size _ T3.heap _
    exact ⟨rfl, N3⟩
theorem lf_40 : ((9 : Int32) + (1 : Int32)) = (10 : Int32) := by decide
theorem lf_41 : ((10 : Int32) - (1 : Int32)) = (9 : Int32) := by decide
theorem lf_42 : ((9 : Int32) + (-1 : Int32)) = (8 : Int32) := by decide
def Qd_25 (Z : State) (w : Nat → Addr) (kk : Nat → ClassId) (iw : Nat → Int32) (vw : Nat → Value) (o1 : Addr) (p1 : Int32) (kc_o1 : ClassId) (h0 : Heap) (n0 : Nat) (v : Option Value) (h : Heap) (L : List Loc) : Prop := ∃ (vx1 : List Value), v = some (.int (10 : Int32)) ∧ Fr n0 L ∧ Keep h0 h [o1] ∧ Exa Z h o1 "[B" ∧ Arv Z h o1 kc_o1 .byte (11 : Int32) vx1 (.int (0 : Int32))
set_option maxRecDepth 65536 in
set_option maxHeartbeats 40000000 in
theorem rm_75 (l : Launch) (Z : State) (a0 : Array Value) (hw : ∀ d ∈ tables_1, d.before a0 Z = true) (w : Nat → Addr) (kk : Nat → ClassId) (iw : Nat → Int32) (vw : Nat → Value) (hN : Wd Z w kk iw vw) (ws : List Jvm.Cond) (o1 : Addr) (p1 : Int32) (kc_o1 : ClassId) (h0 : Heap) (O0 : Old Z Z.heap.size h0) (gn_o1 : Z.heap.size ≤ o1) (lt_o1 : o1 < h0.size) (E_o1 : Exa Z h0 o1 "[B") (V_o1 : Arv Z h0 o1 kc_o1 .byte (11 : Int32) [] (.int (0 : Int32))) (hp0 : p1 < (0 : Int32)) (hp1 : ¬ ((p1 / (10000 : Int32)) = (0 : Int32))) (hp2 : ¬ (((p1 / (10000 : Int32)) / (10 : Int32)) = (0 : Int32))) (hp3 : ¬ ((((p1 / (10000 : Int32)) / (10 : Int32)) / (10 : Int32)) = (0 : Int32))) (hp4 : ¬ (((((p1 / (10000 : Int32)) / (10 : Int32)) / (10 : Int32)) / (10 : Int32)) = (0 : Int32))) (hp5 : ¬ ((((((p1 / (10000 : Int32)) / (10 : Int32)) / (10 : Int32)) / (10 : Int32)) / (10 : Int32)) = (0 : Int32))) (hp6 : ((((((p1 / (10000 : Int32)) / (10 : Int32)) / (10 : Int32)) / (10 : Int32)) / (10 : Int32)) / (10 : Int32)) = (0 : Int32)) :
    Met l Z (⟨s_1, "writeYear", "([BI)I"⟩ : MethodName) (Jvm.Cond.code (⟨s_1, "writeYear", "([BI)I"⟩ : MethodName) prog_22_method_7_code 7 (some .int)) ws (Rm 0 0 0 0) #[(.ref o1), (.int p1)] h0 (Qd_25 Z w kk iw vw o1 p1 kc_o1 h0 Z.heap.size) := by
  have hN' := hN
  obtain ⟨hS0, hE0, hS1, hE1, hS2, hE2, hI0, hJ0, hR0, hRr0, hEq0⟩ := hN'
  refine own_body (plainFor_of_name pn_0) hisR ?_
  intro p e s m below meth c s₁ hx hby hml hown hnm hret X0 hZ e0
  have N0 := Fr.nil Z.heap.size
  have K0 : Keep h0 h0 [o1] := Keep.refl _ _
  have Vc1 := V_o1
  obtain ⟨cl1, Ar1, q1, Sz1, Ng1, Hv1, Gv1⟩ := Vc1
  have hin1 : ¬ ((0 : Int32) < 0 ∨ cl1.slots.size ≤ ((0 : Int32)).toNatClampNeg) := inb_of Sz1 ⟨(by decide : ¬ ((0 : Int32) < (0 : Int32))), (by decide : (0 : Int32) < (11 : Int32))⟩
  obtain ⟨T2, h2, X2, e2, W2, st2⟩ := stB X0 hx hZ e0 Ar1 (j := (0 : Int32)) hin1 (g := (mkF m 8 #[.val (.ref o1), .val (.int p1), .unset, .unset, .unset, .unset, .unset] [(.int (45 : Int32)), (.int (0 : Int32)), (.ref o1)])) rfl rfl (hb hby d1_8)
  obtain ⟨vl2, V_o1_v2⟩ := own_store V_o1 W2 (fits_nar_byte _) ⟨(by decide : ¬ ((0 : Int32) < (0 : Int32))), (by decide : (0 : Int32) < (11 : Int32))⟩
  have N2 := Fr.snoc X2 N0 gn_o1
  have E_o1_v2 := E_o1.wr W2
  have O2 := O0.wr W2 gn_o1
  have K2 : Keep h0 h2 [o1] := K0.wr W2 (Or.inl (List.mem_of_getElem? (i := 0) rfl))
  obtain ⟨T3, L3, X3, st3, N3, e3⟩ := sg_18 w kk iw vw hN o1 p1 (1 : Int32) p1 (5 : Int32) (p1 / (10000 : Int32)) vl2 kc_o1 X2 hx hZ hw hby hml hown e2 O2 N2 gn_o1 E_o1_v2.lt E_o1_v2 V_o1_v2 hp1
  obtain ⟨T4, L4, X4, st4, N4, e4⟩ := sg_18 w kk iw vw hN o1 p1 (1 : Int32) p1 (6 : Int32) ((p1 / (10000 : Int32)) / (10 : Int32)) vl2 kc_o1 X3 hx hZ hw hby hml hown e3 O2 N3 gn_o1 E_o1_v2.lt E_o1_v2 V_o1_v2 hp2
  obtain ⟨T5, L5, X5, st5, N5, e5⟩ := sg_18 w kk iw vw hN o1 p1 (1 : Int32) p1 (7 : Int32) (((p1 / (10000 : Int32)) / (10 : Int32)) / (10 : Int32)) vl2 kc_o1 X4 hx hZ hw hby hml hown e4 O2 N4 gn_o1 E_o1_v2.lt E_o1_v2 V_o1_v2 hp3
  obtain ⟨T6, L6, X6, st6, N6, e6⟩ := sg_18 w kk iw vw hN o1 p1 (1 : Int32) p1 (8 : Int32) ((((p1 / (10000 : Int32)) / (10 : Int32)) / (10 : Int32)) / (10 : Int32)) vl2 kc_o1 X5 hx hZ hw hby hml hown e5 O2 N5 gn_o1 E_o1_v2.lt E_o1_v2 V_o1_v2 hp4
  obtain ⟨T7, L7, X7, st7, N7, e7⟩ := sg_18 w kk iw vw hN o1 p1 (1 : Int32) p1 (9 : Int32) (((((p1 / (10000 : Int32)) / (10 : Int32)) / (10 : Int32)) / (10 : Int32)) / (10 : Int32)) vl2 kc_o1 X6 hx hZ hw hby hml hown e6 O2 N6 gn_o1 E_o1_v2.lt E_o1_v2 V_o1_v2 hp5
  obtain ⟨T8, L8, vl8_0, z5_8, X8, st8, N8, Kq8, tk8_0, tk8_1⟩ := sg_1 w kk iw vw hN o1 p1 (1 : Int32) p1 (10 : Int32) p1 (9 : Int32) vl2 kc_o1 X7 hx hZ hw hby hml hown e7 O2 N7 gn_o1 E_o1_v2.lt E_o1_v2 V_o1_v2 (by decide : ¬ ((9 : Int32) < (1 : Int32))) (by decide : ¬ ((9 : Int32) < (0 : Int32))) (by decide : (9 : Int32) < (11 : Int32))
  have E_o1_v8 := E_o1_v2.keep Kq8
  have O8 := O2.keep Kq8 (allS gn_o1 all0)
  have K8 : Keep h0 T8.heap [o1] := K2.trans Kq8 (allS (Or.inl (List.mem_of_getElem? (i := 0) rfl)) all0)
  obtain ⟨T9, L9, vl9_0, z5_9, X9, st9, N9, Kq9, tk9_0, tk9_1⟩ := sg_1 w kk iw vw hN o1 p1 (1 : Int32) p1 (10 : Int32) z5_8 (8 : Int32) vl8_0 kc_o1 X8 hx hZ hw hby hml hown rfl O8 N8 gn_o1 tk8_0.lt tk8_0 tk8_1 (by decide : ¬ ((8 : Int32) < (1 : Int32))) (by decide : ¬ ((8 : Int32) < (0 : Int32))) (by decide : (8 : Int32) < (11 : Int32))
  have tk8_0_v9 := tk8_0.keep Kq9
  have O9 := O8.keep Kq9 (allS gn_o1 all0)
  have K9 : Keep h0 T9.heap [o1] := K8.trans Kq9 (allS (Or.inl (List.mem_of_getElem? (i := 0) rfl)) all0)
  obtain ⟨T10, L10, vl10_0, z5_10, X10, st10, N10, Kq10, tk10_0, tk10_1⟩ := sg_1 w kk iw vw hN o1 p1 (1 : Int32) p1 (10 : Int32) z5_9 (7 : Int32) vl9_0 kc_o1 X9 hx hZ hw hby hml hown rfl O9 N9 gn_o1 tk9_0.lt tk9_0 tk9_1 (by decide : ¬ ((7 : Int32) < (1 : Int32))) (by decide : ¬ ((7 : Int32) < (0 : Int32))) (by decide : (7 : Int32) < (11 : Int32))
  have tk9_0_v10 := tk9_0.keep Kq10
  have O10 := O9.keep Kq10 (allS gn_o1 all0)
  have K10 : Keep h0 T10.heap [o1] := K9.trans Kq10 (allS (Or.inl (List.mem_of_getElem? (i := 0) rfl)) all0)
  obtain ⟨T11, L11, vl11_0, z5_11, X11, st11, N11, Kq11, tk11_0, tk11_1⟩ := sg_1 w kk iw vw hN o1 p1 (1 : Int32) p1 (10 : Int32) z5_10 (6 : Int32) vl10_0 kc_o1 X10 hx hZ hw hby hml hown rfl O10 N10 gn_o1 tk10_0.lt tk10_0 tk10_1 (by decide : ¬ ((6 : Int32) < (1 : Int32))) (by decide : ¬ ((6 : Int32) < (0 : Int32))) (by decide : (6 : Int32) < (11 : Int32))
  have tk10_0_v11 := tk10_0.keep Kq11
  have O11 := O10.keep Kq11 (allS gn_o1 all0)
  have K11 : Keep h0 T11.heap [o1] := K10.trans Kq11 (allS (Or.inl (List.mem_of_getElem? (i := 0) rfl)) all0)
  obtain ⟨T12, L12, vl12_0, z5_12, X12, st12, N12, Kq12, tk12_0, tk12_1⟩ := sg_1 w kk iw vw hN o1 p1 (1 : Int32) p1 (10 : Int32) z5_11 (5 : Int32) vl11_0 kc_o1 X11 hx hZ hw hby hml hown rfl O11 N11 gn_o1 tk11_0.lt tk11_0 tk11_1 (by decide : ¬ ((5 : Int32) < (1 : Int32))) (by decide : ¬ ((5 : Int32) < (0 : Int32))) (by decide : (5 : Int32) < (11 : Int32))
  have tk11_0_v12 := tk11_0.keep Kq12
  have O12 := O11.keep Kq12 (allS gn_o1 all0)
  have K12 : Keep h0 T12.heap [o1] := K11.trans Kq12 (allS (Or.inl (List.mem_of_getElem? (i := 0) rfl)) all0)
  obtain ⟨T13, L13, vl13_0, z5_13, X13, st13, N13, Kq13, tk13_0, tk13_1⟩ := sg_1 w kk iw vw hN o1 p1 (1 : Int32) p1 (10 : Int32) z5_12 (4 : Int32) vl12_0 kc_o1 X12 hx hZ hw hby hml hown rfl O12 N12 gn_o1 tk12_0.lt tk12_0 tk12_1 (by decide : ¬ ((4 : Int32) < (1 : Int32))) (by decide : ¬ ((4 : Int32) < (0 : Int32))) (by decide : (4 : Int32) < (11 : Int32))
  have tk12_0_v13 := tk12_0.keep Kq13
  have O13 := O12.keep Kq13 (allS gn_o1 all0)
  have K13 : Keep h0 T13.heap [o1] := K12.trans Kq13 (allS (Or.inl (List.mem_of_getElem? (i := 0) rfl)) all0)
  obtain ⟨T14, L14, vl14_0, z5_14, X14, st14, N14, Kq14, tk14_0, tk14_1⟩ := sg_1 w kk iw vw hN o1 p1 (1 : Int32) p1 (10 : Int32) z5_13 (3 : Int32) vl13_0 kc_o1 X13 hx hZ hw hby hml hown rfl O13 N13 gn_o1 tk13_0.lt tk13_0 tk13_1 (by decide : ¬ ((3 : Int32) < (1 : Int32))) (by decide : ¬ ((3 : Int32) < (0 : Int32))) (by decide : (3 : Int32) < (11 : Int32))
  have tk13_0_v14 := tk13_0.keep Kq14
  have O14 := O13.keep Kq14 (allS gn_o1 all0)
  have K14 : Keep h0 T14.heap [o1] := K13.trans Kq14 (allS (Or.inl (List.mem_of_getElem? (i := 0) rfl)) all0)
  obtain ⟨T15, L15, vl15_0, z5_15, X15, st15, N15, Kq15, tk15_0, tk15_1⟩ := sg_1 w kk iw vw hN o1 p1 (1 : Int32) p1 (10 : Int32) z5_14 (2 : Int32) vl14_0 kc_o1 X14 hx hZ hw hby hml hown rfl O14 N14 gn_o1 tk14_0.lt tk14_0 tk14_1 (by decide : ¬ ((2 : Int32) < (1 : Int32))) (by decide : ¬ ((2 : Int32) < (0 : Int32))) (by decide : (2 : Int32) < (11 : Int32))
  have tk14_0_v15 := tk14_0.keep Kq15
  have O15 := O14.keep Kq15 (allS gn_o1 all0)
  have K15 : Keep h0 T15.heap [o1] := K14.trans Kq15 (allS (Or.inl (List.mem_of_getElem? (i := 0) rfl)) all0)
  obtain ⟨T16, L16, vl16_0, z5_16, X16, st16, N16, Kq16, tk16_0, tk16_1⟩ := sg_1 w kk iw vw hN o1 p1 (1 : Int32) p1 (10 : Int32) z5_15 (1 : Int32) vl15_0 kc_o1 X15 hx hZ hw hby hml hown rfl O15 N15 gn_o1 tk15_0.lt tk15_0 tk15_1 (by decide : ¬ ((1 : Int32) < (1 : Int32))) (by decide : ¬ ((1 : Int32) < (0 : Int32))) (by decide : (1 : Int32) < (11 : Int32))
  have tk15_0_v16 := tk15_0.keep Kq16
  have O16 := O15.keep Kq16 (allS gn_o1 all0)
  have K16 : Keep h0 T16.heap [o1] := K15.trans Kq16 (allS (Or.inl (List.mem_of_getElem? (i := 0) rfl)) all0)
  refine ⟨T16, some (.int (10 : Int32)), _, _, _, by decide, by decide, X16, nofun, ⟨vl16_0, rfl, N16, K16, tk16_0, tk16_1⟩, fun fs hr => castTop (ef_0 m (.ref o1) rfl (.int p1) rfl) ?_⟩
  show Steps p.tables e below (s₁.setTop (mkF m 0 #[.val (.ref o1), .val (.int p1), .unset, .unset, .unset, .unset, .unset] [])) _
  refine XS.iloadN X0.here hx rfl (hb hby d1_0) rfl ?_
  refine XS.ifNo X0.here hx rfl (hb hby d1_1) rfl ((if0 _ _).trans (tlt hp0).2.1) ?_
  refine XS.aloadN X0.here hx rfl (hb hby d1_4) rfl rfl ?_
  refine XS.iconst X0.here hx rfl (hb hby d1_5) ?_
  refine XS.bipush X0.here hx rfl (hb hby d1_6) ?_
  refine st2 _ ?_
  refine XS.iconst X2.here hx rfl (hb hby d1_9) ?_
  refine XS.istoreN X2.here hx rfl (hb hby d1_10) rfl (l' := #[.val (.ref o1), .val (.int p1), .val (.int (1 : Int32)), .unset, .unset, .unset, .unset]) rfl ?_
  refine XS.goto X2.here hx rfl (pc0 := 11) (pc' := 33) rfl (hb hby d1_11) (by decide) (by decide) ?_
  refine XS.iloadN X2.here hx rfl (hb hby d1_33) rfl ?_
  show Steps p.tables e below (T2.setTop (mkF m 34 #[.val (.ref o1), .val (.int p1), .val (.int (1 : Int32)), .unset, .unset, .unset, .unset] [(.int p1)])) _
  refine XS.ifNo X2.here hx rfl (hb hby d1_34) rfl ((if0 _ _).trans (tlt hp0).2.1) ?_
  refine XS.iloadN X2.here hx rfl (hb hby d1_37) rfl ?_
  refine XS.goto X2.here hx rfl (pc0 := 38) (pc' := 43) rfl (hb hby d1_38) (by decide) (by decide) ?_
  refine XS.istoreN X2.here hx rfl (hb hby d1_43) rfl (l' := #[.val (.ref o1), .val (.int p1), .val (.int (1 : Int32)), .val (.int p1), .unset, .unset, .unset]) rfl ?_
  refine XS.iloadN X2.here hx rfl (hb hby d1_44) rfl ?_
  refine XS.iconst X2.here hx rfl (hb hby d1_45) ?_
  refine XS.iadd X2.here hx rfl (hb hby d1_46) rfl ?_
  show Steps p.tables e below (T2.setTop (mkF m 47 #[.val (.ref o1), .val (.int p1), .val (.int (1 : Int32)), .val (.int p1), .unset, .unset, .unset] [(.int ((1 : Int32) + (4 : Int32)))])) _
  rw [lf_0]
  refine XS.istore X2.here hx rfl (hb hby d1_47) rfl (l' := #[.val (.ref o1), .val (.int p1), .val (.int (1 : Int32)), .val (.int p1), .val (.int (5 : Int32)), .unset, .unset]) rfl ?_
  refine XS.iloadN X2.here hx rfl (hb hby d1_49) rfl ?_
  refine XS.sipush X2.here hx rfl (hb hby d1_50) ?_
  show Steps p.tables e below (T2.setTop (mkF m 53 #[.val (.ref o1), .val (.int p1), .val (.int (1 : Int32)), .val (.int p1), .val (.int (5 : Int32)), .unset, .unset] [(.int (10000 : Int32)), (.int p1)])) _
  refine XS.idiv X2.here hx rfl (hb hby d1_53) rfl (by decide : ¬ ((10000 : Int32) = (0 : Int32))) ?_
  refine XS.istore X2.here hx rfl (hb hby d1_54) rfl (l' := #[.val (.ref o1), .val (.int p1), .val (.int (1 : Int32)), .val (.int p1), .val (.int (5 : Int32)), .val (.int (p1 / (10000 : Int32))), .unset]) rfl ?_
  show Steps p.tables e below (T2.setTop (mkF m 56 #[.val (.ref o1), .val (.int p1), .val (.int (1 : Int32)), .val (.int p1), .val (.int (5 : Int32)), .val (.int (p1 / (10000 : Int32))), .unset] [])) _
  refine st3 _ ?_
  show Steps p.tables e below (T3.setTop (mkF m 56 #[.val (.ref o1), .val (.int p1), .val (.int (1 : Int32)), .val (.int p1), .val (.int ((5 : Int32) + (1 : Int32))), .val (.int ((p1 / (10000 : Int32)) / (10 : Int32))), .unset] [])) _
  rw [lf_12]
  show Steps p.tables e below (T3.setTop (mkF m 56 #[.val (.ref o1), .val (.int p1), .val (.int (1 : Int32)), .val (.int p1), .val (.int (6 : Int32)), .val (.int ((p1 / (10000 : Int32)) / (10 : Int32))), .unset] [])) _
  refine st4 _ ?_
  show Steps p.tables e below (T4.setTop (mkF m 56 #[.val (.ref o1), .val (.int p1), .val (.int (1 : Int32)), .val (.int p1), .val (.int ((6 : Int32) + (1 : Int32))), .val (.int (((p1 / (10000 : Int32)) / (10 : Int32)) / (10 : Int32))), .unset] [])) _
  rw [lf_19]
  show Steps p.tables e below (T4.setTop (mkF m 56 #[.val (.ref o1), .val (.int p1), .val (.int (1 : Int32)), .val (.int p1), .val (.int (7 : Int32)), .val (.int (((p1 / (10000 : Int32)) / (10 : Int32)) / (10 : Int32))), .unset] [])) _
  refine st5 _ ?_
  show Steps p.tables e below (T5.setTop (mkF m 56 #[.val (.ref o1), .val (.int p1), .val (.int (1 : Int32)), .val (.int p1), .val (.int ((7 : Int32) + (1 : Int32))), .val (.int ((((p1 / (10000 : Int32)) / (10 : Int32)) / (10 : Int32)) / (10 : Int32))), .unset] [])) _
  rw [lf_26]
  show Steps p.tables e below (T5.setTop (mkF m 56 #[.val (.ref o1), .val (.int p1), .val (.int (1 : Int32)), .val (.int p1), .val (.int (8 : Int32)), .val (.int ((((p1 / (10000 : Int32)) / (10 : Int32)) / (10 : Int32)) / (10 : Int32))), .unset] [])) _
  refine st6 _ ?_
  show Steps p.tables e below (T6.setTop (mkF m 56 #[.val (.ref o1), .val (.int p1), .val (.int (1 : Int32)), .val (.int p1), .val (.int ((8 : Int32) + (1 : Int32))), .val (.int (((((p1 / (10000 : Int32)) / (10 : Int32)) / (10 : Int32)) / (10 : Int32)) / (10 : Int32))), .unset] [])) _
  rw [lf_33]
  show Steps p.tables e below (T6.setTop (mkF m 56 #[.val (.ref o1), .val (.int p1), .val (.int (1 : Int32)), .val (.int p1), .val (.int (9 : Int32)), .val (.int (((((p1 / (10000 : Int32)) / (10 : Int32)) / (10 : Int32)) / (10 : Int32)) / (10 : Int32))), .unset] [])) _
  refine st7 _ ?_
  show Steps p.tables e below (T7.setTop (mkF m 56 #[.val (.ref o1), .val (.int p1), .val (.int (1 : Int32)), .val (.int p1), .val (.int ((9 : Int32) + (1 : Int32))), .val (.int ((((((p1 / (10000 : Int32)) / (10 : Int32)) / (10 : Int32)) / (10 : Int32)) / (10 : Int32)) / (10 : Int32))), .unset] [])) _
  rw [lf_40]
  refine XS.iload X7.here hx rfl (hb hby d1_56) rfl ?_
  refine XS.ifYes X7.here hx rfl (pc0 := 58) (pc' := 74) rfl (hb hby d1_58) rfl ((if0 _ _).trans (teq hp6).1) (by decide) (by decide) ?_
  refine XS.iloadN X7.here hx rfl (hb hby d1_74) rfl ?_
  refine XS.istore X7.here hx rfl (hb hby d1_75) rfl (l' := #[.val (.ref o1), .val (.int p1), .val (.int (1 : Int32)), .val (.int p1), .val (.int (10 : Int32)), .val (.int p1), .unset]) rfl ?_
  refine XS.iload X7.here hx rfl (hb hby d1_77) rfl ?_
  refine XS.iconst X7.here hx rfl (hb hby d1_79) ?_
  refine XS.isub X7.here hx rfl (hb hby d1_80) rfl ?_
  show Steps p.tables e below (T7.setTop (mkF m 81 #[.val (.ref o1), .val (.int p1), .val (.int (1 : Int32)), .val (.int p1), .val (.int (10 : Int32)), .val (.int p1), .unset] [(.int ((10 : Int32) - (1 : Int32)))])) _
  rw [lf_41]
  refine XS.istore X7.here hx rfl (hb hby d1_81) rfl (l' := #[.val (.ref o1), .val (.int p1), .val (.int (1 : Int32)), .val (.int p1), .val (.int (10 : Int32)), .val (.int p1), .val (.int (9 : Int32))]) rfl ?_
  show Steps p.tables e below (T7.setTop (mkF m 83 #[.val (.ref o1), .val (.int p1), .val (.int (1 : Int32)), .val (.int p1), .val (.int (10 : Int32)), .val (.int p1), .val (.int (9 : Int32))] [])) _
  refine st8 _ ?_
  show Steps p.tables e below (T8.setTop (mkF m 83 #[.val (.ref o1), .val (.int p1), .val (.int (1 : Int32)), .val (.int p1), .val (.int (10 : Int32)), .val (.int z5_8), .val (.int ((9 : Int32) + (-1 : Int32)))] [])) _
  rw [lf_42]
  show Steps p.tables e below (T8.setTop (mkF m 83 #[.val (.ref o1), .val (.int p1), .val (.int (1 : Int32)), .val (.int p1), .val (.int (10 : Int32)), .val (.int z5_8), .val (.int (8 : Int32))] [])) _
  refine st9 _ ?_
  show Steps p.tables e below (T9.setTop (mkF m 83 #[.val (.ref o1), .val (.int p1), .val (.int (1 : Int32)), .val (.int p1), .val (.int (10 : Int32)), .val (.int z5_9), .val (.int ((8 : Int32) + (-1 : Int32)))] [])) _
  rw [lf_35]
  show Steps p.tables e below (T9.setTop (mkF m 83 #[.val (.ref o1), .val (.int p1), .val (.int (1 : Int32)), .val (.int p1), .val (.int (10 : Int32)), .val (.int z5_9), .val (.int (7 : Int32))] [])) _
  refine st10 _ ?_
  show Steps p.tables e below (T10.setTop (mkF m 83 #[.val (.ref o1), .val (.int p1), .val (.int (1 : Int32)), .val (.int p1), .val (.int (10 : Int32)), .val (.int z5_10), .val (.int ((7 : Int32) + (-1 : Int32)))] [])) _
  rw [lf_28]
  show Steps p.tables e below (T10.setTop (mkF m 83 #[.val (.ref o1), .val (.int p1), .val (.int (1 : Int32)), .val (.int p1), .val (.int (10 : Int32)), .val (.int z5_10), .val (.int (6 : Int32))] [])) _
  refine st11 _ ?_
  show Steps p.tables e below (T11.setTop (mkF m 83 #[.val (.ref o1), .val (.int p1), .val (.int (1 : Int32)), .val (.int p1), .val (.int (10 : Int32)), .val (.int z5_11), .val (.int ((6 : Int32) + (-1 : Int32)))] [])) _
  rw [lf_21]
  show Steps p.tables e below (T11.setTop (mkF m 83 #[.val (.ref o1), .val (.int p1), .val (.int (1 : Int32)), .val (.int p1), .val (.int (10 : Int32)), .val (.int z5_11), .val (.int (5 : Int32))] [])) _
  refine st12 _ ?_
  show Steps p.tables e below (T12.setTop (mkF m 83 #[.val (.ref o1), .val (.int p1), .val (.int (1 : Int32)), .val (.int p1), .val (.int (10 : Int32)), .val (.int z5_12), .val (.int ((5 : Int32) + (-1 : Int32)))] [])) _
  rw [lf_14]
  show Steps p.tables e below (T12.setTop (mkF m 83 #[.val (.ref o1), .val (.int p1), .val (.int (1 : Int32)), .val (.int p1), .val (.int (10 : Int32)), .val (.int z5_12), .val (.int (4 : Int32))] [])) _
  refine st13 _ ?_
  show Steps p.tables e below (T13.setTop (mkF m 83 #[.val (.ref o1), .val (.int p1), .val (.int (1 : Int32)), .val (.int p1), .val (.int (10 : Int32)), .val (.int z5_13), .val (.int ((4 : Int32) + (-1 : Int32)))] [])) _
  rw [lf_2]
  show Steps p.tables e below (T13.setTop (mkF m 83 #[.val (.ref o1), .val (.int p1), .val (.int (1 : Int32)), .val (.int p1), .val (.int (10 : Int32)), .val (.int z5_13), .val (.int (3 : Int32))] [])) _
  refine st14 _ ?_
  show Steps p.tables e below (T14.setTop (mkF m 83 #[.val (.ref o1), .val (.int p1), .val (.int (1 : Int32)), .val (.int p1), .val (.int (10 : Int32)), .val (.int z5_14), .val (.int ((3 : Int32) + (-1 : Int32)))] [])) _
  rw [lf_3]
  show Steps p.tables e below (T14.setTop (mkF m 83 #[.val (.ref o1), .val (.int p1), .val (.int (1 : Int32)), .val (.int p1), .val (.int (10 : Int32)), .val (.int z5_14), .val (.int (2 : Int32))] [])) _
  refine st15 _ ?_
  show Steps p.tables e below (T15.setTop (mkF m 83 #[.val (.ref o1), .val (.int p1), .val (.int (1 : Int32)), .val (.int p1), .val (.int (10 : Int32)), .val (.int z5_15), .val (.int ((2 : Int32) + (-1 : Int32)))] [])) _
  rw [lf_4]
  show Steps p.tables e below (T15.setTop (mkF m 83 #[.val (.ref o1), .val (.int p1), .val (.int (1 : Int32)), .val (.int p1), .val (.int (10 : Int32)), .val (.int z5_15), .val (.int (1 : Int32))] [])) _
  refine st16 _ ?_
  show Steps p.tables e below (T16.setTop (mkF m 83 #[.val (.ref o1), .val (.int p1), .val (.int (1 : Int32)), .val (.int p1), .val (.int (10 : Int32)), .val (.int z5_16), .val (.int ((1 : Int32) + (-1 : Int32)))] [])) _
  rw [lf_5]
  refine XS.iload X16.here hx rfl (hb hby d1_83) rfl ?_
  refine XS.iloadN X16.here hx rfl (hb hby d1_85) rfl ?_
  refine XS.icmpYes X16.here hx rfl (pc0 := 86) (pc' := 115) rfl (hb hby d1_86) rfl (tlt (by decide : (0 : Int32) < (1 : Int32))).1 (by decide) (by decide) ?_
  refine XS.iload X16.here hx rfl (hb hby d1_115) rfl ?_
  show Steps p.tables e below (T16.setTop (mkF m 117 #[.val (.ref o1), .val (.int p1), .val (.int (1 : Int32)), .val (.int p1), .val (.int (10 : Int32)), .val (.int z5_16), .val (.int (0 : Int32))] [(.int (10 : Int32))])) _
  exact retI X16 hx hret (hb hby d1_117) hr
theorem lf_43 : ((11 : Int32) ||| (10 : Int32)) = (11 : Int32) := by decide
set_option maxRecDepth 65536 in
set_option maxHeartbeats 40000000 in
theorem rm_76 (l : Launch) (Z : State) (a0 : Array Value) (hw : ∀ d ∈ tables_1, d.before a0 Z = true) (w : Nat → Addr) (kk : Nat → ClassId) (iw : Nat → Int32) (vw : Nat → Value) (hN : Wd Z w kk iw vw) (ws : List Jvm.Cond)  (h0 : Heap) (O0 : Old Z Z.heap.size h0) :
    Met l Z (⟨s_6, s_11, s_5⟩ : MethodName) (Jvm.Cond.code (⟨s_6, s_11, s_5⟩ : MethodName) jdk_41_method_13_code 4 (some .int)) ws (Rm 0 0 0 0) #[(.int (0 : Int32)), (.int (10 : Int32)), (.int (11 : Int32)), (vw 0)] h0 (OQ (some (.int (0 : Int32))) h0 Z.heap.size) := by
  have hN' := hN
  obtain ⟨hS0, hE0, hS1, hE1, hS2, hE2, hI0, hJ0, hR0, hRr0, hEq0⟩ := hN'
  refine own_body (plainFor_of_name pn_2) hisR ?_
  intro p e s m below meth c s₁ hx hby hml hown hnm hret X0 hZ e0
  have N0 := Fr.nil Z.heap.size
  refine ⟨s₁, some (.int (0 : Int32)), _, _, _, by decide, by decide, X0, nofun, (by rw [e0]; exact ⟨rfl, N0, rfl⟩), fun fs hr => castTop (ef_2 m (.int (0 : Int32)) rfl (.int (10 : Int32)) rfl (.int (11 : Int32)) rfl (vw 0) (own_cat hRr0)) ?_⟩
  show Steps p.tables e below (s₁.setTop (mkF m 0 #[.val (.int (0 : Int32)), .val (.int (10 : Int32)), .val (.int (11 : Int32)), .val (vw 0)] [])) _
  refine XS.iloadN X0.here hx rfl (hb hby d6_0) rfl ?_
  refine XS.iloadN X0.here hx rfl (hb hby d6_1) rfl ?_
  refine XS.ior X0.here hx rfl (hb hby d6_2) rfl ?_
  show Steps p.tables e below (s₁.setTop (mkF m 3 #[.val (.int (0 : Int32)), .val (.int (10 : Int32)), .val (.int (11 : Int32)), .val (vw 0)] [(.int ((11 : Int32) ||| (0 : Int32)))])) _
  rw [lf_6]
  refine XS.iloadN X0.here hx rfl (hb hby d6_3) rfl ?_
  refine XS.ior X0.here hx rfl (hb hby d6_4) rfl ?_
  show Steps p.tables e below (s₁.setTop (mkF m 5 #[.val (.int (0 : Int32)), .val (.int (10 : Int32)), .val (.int (11 : Int32)), .val (vw 0)] [(.int ((11 : Int32) ||| (10 : Int32)))])) _
  rw [lf_43]
  refine XS.ifNo X0.here hx rfl (hb hby d6_5) rfl ((if0 _ _).trans (flt (by decide : ¬ ((11 : Int32) < (0 : Int32)))).1) ?_
  refine XS.iloadN X0.here hx rfl (hb hby d6_8) rfl ?_
  refine XS.iloadN X0.here hx rfl (hb hby d6_9) rfl ?_
  refine XS.iloadN X0.here hx rfl (hb hby d6_10) rfl ?_
  refine XS.isub X0.here hx rfl (hb hby d6_11) rfl ?_
  show Steps p.tables e below (s₁.setTop (mkF m 12 #[.val (.int (0 : Int32)), .val (.int (10 : Int32)), .val (.int (11 : Int32)), .val (vw 0)] [(.int ((11 : Int32) - (0 : Int32))), (.int (10 : Int32))])) _
  rw [lf_8]
  show Steps p.tables e below (s₁.setTop (mkF m 12 #[.val (.int (0 : Int32)), .val (.int (10 : Int32)), .val (.int (11 : Int32)), .val (vw 0)] [(.int (11 : Int32)), (.int (10 : Int32))])) _
  refine XS.icmpYes X0.here hx rfl (pc0 := 12) (pc' := 23) rfl (hb hby d6_12) rfl (flt (by decide : ¬ ((11 : Int32) < (10 : Int32)))).2.2.2 (by decide) (by decide) ?_
  refine XS.iloadN X0.here hx rfl (hb hby d6_23) rfl ?_
  show Steps p.tables e below (s₁.setTop (mkF m 24 #[.val (.int (0 : Int32)), .val (.int (10 : Int32)), .val (.int (11 : Int32)), .val (vw 0)] [(.int (0 : Int32))])) _
  exact retI X0 hx hret (hb hby d6_24) hr
set_option maxRecDepth 65536 in
set_option maxHeartbeats 40000000 in
theorem rm_77 (l : Launch) (Z : State) (a0 : Array Value) (hw : ∀ d ∈ tables_1, d.before a0 Z = true) (w : Nat → Addr) (kk : Nat → ClassId) (iw : Nat → Int32) (vw : Nat → Value) (hN : Wd Z w kk iw vw) (ws : List Jvm.Cond)  (h0 : Heap) (O0 : Old Z Z.heap.size h0) :
    Met l Z (⟨s_0, s_10, "(III)I"⟩ : MethodName) (Jvm.Cond.code (⟨s_0, s_10, "(III)I"⟩ : MethodName) jdk_42_method_157_code 3 (some .int)) ws (Rm 1 0 0 15) #[(.int (0 : Int32)), (.int (10 : Int32)), (.int (11 : Int32))] h0 (OQ (some (.int (0 : Int32))) h0 Z.heap.size) := by
  have hN' := hN
  obtain ⟨hS0, hE0, hS1, hE1, hS2, hE2, hI0, hJ0, hR0, hRr0, hEq0⟩ := hN'
  refine own_body (plainFor_of_name pn_3) hisR ?_
  intro p e s m below meth c s₁ hx hby hml hown hnm hret X0 hZ e0
  have N0 := Fr.nil Z.heap.size
  obtain ⟨T1, X1, e1, st1⟩ := getS2 X0 hx hZ hown (host := "") (Or.inl (W hw 28 rfl)) Via.refl e0 (hR0.ext O0.2) (g := (mkF m 3 #[.val (.int (0 : Int32)), .val (.int (10 : Int32)), .val (.int (11 : Int32))] [(.int (11 : Int32)), (.int (10 : Int32)), (.int (0 : Int32))])) rfl (hb hby d5_3)
  obtain ⟨_, _, ⟨T2, L2, k2, n2⟩, -, X2, ⟨Lc2, hQ2, l2, y2, z2⟩, st2⟩ := Jvm.LawKit.callS X1 hx (y := (⟨s_6, s_11, s_5⟩ : MethodName)) hown (mvT hZ (W hw 30 rfl)) (mvT hZ (W hw 31 rfl)) (mvT hZ (W hw 29 rfl)) (mvT hZ (W hw 32 rfl)) (by decide) (backOf (W := 0) (rm_76 l Z a0 hw w kk iw vw hN [] h0 O0) hZ (W hw 32 rfl) (W hw 29 rfl) (by decide) (by decide)) (g := (mkF m 6 #[.val (.int (0 : Int32)), .val (.int (10 : Int32)), .val (.int (11 : Int32))] [(vw 0), (.int (11 : Int32)), (.int (10 : Int32)), (.int (0 : Int32))])) rfl (by rw [hml]; rfl) (argsL := [(.int (0 : Int32)), (.int (10 : Int32)), (.int (11 : Int32)), (vw 0)]) (rest := []) (lenOf pd_2 rfl) rfl (by show 2 * 0 + _ ≤ _; exact Nat.le_of_eq rfl) (hb hby d5_6) (fun _ _ => ⟨rfl, e1, (by decide : 0 + 0 ≤ _), (by decide : 0 + 0 ≤ _)⟩)
  dsimp only [Pt.U, Pt.locs, Pt.cells, Pt.slots] at X2 l2 y2 z2 st2 hQ2
  subst l2 y2 z2
  obtain ⟨rfl, N2q, e2⟩ := hQ2
  have N2 := Fr.app N0 N2q
  refine ⟨T2, some (.int (0 : Int32)), _, _, _, by decide, by decide, X2, nofun, (by rw [e2]; exact ⟨rfl, N2, rfl⟩), fun fs hr => castTop (ef_3 m (.int (0 : Int32)) rfl (.int (10 : Int32)) rfl (.int (11 : Int32)) rfl) ?_⟩
  show Steps p.tables e below (s₁.setTop (mkF m 0 #[.val (.int (0 : Int32)), .val (.int (10 : Int32)), .val (.int (11 : Int32))] [])) _
  refine XS.iloadN X0.here hx rfl (hb hby d5_0) rfl ?_
  refine XS.iloadN X0.here hx rfl (hb hby d5_1) rfl ?_
  refine XS.iloadN X0.here hx rfl (hb hby d5_2) rfl ?_
  refine st1 _ ?_
  refine st2 _ ?_
  show Steps p.tables e below (T2.setTop (mkF m 9 #[.val (.int (0 : Int32)), .val (.int (10 : Int32)), .val (.int (11 : Int32))] [(.int (0 : Int32))])) _
  exact retI X2 hx hret (hb hby d5_9) hr
theorem lf_44 : ((0 : Int32) + (10 : Int32)) = (10 : Int32) := by decide
set_option maxRecDepth 65536 in
set_option maxHeartbeats 40000000 in
theorem rm_78 (l : Launch) (Z : State) (a0 : Array Value) (hw : ∀ d ∈ tables_1, d.before a0 Z = true) (w : Nat → Addr) (kk : Nat → ClassId) (iw : Nat → Int32) (vw : Nat → Value) (hN : Wd Z w kk iw vw) (ws : List Jvm.Cond)  (h0 : Heap) (O0 : Old Z Z.heap.size h0) :
    Met l Z (⟨s_2, "checkLength", "(II)V"⟩ : MethodName) (Jvm.Cond.code (⟨s_2, "checkLength", "(II)V"⟩ : MethodName) jdk_65_method_131_code 2 none) ws (Rm 0 0 0 0) #[(.int (0 : Int32)), (.int (10 : Int32))] h0 (OQ (none) h0 Z.heap.size) := by
  have hN' := hN
  obtain ⟨hS0, hE0, hS1, hE1, hS2, hE2, hI0, hJ0, hR0, hRr0, hEq0⟩ := hN'
  refine own_body (plainFor_of_name pn_4) hisR ?_
  intro p e s m below meth c s₁ hx hby hml hown hnm hret X0 hZ e0
  have N0 := Fr.nil Z.heap.size
  refine ⟨s₁, none, _, _, _, by decide, by decide, X0, (fun _ => rfl), (by rw [e0]; exact ⟨rfl, N0, rfl⟩), fun fs hr => castTop (ef_4 m (.int (0 : Int32)) rfl (.int (10 : Int32)) rfl) ?_⟩
  show Steps p.tables e below (s₁.setTop (mkF m 0 #[.val (.int (0 : Int32)), .val (.int (10 : Int32))] [])) _
  refine XS.iloadN X0.here hx rfl (hb hby d10_0) rfl ?_
  refine XS.iloadN X0.here hx rfl (hb hby d10_1) rfl ?_
  refine XS.icmpYes X0.here hx rfl (pc0 := 2) (pc' := 37) rfl (hb hby d10_2) rfl (flt (by decide : ¬ ((10 : Int32) < (0 : Int32)))).2.1 (by decide) (by decide) ?_
  show Steps p.tables e below (s₁.setTop (mkF m 37 #[.val (.int (0 : Int32)), .val (.int (10 : Int32))] [])) _
  exact X0.returnOut hx hret (hb hby d10_37) hr
theorem lf_45 : ((10 : Int32) - (0 : Int32)) = (10 : Int32) := by decide
set_option maxRecDepth 65536 in
set_option maxHeartbeats 40000000 in
theorem rm_79 (l : Launch) (Z : State) (a0 : Array Value) (hw : ∀ d ∈ tables_1, d.before a0 Z = true) (w : Nat → Addr) (kk : Nat → ClassId) (iw : Nat → Int32) (vw : Nat → Value) (hN : Wd Z w kk iw vw) (ws : List Jvm.Cond)  (h0 : Heap) (O0 : Old Z Z.heap.size h0) :
    Met l Z (⟨s_14, "min", "(II)I"⟩ : MethodName) (Jvm.Cond.code (⟨s_14, "min", "(II)I"⟩ : MethodName) jdk_29_method_69_code 2 (some .int)) ws (Rm 0 0 0 0) #[(.int (11 : Int32)), (.int (10 : Int32))] h0 (OQ (some (.int (10 : Int32))) h0 Z.heap.size) := by
  have hN' := hN
  obtain ⟨hS0, hE0, hS1, hE1, hS2, hE2, hI0, hJ0, hR0, hRr0, hEq0⟩ := hN'
  refine own_body (Jvm.Free.JP.mathPlain rfl (by decide +kernel)) hisR ?_
  intro p e s m below meth c s₁ hx hby hml hown hnm hret X0 hZ e0
  have N0 := Fr.nil Z.heap.size
  refine ⟨s₁, some (.int (10 : Int32)), _, _, _, by decide, by decide, X0, nofun, (by rw [e0]; exact ⟨rfl, N0, rfl⟩), fun fs hr => castTop (ef_4 m (.int (11 : Int32)) rfl (.int (10 : Int32)) rfl) ?_⟩
  show Steps p.tables e below (s₁.setTop (mkF m 0 #[.val (.int (11 : Int32)), .val (.int (10 : Int32))] [])) _
  refine XS.iloadN X0.here hx rfl (hb hby d11_0) rfl ?_
  refine XS.iloadN X0.here hx rfl (hb hby d11_1) rfl ?_
  refine XS.icmpYes X0.here hx rfl (pc0 := 2) (pc' := 9) rfl (hb hby d11_2) rfl (tlt (by decide : (10 : Int32) < (11 : Int32))).2.2.1 (by decide) (by decide) ?_
  refine XS.iloadN X0.here hx rfl (hb hby d11_9) rfl ?_
  show Steps p.tables e below (s₁.setTop (mkF m 10 #[.val (.int (11 : Int32)), .val (.int (10 : Int32))] [(.int (10 : Int32))])) _
  exact retI X0 hx hret (hb hby d11_10) hr
def Qd_26 (Z : State) (w : Nat → Addr) (kk : Nat → ClassId) (iw : Nat → Int32) (vw : Nat → Value) (o1 : Addr) (vl_o1 : List Value) (kc_o1 : ClassId) (h0 : Heap) (n0 : Nat) (v : Option Value) (h : Heap) (L : List Loc) : Prop := ∃ (c1 : Addr) (kc1 : ClassId) (vx1 : List Value), v = some (.ref c1) ∧ Fr n0 L ∧ Keep h0 h [] ∧ h0.size ≤ c1 ∧ Exa Z h c1 "[B" ∧ Arv Z h c1 kc1 .byte (10 : Int32) vx1 (.int (0 : Int32))
set_option maxRecDepth 65536 in
set_option maxHeartbeats 40000000 in
theorem rm_80 (l : Launch) (Z : State) (a0 : Array Value) (hw : ∀ d ∈ tables_1, d.before a0 Z = true) (w : Nat → Addr) (kk : Nat → ClassId) (iw : Nat → Int32) (vw : Nat → Value) (hN : Wd Z w kk iw vw) (ws : List Jvm.Cond) (o1 : Addr) (vl_o1 : List Value) (kc_o1 : ClassId) (h0 : Heap) (O0 : Old Z Z.heap.size h0) (gn_o1 : Z.heap.size ≤ o1) (lt_o1 : o1 < h0.size) (E_o1 : Exa Z h0 o1 "[B") (V_o1 : Arv Z h0 o1 kc_o1 .byte (11 : Int32) vl_o1 (.int (0 : Int32))) :
    Met l Z (⟨s_2, s_13, "([BII)[B"⟩ : MethodName) (Jvm.Cond.code (⟨s_2, s_13, "([BII)[B"⟩ : MethodName) jdk_65_method_133_code 5 (some (.array .byte))) ws (Rm 1 1 10 18) #[(.ref o1), (.int (0 : Int32)), (.int (10 : Int32))] h0 (Qd_26 Z w kk iw vw o1 vl_o1 kc_o1 h0 Z.heap.size) := by
  have hN' := hN
  obtain ⟨hS0, hE0, hS1, hE1, hS2, hE2, hI0, hJ0, hR0, hRr0, hEq0⟩ := hN'
  refine own_body (plainFor_of_name pn_4) hisR ?_
  intro p e s m below meth c s₁ hx hby hml hown hnm hret X0 hZ e0
  have N0 := Fr.nil Z.heap.size
  have K0 : Keep h0 h0 [] := Keep.refl _ _
  obtain ⟨_, _, ⟨T1, L1, k1, n1⟩, -, X1, ⟨Lc1, hQ1, l1, y1, z1⟩, st1⟩ := Jvm.LawKit.callS X0 hx (y := (⟨s_2, "checkLength", "(II)V"⟩ : MethodName)) hown (mvT hZ (W hw 52 rfl)) (mvT hZ (W hw 53 rfl)) (mvT hZ (W hw 47 rfl)) (mvT hZ (W hw 54 rfl)) (by decide) (backOf (W := 0) (rm_78 l Z a0 hw w kk iw vw hN [] h0 O0) hZ (W hw 54 rfl) (W hw 47 rfl) (by decide) (by decide)) (g := (mkF m 2 #[.val (.ref o1), .val (.int (0 : Int32)), .val (.int (10 : Int32)), .unset, .unset] [(.int (10 : Int32)), (.int (0 : Int32))])) rfl (by rw [hml]; rfl) (argsL := [(.int (0 : Int32)), (.int (10 : Int32))]) (rest := []) (lenOf pd_4 rfl) rfl (by show 2 * 0 + _ ≤ _; exact Nat.le_of_eq rfl) (hb hby d9_2) (fun _ _ => ⟨rfl, e0, (by decide : 0 + 0 ≤ _), (by decide : 0 + 0 ≤ _)⟩)
  dsimp only [Pt.U, Pt.locs, Pt.cells, Pt.slots] at X1 l1 y1 z1 st1 hQ1
  subst l1 y1 z1
  obtain ⟨rfl, N1q, e1⟩ := hQ1
  have N1 := Fr.app N0 N1q
  obtain ⟨T2, h2, k2, X2, e2, E2, A2, AE2, st2⟩ := newPE X1 hx hZ (W hw 4 rfl) e1 (g := (mkF m 10 #[.val (.ref o1), .val (.int (0 : Int32)), .val (.int (10 : Int32)), .val (.int (10 : Int32)), .unset] [(.int (10 : Int32))])) rfl (hb hby d9_10) rfl (by decide) (cap := 10) (by decide) (by decide) (by decide) (by decide) (ad := "[B") rfl
  obtain ⟨b2, g2⟩ : ∃ z, z = h0.size := ⟨_, rfl⟩
  rw [← g2] at A2 st2 AE2
  have gn_b2 : Z.heap.size ≤ b2 := Nat.le_trans O0.2.1 (Nat.le_of_eq g2.symm)
  have sz_b2 : h0.size ≤ b2 := Nat.le_trans K0.1 (Nat.le_of_eq g2.symm)
  have ne_o1_b2 : o1 ≠ b2 := Nat.ne_of_lt (Nat.lt_of_lt_of_le E_o1.lt (Nat.le_of_eq g2.symm))
  have E_o1_v2 := E_o1.ext E2
  have V_o1_v2 := V_o1.ext E2
  have O2 := O0.ext E2
  have K2 := K0.ext E2
  have E_b2_v2 := AE2
  have V_b2_v2 : Arv Z h2 b2 k2 .byte (10 : Int32) [] (.int (0 : Int32)) := Arv.new A2 (by decide)
  obtain ⟨cl3, Ar3, q3, Sz3, Ng3, Hv3, Gv3⟩ := id V_o1_v2
  obtain ⟨_, _, ⟨T4, L4, k4, n4⟩, -, X4, ⟨Lc4, hQ4, l4, y4, z4⟩, st4⟩ := Jvm.LawKit.callS X2 hx (y := (⟨s_14, "min", "(II)I"⟩ : MethodName)) hown (mvT hZ (W hw 55 rfl)) (mvT hZ (W hw 56 rfl)) (mvT hZ (W hw 57 rfl)) (mvT hZ (W hw 58 rfl)) (by decide) (backOf (W := 4) (rm_79 l Z a0 hw w kk iw vw hN [] h2 O2) hZ (W hw 58 rfl) (W hw 57 rfl) (by decide) (by decide)) (g := (mkF m 24 #[.val (.ref o1), .val (.int (0 : Int32)), .val (.int (10 : Int32)), .val (.int (10 : Int32)), .val (.ref b2)] [(.int (10 : Int32)), (.int (11 : Int32)), (.int (0 : Int32)), (.ref b2), (.int (0 : Int32)), (.ref o1)])) rfl (by rw [hml]; rfl) (argsL := [(.int (11 : Int32)), (.int (10 : Int32))]) (rest := [(.int (0 : Int32)), (.ref b2), (.int (0 : Int32)), (.ref o1)]) (lenOf pd_5 rfl) rfl (by show 2 * 0 + _ ≤ _; exact Nat.le_of_eq rfl) (hb hby d9_24) (fun _ _ => ⟨rfl, e2, (by decide : 1 + 0 ≤ _), (by decide : 10 + 0 ≤ _)⟩)
  dsimp only [Pt.U, Pt.locs, Pt.cells, Pt.slots] at X4 l4 y4 z4 st4 hQ4
  subst l4 y4 z4
  obtain ⟨rfl, N4q, e4⟩ := hQ4
  have N4 := Fr.app N1 N4q
  have V_b2_v5 : Arv Z h2 b2 k2 .byte (10 : Int32) [(.int (0 : Int32)), (.int (0 : Int32)), (.int (0 : Int32)), (.int (0 : Int32)), (.int (0 : Int32)), (.int (0 : Int32)), (.int (0 : Int32)), (.int (0 : Int32)), (.int (0 : Int32)), (.int (0 : Int32))] (.int (0 : Int32)) := V_b2_v2.pad (pad_rep [] (.int (0 : Int32)) 10)
  obtain ⟨T6, h6, L6, X6, e6, N6, Kq6, Vc6, st6⟩ := cpA X4 hx hZ hown (W hw 59 rfl) (W hw 62 rfl) (W hw 60 rfl) (W hw 61 rfl) e4 V_o1_v2 V_b2_v5  (Or.inl ⟨rfl, rfl⟩) (by decide) (by decide) (by decide) (by decide) (by decide) rfl (by decide) N4 gn_b2 (g := (mkF m 27 #[.val (.ref o1), .val (.int (0 : Int32)), .val (.int (10 : Int32)), .val (.int (10 : Int32)), .val (.ref b2)] [(.int (10 : Int32)), (.int (0 : Int32)), (.ref b2), (.int (0 : Int32)), (.ref o1)])) rfl (by rw [hml]; rfl) rfl (hb hby d9_27) (by decide) (W := 0) (by show 2 * 0 + _ ≤ _; exact Nat.le_of_eq rfl) (by decide)
  have E_o1_v6 := E_o1_v2.keep Kq6
  have V_o1_v6 := V_o1_v2.keep Kq6 (ninS ne_o1_b2 nin0)
  have E_b2_v6 := E_b2_v2.keep Kq6
  have O6 := O2.keep Kq6 (allS gn_b2 all0)
  have K6 : Keep h0 h6 [] := K2.trans Kq6 (allS (Or.inr sz_b2) all0)
  obtain ⟨vl6, V_b2_v6⟩ : ∃ vs, Arv Z h6 b2 k2 .byte (10 : Int32) vs (.int (0 : Int32)) := ⟨_, Vc6⟩
  refine ⟨T6, some (.ref b2), _, _, _, by decide, by decide, X6, nofun, (by rw [e6]; exact ⟨b2, k2, vl6, rfl, N6, K6, sz_b2, E_b2_v6, V_b2_v6⟩), fun fs hr => castTop (ef_5 m (.ref o1) rfl (.int (0 : Int32)) rfl (.int (10 : Int32)) rfl) ?_⟩
  show Steps p.tables e below (s₁.setTop (mkF m 0 #[.val (.ref o1), .val (.int (0 : Int32)), .val (.int (10 : Int32)), .unset, .unset] [])) _
  refine XS.iloadN X0.here hx rfl (hb hby d9_0) rfl ?_
  refine XS.iloadN X0.here hx rfl (hb hby d9_1) rfl ?_
  refine st1 _ ?_
  refine XS.iloadN X1.here hx rfl (hb hby d9_5) rfl ?_
  refine XS.iloadN X1.here hx rfl (hb hby d9_6) rfl ?_
  refine XS.isub X1.here hx rfl (hb hby d9_7) rfl ?_
  show Steps p.tables e below (T1.setTop (mkF m 8 #[.val (.ref o1), .val (.int (0 : Int32)), .val (.int (10 : Int32)), .unset, .unset] [(.int ((10 : Int32) - (0 : Int32)))])) _
  rw [lf_45]
  refine XS.istoreN X1.here hx rfl (hb hby d9_8) rfl (l' := #[.val (.ref o1), .val (.int (0 : Int32)), .val (.int (10 : Int32)), .val (.int (10 : Int32)), .unset]) rfl ?_
  refine XS.iloadN X1.here hx rfl (hb hby d9_9) rfl ?_
  refine st2 _ ?_
  refine XS.astore X2.here hx rfl (hb hby d9_12) rfl rfl (l' := #[.val (.ref o1), .val (.int (0 : Int32)), .val (.int (10 : Int32)), .val (.int (10 : Int32)), .val (.ref b2)]) rfl ?_
  show Steps p.tables e below (T2.setTop (mkF m 14 #[.val (.ref o1), .val (.int (0 : Int32)), .val (.int (10 : Int32)), .val (.int (10 : Int32)), .val (.ref b2)] [])) _
  refine XS.aloadN X2.here hx rfl (hb hby d9_14) rfl rfl ?_
  refine XS.iloadN X2.here hx rfl (hb hby d9_15) rfl ?_
  refine XS.aload X2.here hx rfl (hb hby d9_16) rfl rfl ?_
  refine XS.iconst X2.here hx rfl (hb hby d9_18) ?_
  refine XS.aloadN X2.here hx rfl (hb hby d9_19) rfl rfl ?_
  refine X2.arraylength hx (by rw [e2]; exact Ar3.1) (State.isArrayOf_alike hZ.alike Ar3.2.1) (g := (mkF m 20 #[.val (.ref o1), .val (.int (0 : Int32)), .val (.int (10 : Int32)), .val (.int (10 : Int32)), .val (.ref b2)] [(.ref o1), (.int (0 : Int32)), (.ref b2), (.int (0 : Int32)), (.ref o1)])) rfl rfl (hb hby d9_20) _ ?_
  rw [len_of Sz3 Ng3]
  refine XS.iloadN X2.here hx rfl (hb hby d9_21) rfl ?_
  refine XS.isub X2.here hx rfl (hb hby d9_22) rfl ?_
  show Steps p.tables e below (T2.setTop (mkF m 23 #[.val (.ref o1), .val (.int (0 : Int32)), .val (.int (10 : Int32)), .val (.int (10 : Int32)), .val (.ref b2)] [(.int ((11 : Int32) - (0 : Int32))), (.int (0 : Int32)), (.ref b2), (.int (0 : Int32)), (.ref o1)])) _
  rw [lf_8]
  refine XS.iloadN X2.here hx rfl (hb hby d9_23) rfl ?_
  refine st4 _ ?_
  show Steps p.tables e below (T4.setTop (mkF m 27 #[.val (.ref o1), .val (.int (0 : Int32)), .val (.int (10 : Int32)), .val (.int (10 : Int32)), .val (.ref b2)] [(.int (10 : Int32)), (.int (0 : Int32)), (.ref b2), (.int (0 : Int32)), (.ref o1)])) _
  refine st6 _ ?_
  refine XS.aload X6.here hx rfl (hb hby d9_30) rfl rfl ?_
  show Steps p.tables e below (T6.setTop (mkF m 32 #[.val (.ref o1), .val (.int (0 : Int32)), .val (.int (10 : Int32)), .val (.int (10 : Int32)), .val (.ref b2)] [(.ref b2)])) _
  exact retOut X6 hx hret rfl (Or.inr (Or.inr (Or.inr (Or.inr ⟨rfl, rfl, rfl⟩)))) (hb hby d9_32) hr
set_option maxRecDepth 65536 in
set_option maxHeartbeats 40000000 in
theorem rm_81 (l : Launch) (Z : State) (a0 : Array Value) (hw : ∀ d ∈ tables_1, d.before a0 Z = true) (w : Nat → Addr) (kk : Nat → ClassId) (iw : Nat → Int32) (vw : Nat → Value) (hN : Wd Z w kk iw vw) (ws : List Jvm.Cond) (o1 : Addr) (vl_o1 : List Value) (kc_o1 : ClassId) (h0 : Heap) (O0 : Old Z Z.heap.size h0) (gn_o1 : Z.heap.size ≤ o1) (lt_o1 : o1 < h0.size) (E_o1 : Exa Z h0 o1 "[B") (V_o1 : Arv Z h0 o1 kc_o1 .byte (11 : Int32) vl_o1 (.int (0 : Int32))) :
    Met l Z (⟨s_2, "copyOfRange", "([BII)[B"⟩ : MethodName) (Jvm.Cond.code (⟨s_2, "copyOfRange", "([BII)[B"⟩ : MethodName) jdk_65_method_132_code 3 (some (.array .byte))) ws (Rm 2 1 10 34) #[(.ref o1), (.int (0 : Int32)), (.int (10 : Int32))] h0 (Qd_26 Z w kk iw vw o1 vl_o1 kc_o1 h0 Z.heap.size) := by
  have hN' := hN
  obtain ⟨hS0, hE0, hS1, hE1, hS2, hE2, hI0, hJ0, hR0, hRr0, hEq0⟩ := hN'
  refine own_body (plainFor_of_name pn_4) hisR ?_
  intro p e s m below meth c s₁ hx hby hml hown hnm hret X0 hZ e0
  have N0 := Fr.nil Z.heap.size
  have K0 : Keep h0 h0 [] := Keep.refl _ _
  obtain ⟨cl1, Ar1, q1, Sz1, Ng1, Hv1, Gv1⟩ := id V_o1
  obtain ⟨_, _, ⟨T2, L2, k2, n2⟩, -, X2, ⟨Lc2, hQ2, l2, y2, z2⟩, st2⟩ := Jvm.LawKit.callS X0 hx (y := (⟨s_2, s_13, "([BII)[B"⟩ : MethodName)) hown (mvT hZ (W hw 49 rfl)) (mvT hZ (W hw 50 rfl)) (mvT hZ (W hw 47 rfl)) (mvT hZ (W hw 51 rfl)) (by decide) (backOf (W := 0) (rm_80 l Z a0 hw w kk iw vw hN [] o1 vl_o1 kc_o1 h0 O0 gn_o1 E_o1.lt E_o1 V_o1) hZ (W hw 51 rfl) (W hw 47 rfl) (by decide) (by decide)) (g := (mkF m 13 #[.val (.ref o1), .val (.int (0 : Int32)), .val (.int (10 : Int32))] [(.int (10 : Int32)), (.int (0 : Int32)), (.ref o1)])) rfl (by rw [hml]; rfl) (argsL := [(.ref o1), (.int (0 : Int32)), (.int (10 : Int32))]) (rest := []) (lenOf pd_6 rfl) rfl (by show 2 * 0 + _ ≤ _; exact Nat.le_of_eq rfl) (hb hby d8_13) (fun _ _ => ⟨rfl, e0, (by decide : 0 + 1 ≤ _), (by decide : 0 + 10 ≤ _)⟩)
  dsimp only [Pt.U, Pt.locs, Pt.cells, Pt.slots] at X2 l2 y2 z2 st2 hQ2
  subst l2 y2 z2
  obtain ⟨b2_0, kb2_0, vl2_0, rfl, N2q, Kq2, tk2_0, tk2_1, tk2_2⟩ := hQ2
  have N2 := Fr.app N0 N2q
  have gn_b2_0 : Z.heap.size ≤ b2_0 := Nat.le_trans O0.2.1 tk2_0
  have sz_b2_0 : h0.size ≤ b2_0 := Nat.le_trans K0.1 tk2_0
  have ne_o1_b2_0 : o1 ≠ b2_0 := Nat.ne_of_lt (Nat.lt_of_lt_of_le E_o1.lt tk2_0)
  have E_o1_v2 := E_o1.keep Kq2
  have V_o1_v2 := V_o1.keep Kq2 nin0
  have O2 := O0.keep Kq2 all0
  have K2 : Keep h0 T2.heap [] := K0.trans Kq2 all0
  refine ⟨T2, some (.ref b2_0), _, _, _, by decide, by decide, X2, nofun, ⟨b2_0, kb2_0, vl2_0, rfl, N2, K2, sz_b2_0, tk2_1, tk2_2⟩, fun fs hr => castTop (ef_6 m (.ref o1) rfl (.int (0 : Int32)) rfl (.int (10 : Int32)) rfl) ?_⟩
  show Steps p.tables e below (s₁.setTop (mkF m 0 #[.val (.ref o1), .val (.int (0 : Int32)), .val (.int (10 : Int32))] [])) _
  refine XS.iloadN X0.here hx rfl (hb hby d8_0) rfl ?_
  refine XS.ifNo X0.here hx rfl (hb hby d8_1) rfl ((if0 _ _).trans (teq (by decide : (0 : Int32) = (0 : Int32))).2) ?_
  refine XS.iloadN X0.here hx rfl (hb hby d8_4) rfl ?_
  refine XS.aloadN X0.here hx rfl (hb hby d8_5) rfl rfl ?_
  refine X0.arraylength hx (by rw [e0]; exact Ar1.1) (State.isArrayOf_alike hZ.alike Ar1.2.1) (g := (mkF m 6 #[.val (.ref o1), .val (.int (0 : Int32)), .val (.int (10 : Int32))] [(.ref o1), (.int (10 : Int32))])) rfl rfl (hb hby d8_6) _ ?_
  rw [len_of Sz1 Ng1]
  refine XS.icmpNo X0.here hx rfl (hb hby d8_7) rfl (feq (by decide : ¬ ((10 : Int32) = (11 : Int32)))).1 ?_
  refine XS.aloadN X0.here hx rfl (hb hby d8_10) rfl rfl ?_
  refine XS.iloadN X0.here hx rfl (hb hby d8_11) rfl ?_
  refine XS.iloadN X0.here hx rfl (hb hby d8_12) rfl ?_
  refine st2 _ ?_
  show Steps p.tables e below (T2.setTop (mkF m 16 #[.val (.ref o1), .val (.int (0 : Int32)), .val (.int (10 : Int32))] [(.ref b2_0)])) _
  exact retOut X2 hx hret rfl (Or.inr (Or.inr (Or.inr (Or.inr ⟨rfl, rfl, rfl⟩)))) (hb hby d8_16) hr
def Qd_27 (Z : State) (w : Nat → Addr) (kk : Nat → ClassId) (iw : Nat → Int32) (vw : Nat → Value) (o1 : Addr) (o2 : Addr) (vl_o2 : List Value) (kc_o2 : ClassId) (h0 : Heap) (n0 : Nat) (v : Option Value) (h : Heap) (L : List Loc) : Prop := ∃ (c1 : Addr) (kc1 : ClassId) (vx1 : List Value), v = none ∧ Fr n0 L ∧ Keep h0 h [o1] ∧ h0.size ≤ c1 ∧ Exa Z h o1 s_0 ∧ Fld Z h o1 s_0 "value" "[B" (.ref c1) ∧ Fld Z h o1 s_0 "coder" "B" (.int (0 : Int32)) ∧ Exa Z h c1 "[B" ∧ Arv Z h c1 kc1 .byte (10 : Int32) vx1 (.int (0 : Int32))
set_option maxRecDepth 65536 in
set_option maxHeartbeats 40000000 in
theorem rm_82 (l : Launch) (Z : State) (a0 : Array Value) (hw : ∀ d ∈ tables_1, d.before a0 Z = true) (w : Nat → Addr) (kk : Nat → ClassId) (iw : Nat → Int32) (vw : Nat → Value) (hN : Wd Z w kk iw vw) (ws : List Jvm.Cond) (o1 : Addr) (o2 : Addr) (vl_o2 : List Value) (kc_o2 : ClassId) (h0 : Heap) (O0 : Old Z Z.heap.size h0) (gn_o1 : Z.heap.size ≤ o1) (lt_o1 : o1 < h0.size) (gn_o2 : Z.heap.size ≤ o2) (lt_o2 : o2 < h0.size) (E_o1 : Exa Z h0 o1 s_0) (F_o1_value : Fld Z h0 o1 s_0 "value" "[B" .null) (F_o1_coder : Fld Z h0 o1 s_0 "coder" "B" (.int (0 : Int32))) (E_o2 : Exa Z h0 o2 "[B") (V_o2 : Arv Z h0 o2 kc_o2 .byte (11 : Int32) vl_o2 (.int (0 : Int32))) (ne_o1_o2 : o1 ≠ o2) :
    Met l Z (⟨s_0, "<init>", s_7⟩ : MethodName) (Jvm.Cond.codeWith (⟨s_0, "<init>", s_7⟩ : MethodName) jdk_42_method_11_code 11 none [(800, 813, 816, 202)]) ws (Rm 3 1 10 49) #[(.ref o1), (.ref (w 0)), (.ref o2), (.int (0 : Int32)), (.int (10 : Int32))] h0 (Qd_27 Z w kk iw vw o1 o2 vl_o2 kc_o2 h0 Z.heap.size) := by
  have hN' := hN
  obtain ⟨hS0, hE0, hS1, hE1, hS2, hE2, hI0, hJ0, hR0, hRr0, hEq0⟩ := hN'
  refine own_body (plainFor_of_name pn_3) hisWith ?_
  intro p e s m below meth c s₁ hx hby hml hown hnm hret X0 hZ e0
  have N0 := Fr.nil Z.heap.size
  have K0 : Keep h0 h0 [o1] := Keep.refl _ _
  obtain ⟨T1, X1, e1, st1⟩ := initO X0 hx hZ hown (W hw 37 rfl) (W hw 38 rfl) (W hw 39 rfl) e0 (g := (mkF m 1 #[.val (.ref o1), .val (.ref (w 0)), .val (.ref o2), .val (.int (0 : Int32)), .val (.int (10 : Int32)), .unset, .unset, .unset, .unset, .unset, .unset] [(.ref o1)])) rfl (by rw [hml]; rfl) rfl (hb hby d7_1) (by decide) (W := 0) (by show 2 * 0 + _ ≤ _; exact Nat.le_of_eq rfl) (by decide)
  obtain ⟨T2, X2, e2, st2⟩ := getS2 X1 hx hZ hown (host := "") (Or.inl (W hw 40 rfl)) Via.refl e1 (hS1.ext O0.2) (g := (mkF m 31 #[.val (.ref o1), .val (.ref (w 0)), .val (.ref o2), .val (.int (0 : Int32)), .val (.int (10 : Int32)), .unset, .unset, .unset, .unset, .unset, .unset] [(.ref (w 0))])) rfl (hb hby d7_31)
  obtain ⟨T3, X3, e3, st3⟩ := getS2 X2 hx hZ hown (host := "") (Or.inl (W hw 42 rfl)) Via.refl e2 (hS2.ext O0.2) (g := (mkF m 347 #[.val (.ref o1), .val (.ref (w 0)), .val (.ref o2), .val (.int (0 : Int32)), .val (.int (10 : Int32)), .unset, .unset, .unset, .unset, .unset, .unset] [(.ref (w 0))])) rfl (hb hby d7_347)
  obtain ⟨T4, X4, e4, st4⟩ := getS2 X3 hx hZ hown (host := "") (Or.inl (W hw 44 rfl)) Via.refl e3 (hI0.ext O0.2) (g := (mkF m 353 #[.val (.ref o1), .val (.ref (w 0)), .val (.ref o2), .val (.int (0 : Int32)), .val (.int (10 : Int32)), .unset, .unset, .unset, .unset, .unset, .unset] [])) rfl (hb hby d7_353)
  obtain ⟨_, _, ⟨T5, L5, k5, n5⟩, -, X5, ⟨Lc5, hQ5, l5, y5, z5⟩, st5⟩ := Jvm.LawKit.callS X4 hx (y := (⟨s_2, "copyOfRange", "([BII)[B"⟩ : MethodName)) hown (mvT hZ (W hw 45 rfl)) (mvT hZ (W hw 46 rfl)) (mvT hZ (W hw 47 rfl)) (mvT hZ (W hw 48 rfl)) (by decide) (backOf (W := 1) (rm_81 l Z a0 hw w kk iw vw hN [] o2 vl_o2 kc_o2 h0 O0 gn_o2 E_o2.lt E_o2 V_o2) hZ (W hw 48 rfl) (W hw 47 rfl) (by decide) (by decide)) (g := (mkF m 366 #[.val (.ref o1), .val (.ref (w 0)), .val (.ref o2), .val (.int (0 : Int32)), .val (.int (10 : Int32)), .unset, .unset, .unset, .unset, .unset, .unset] [(.int (10 : Int32)), (.int (0 : Int32)), (.ref o2), (.ref o1)])) rfl (by rw [hml]; rfl) (argsL := [(.ref o2), (.int (0 : Int32)), (.int (10 : Int32))]) (rest := [(.ref o1)]) (lenOf pd_6 rfl) rfl (by show 2 * 0 + _ ≤ _; exact Nat.le_of_eq rfl) (hb hby d7_366) (fun _ _ => ⟨rfl, e4, (by decide : 0 + 1 ≤ _), (by decide : 0 + 10 ≤ _)⟩)
  dsimp only [Pt.U, Pt.locs, Pt.cells, Pt.slots] at X5 l5 y5 z5 st5 hQ5
  subst l5 y5 z5
  obtain ⟨b5_0, kb5_0, vl5_0, rfl, N5q, Kq5, tk5_0, tk5_1, tk5_2⟩ := hQ5
  have N5 := Fr.app N0 N5q
  have gn_b5_0 : Z.heap.size ≤ b5_0 := Nat.le_trans O0.2.1 tk5_0
  have sz_b5_0 : h0.size ≤ b5_0 := Nat.le_trans K0.1 tk5_0
  have ne_o2_b5_0 : o2 ≠ b5_0 := Nat.ne_of_lt (Nat.lt_of_lt_of_le E_o2.lt tk5_0)
  have ne_o1_b5_0 : o1 ≠ b5_0 := Nat.ne_of_lt (Nat.lt_of_lt_of_le E_o1.lt tk5_0)
  have E_o1_v5 := E_o1.keep Kq5
  have F_o1_value_v5 := F_o1_value.keep Kq5 nin0
  have F_o1_coder_v5 := F_o1_coder.keep Kq5 nin0
  have E_o2_v5 := E_o2.keep Kq5
  have V_o2_v5 := V_o2.keep Kq5 nin0
  have O5 := O0.keep Kq5 all0
  have K5 : Keep h0 T5.heap [o1] := K0.trans Kq5 all0
  obtain ⟨T6, h6, X6, e6, W6, st6⟩ := putF X5 hx hZ hown (host := "") (Or.inl (W hw 63 rfl)) Via.refl rfl F_o1_value_v5 E_o1_v5 (Or.inr ⟨(W hw 64 rfl), rfl, hnm⟩) (W hw 12 rfl) (ty := (.array .byte)) (by decide) rfl rfl (g := (mkF m 369 #[.val (.ref o1), .val (.ref (w 0)), .val (.ref o2), .val (.int (0 : Int32)), .val (.int (10 : Int32)), .unset, .unset, .unset, .unset, .unset, .unset] [(.ref b5_0), (.ref o1)])) rfl rfl (hb hby d7_369)
  have F_o1_value_v6 := F_o1_value_v5.same W6
  have N6 := Fr.snoc X6 N5 gn_o1
  have E_o1_v6 := E_o1_v5.wr W6
  have F_o1_coder_v6 := F_o1_coder_v5.other W6 (Or.inr (sn_0 hw))
  have E_o2_v6 := E_o2_v5.wr W6
  have V_o2_v6 := V_o2_v5.other W6 (Ne.symm ne_o1_o2)
  have tk5_1_v6 := tk5_1.wr W6
  have tk5_2_v6 := tk5_2.other W6 (Ne.symm ne_o1_b5_0)
  have O6 := O5.wr W6 gn_o1
  have K6 : Keep h0 h6 [o1] := K5.wr W6 (Or.inl (List.mem_of_getElem? (i := 0) rfl))
  obtain ⟨T7, h7, X7, e7, W7, st7⟩ := putFN X6 hx hZ hown (W hw 65 rfl) Via.refl e6 F_o1_coder_v6 E_o1_v6 (Or.inr ⟨(W hw 66 rfl), rfl, hnm⟩) (W hw 12 rfl) (ty := .byte) (v' := (.int (0 : Int32))) (by decide) rfl rfl (g := (mkF m 374 #[.val (.ref o1), .val (.ref (w 0)), .val (.ref o2), .val (.int (0 : Int32)), .val (.int (10 : Int32)), .unset, .unset, .unset, .unset, .unset, .unset] [(.int (0 : Int32)), (.ref o1)])) rfl rfl (hb hby d7_374)
  have F_o1_coder_v7 := F_o1_coder_v6.same W7
  have N7 := Fr.snoc X7 N6 gn_o1
  have E_o1_v7 := E_o1_v6.wr W7
  have F_o1_value_v7 := F_o1_value_v6.other W7 (Or.inr (sn_1 hw))
  have E_o2_v7 := E_o2_v6.wr W7
  have V_o2_v7 := V_o2_v6.other W7 (Ne.symm ne_o1_o2)
  have tk5_1_v7 := tk5_1_v6.wr W7
  have tk5_2_v7 := tk5_2_v6.other W7 (Ne.symm ne_o1_b5_0)
  have O7 := O6.wr W7 gn_o1
  have K7 : Keep h0 h7 [o1] := K6.wr W7 (Or.inl (List.mem_of_getElem? (i := 0) rfl))
  refine ⟨T7, none, _, _, _, by decide, by decide, X7, (fun _ => rfl), (by rw [e7]; exact ⟨b5_0, kb5_0, vl5_0, rfl, N7, K7, sz_b5_0, E_o1_v7, F_o1_value_v7, F_o1_coder_v7, tk5_1_v7, tk5_2_v7⟩), fun fs hr => castTop (ef_7 m (.ref o1) rfl (.ref (w 0)) rfl (.ref o2) rfl (.int (0 : Int32)) rfl (.int (10 : Int32)) rfl) ?_⟩
  show Steps p.tables e below (s₁.setTop (mkF m 0 #[.val (.ref o1), .val (.ref (w 0)), .val (.ref o2), .val (.int (0 : Int32)), .val (.int (10 : Int32)), .unset, .unset, .unset, .unset, .unset, .unset] [])) _
  refine XS.aloadN X0.here hx rfl (hb hby d7_0) rfl rfl ?_
  refine st1 _ ?_
  refine XS.iload X1.here hx rfl (hb hby d7_4) rfl ?_
  refine XS.ifYes X1.here hx rfl (pc0 := 6) (pc' := 30) rfl (hb hby d7_6) rfl ((if0 _ _).trans (feq (by decide : ¬ ((10 : Int32) = (0 : Int32)))).2) (by decide) (by decide) ?_
  refine XS.aloadN X1.here hx rfl (hb hby d7_30) rfl rfl ?_
  refine st2 _ ?_
  refine Jvm.RoadKit.acmp (g := (mkF m 34 #[.val (.ref o1), .val (.ref (w 0)), .val (.ref o2), .val (.int (0 : Int32)), .val (.int (10 : Int32)), .unset, .unset, .unset, .unset, .unset, .unset] [(.ref (w 1)), (.ref (w 0))])) X2 hx rfl rfl rfl (pc0 := 34) (pc' := 346) (same := false) rfl (hb hby d7_34) rfl (decide_eq_false fun q => (ne_exa hE0 hE1 (by decide)) (Value.ref.inj q)) (by decide) (by decide) ?_
  refine XS.aloadN X2.here hx rfl (hb hby d7_346) rfl rfl ?_
  refine st3 _ ?_
  refine Jvm.RoadKit.acmp (g := (mkF m 350 #[.val (.ref o1), .val (.ref (w 0)), .val (.ref o2), .val (.int (0 : Int32)), .val (.int (10 : Int32)), .unset, .unset, .unset, .unset, .unset, .unset] [(.ref (w 2)), (.ref (w 0))])) X3 hx rfl rfl rfl (pc0 := 350) (pc' := 353) (same := true) rfl (hb hby d7_350) rfl (decide_eq_true (congrArg Value.ref hEq0)) (by decide) (by decide) ?_
  show Steps p.tables e below (T3.setTop (mkF m 353 #[.val (.ref o1), .val (.ref (w 0)), .val (.ref o2), .val (.int (0 : Int32)), .val (.int (10 : Int32)), .unset, .unset, .unset, .unset, .unset, .unset] [])) _
  refine st4 _ ?_
  refine XS.ifNo X4.here hx rfl (hb hby d7_356) rfl ((if0 _ _).trans (feq hJ0).1) ?_
  refine XS.aloadN X4.here hx rfl (hb hby d7_359) rfl rfl ?_
  refine XS.aloadN X4.here hx rfl (hb hby d7_360) rfl rfl ?_
  refine XS.iloadN X4.here hx rfl (hb hby d7_361) rfl ?_
  refine XS.iloadN X4.here hx rfl (hb hby d7_362) rfl ?_
  refine XS.iload X4.here hx rfl (hb hby d7_363) rfl ?_
  refine XS.iadd X4.here hx rfl (hb hby d7_365) rfl ?_
  show Steps p.tables e below (T4.setTop (mkF m 366 #[.val (.ref o1), .val (.ref (w 0)), .val (.ref o2), .val (.int (0 : Int32)), .val (.int (10 : Int32)), .unset, .unset, .unset, .unset, .unset, .unset] [(.int ((0 : Int32) + (10 : Int32))), (.int (0 : Int32)), (.ref o2), (.ref o1)])) _
  rw [lf_44]
  refine st5 _ ?_
  refine st6 _ ?_
  show Steps p.tables e below (T6.setTop (mkF m 372 #[.val (.ref o1), .val (.ref (w 0)), .val (.ref o2), .val (.int (0 : Int32)), .val (.int (10 : Int32)), .unset, .unset, .unset, .unset, .unset, .unset] [])) _
  refine XS.aloadN X6.here hx rfl (hb hby d7_372) rfl rfl ?_
  refine XS.iconst X6.here hx rfl (hb hby d7_373) ?_
  refine st7 _ ?_
  refine XS.goto X7.here hx rfl (pc0 := 377) (pc' := 879) rfl (hb hby d7_377) (by decide) (by decide) ?_
  show Steps p.tables e below (T7.setTop (mkF m 879 #[.val (.ref o1), .val (.ref (w 0)), .val (.ref o2), .val (.int (0 : Int32)), .val (.int (10 : Int32)), .unset, .unset, .unset, .unset, .unset, .unset] [])) _
  exact X7.returnOut hx hret (hb hby d7_879) hr
set_option maxRecDepth 65536 in
set_option maxHeartbeats 40000000 in
theorem rm_83 (l : Launch) (Z : State) (a0 : Array Value) (hw : ∀ d ∈ tables_1, d.before a0 Z = true) (w : Nat → Addr) (kk : Nat → ClassId) (iw : Nat → Int32) (vw : Nat → Value) (hN : Wd Z w kk iw vw) (ws : List Jvm.Cond) (o1 : Addr) (o2 : Addr) (vl_o2 : List Value) (kc_o2 : ClassId) (h0 : Heap) (O0 : Old Z Z.heap.size h0) (gn_o1 : Z.heap.size ≤ o1) (lt_o1 : o1 < h0.size) (gn_o2 : Z.heap.size ≤ o2) (lt_o2 : o2 < h0.size) (E_o1 : Exa Z h0 o1 s_0) (F_o1_value : Fld Z h0 o1 s_0 "value" "[B" .null) (F_o1_coder : Fld Z h0 o1 s_0 "coder" "B" (.int (0 : Int32))) (E_o2 : Exa Z h0 o2 "[B") (V_o2 : Arv Z h0 o2 kc_o2 .byte (11 : Int32) vl_o2 (.int (0 : Int32))) (ne_o1_o2 : o1 ≠ o2) :
    Met l Z (⟨s_0, "<init>", s_8⟩ : MethodName) (Jvm.Cond.code (⟨s_0, "<init>", s_8⟩ : MethodName) jdk_42_method_10_code 5 none) ws (Rm 4 1 10 71) #[(.ref o1), (.ref o2), (.int (0 : Int32)), (.int (10 : Int32)), (.ref (w 0))] h0 (Qd_27 Z w kk iw vw o1 o2 vl_o2 kc_o2 h0 Z.heap.size) := by
  have hN' := hN
  obtain ⟨hS0, hE0, hS1, hE1, hS2, hE2, hI0, hJ0, hR0, hRr0, hEq0⟩ := hN'
  refine own_body (plainFor_of_name pn_3) hisR ?_
  intro p e s m below meth c s₁ hx hby hml hown hnm hret X0 hZ e0
  have N0 := Fr.nil Z.heap.size
  have K0 : Keep h0 h0 [o1] := Keep.refl _ _
  obtain ⟨_, _, ⟨T1, L1, k1, n1⟩, -, X1, ⟨Lc1, hQ1, l1, y1, z1⟩, st1⟩ := Jvm.LawKit.callS X0 hx (y := (⟨s_16, s_17, s_12⟩ : MethodName)) hown (mvT hZ (W hw 19 rfl)) (mvT hZ (W hw 20 rfl)) (mvT hZ (W hw 21 rfl)) (mvT hZ (W hw 22 rfl)) (by decide) (backOf (W := 1) (rm_3 l Z a0 hw w kk iw vw hN [] h0 O0) hZ (W hw 22 rfl) (W hw 21 rfl) (by decide) (by decide)) (g := (mkF m 3 #[.val (.ref o1), .val (.ref o2), .val (.int (0 : Int32)), .val (.int (10 : Int32)), .val (.ref (w 0))] [(.ref (w 0)), (.ref o1)])) rfl (by rw [hml]; rfl) (argsL := [(.ref (w 0))]) (rest := [(.ref o1)]) (lenOf pd_1 rfl) rfl (by show 2 * 0 + _ ≤ _; exact Nat.le_of_eq rfl) (hb hby d3_3) (fun _ _ => ⟨rfl, e0, (by decide : 0 + 0 ≤ _), (by decide : 0 + 0 ≤ _)⟩)
  dsimp only [Pt.U, Pt.locs, Pt.cells, Pt.slots] at X1 l1 y1 z1 st1 hQ1
  subst l1 y1 z1
  obtain ⟨rfl, N1q, e1⟩ := hQ1
  have N1 := Fr.app N0 N1q
  obtain ⟨T2, X2, e2, st2⟩ := castY X1 hx hZ hown (W hw 23 rfl) e1 (Ins.of_exa (hE0.ext O0.2) (W hw 24 rfl)) (g := (mkF m 6 #[.val (.ref o1), .val (.ref o2), .val (.int (0 : Int32)), .val (.int (10 : Int32)), .val (.ref (w 0))] [(.ref (w 0)), (.ref o1)])) rfl rfl (hb hby d3_6)
  obtain ⟨cl3, Ar3, q3, Sz3, Ng3, Hv3, Gv3⟩ := id V_o2
  obtain ⟨_, _, ⟨T4, L4, k4, n4⟩, -, X4, ⟨Lc4, hQ4, l4, y4, z4⟩, st4⟩ := Jvm.LawKit.callS X2 hx (y := (⟨s_0, s_10, "(III)I"⟩ : MethodName)) hown (mvT hZ (W hw 25 rfl)) (mvT hZ (W hw 26 rfl)) (mvT hZ (W hw 13 rfl)) (mvT hZ (W hw 27 rfl)) (by decide) (backOf (W := 3) (rm_77 l Z a0 hw w kk iw vw hN [] h0 O0) hZ (W hw 27 rfl) (W hw 13 rfl) (by decide) (by decide)) (g := (mkF m 14 #[.val (.ref o1), .val (.ref o2), .val (.int (0 : Int32)), .val (.int (10 : Int32)), .val (.ref (w 0))] [(.int (11 : Int32)), (.int (10 : Int32)), (.int (0 : Int32)), (.ref o2), (.ref (w 0)), (.ref o1)])) rfl (by rw [hml]; rfl) (argsL := [(.int (0 : Int32)), (.int (10 : Int32)), (.int (11 : Int32))]) (rest := [(.ref o2), (.ref (w 0)), (.ref o1)]) (lenOf pd_3 rfl) rfl (by show 2 * 0 + _ ≤ _; exact Nat.le_of_eq rfl) (hb hby d3_14) (fun _ _ => ⟨rfl, e2, (by decide : 0 + 0 ≤ _), (by decide : 0 + 0 ≤ _)⟩)
  dsimp only [Pt.U, Pt.locs, Pt.cells, Pt.slots] at X4 l4 y4 z4 st4 hQ4
  subst l4 y4 z4
  obtain ⟨rfl, N4q, e4⟩ := hQ4
  have N4 := Fr.app N1 N4q
  obtain ⟨_, _, ⟨T5, L5, k5, n5⟩, -, X5, ⟨Lc5, hQ5, l5, y5, z5⟩, st5⟩ := X4.specialBackH hx (y := (⟨s_0, "<init>", s_7⟩ : MethodName)) rfl hown (mvT hZ (W hw 33 rfl)) (mvT hZ (W hw 34 rfl)) (mvT hZ (W hw 36 rfl)) (by decide) (backOfWith (W := 0) (rm_82 l Z a0 hw w kk iw vw hN [] o1 o2 vl_o2 kc_o2 h0 O0 gn_o1 E_o1.lt gn_o2 E_o2.lt E_o1 F_o1_value F_o1_coder E_o2 V_o2 ne_o1_o2) hZ (W hw 36 rfl) (W hw 13 rfl) (by decide) (by decide)) (g := (mkF m 18 #[.val (.ref o1), .val (.ref o2), .val (.int (0 : Int32)), .val (.int (10 : Int32)), .val (.ref (w 0))] [(.int (10 : Int32)), (.int (0 : Int32)), (.ref o2), (.ref (w 0)), (.ref o1)])) rfl (by rw [hml]; rfl) (Steps.refl _) (a := o1) (argsL := [(.ref (w 0)), (.ref o2), (.int (0 : Int32)), (.int (10 : Int32))]) (rest := []) (lenOf pd_7 rfl) rfl (by show 2 * 0 + _ ≤ _; exact Nat.le_of_eq rfl) (hb hby d3_18) (fun _ _ => ⟨rfl, e4, (by decide : 0 + 1 ≤ _), (by decide : 0 + 10 ≤ _)⟩)
  dsimp only [Pt.U, Pt.locs, Pt.cells, Pt.slots] at X5 l5 y5 z5 st5 hQ5
  subst l5 y5 z5
  obtain ⟨b5_0, kb5_0, vl5_0, rfl, N5q, Kq5, tk5_0, tk5_1, tk5_2, tk5_3, tk5_4, tk5_5⟩ := hQ5
  have N5 := Fr.app N4 N5q
  have gn_b5_0 : Z.heap.size ≤ b5_0 := Nat.le_trans O0.2.1 tk5_0
  have sz_b5_0 : h0.size ≤ b5_0 := Nat.le_trans K0.1 tk5_0
  have ne_o2_b5_0 : o2 ≠ b5_0 := Nat.ne_of_lt (Nat.lt_of_lt_of_le E_o2.lt tk5_0)
  have ne_o1_b5_0 : o1 ≠ b5_0 := Nat.ne_of_lt (Nat.lt_of_lt_of_le E_o1.lt tk5_0)
  have E_o1_v5 := E_o1.keep Kq5
  have E_o2_v5 := E_o2.keep Kq5
  have V_o2_v5 := V_o2.keep Kq5 (ninS (Ne.symm ne_o1_o2) nin0)
  have O5 := O0.keep Kq5 (allS gn_o1 all0)
  have K5 : Keep h0 T5.heap [o1] := K0.trans Kq5 (allS (Or.inl (List.mem_of_getElem? (i := 0) rfl)) all0)
  refine ⟨T5, none, _, _, _, by decide, by decide, X5, (fun _ => rfl), ⟨b5_0, kb5_0, vl5_0, rfl, N5, K5, sz_b5_0, tk5_1, tk5_2, tk5_3, tk5_4, tk5_5⟩, fun fs hr => castTop (ef_8 m (.ref o1) rfl (.ref o2) rfl (.int (0 : Int32)) rfl (.int (10 : Int32)) rfl (.ref (w 0)) rfl) ?_⟩
  show Steps p.tables e below (s₁.setTop (mkF m 0 #[.val (.ref o1), .val (.ref o2), .val (.int (0 : Int32)), .val (.int (10 : Int32)), .val (.ref (w 0))] [])) _
  refine XS.aloadN X0.here hx rfl (hb hby d3_0) rfl rfl ?_
  refine XS.aload X0.here hx rfl (hb hby d3_1) rfl rfl ?_
  refine st1 _ ?_
  refine st2 _ ?_
  refine XS.aloadN X2.here hx rfl (hb hby d3_9) rfl rfl ?_
  refine XS.iloadN X2.here hx rfl (hb hby d3_10) rfl ?_
  refine XS.iloadN X2.here hx rfl (hb hby d3_11) rfl ?_
  refine XS.aloadN X2.here hx rfl (hb hby d3_12) rfl rfl ?_
  refine X2.arraylength hx (by rw [e2]; exact Ar3.1) (State.isArrayOf_alike hZ.alike Ar3.2.1) (g := (mkF m 13 #[.val (.ref o1), .val (.ref o2), .val (.int (0 : Int32)), .val (.int (10 : Int32)), .val (.ref (w 0))] [(.ref o2), (.int (10 : Int32)), (.int (0 : Int32)), (.ref o2), (.ref (w 0)), (.ref o1)])) rfl rfl (hb hby d3_13) _ ?_
  rw [len_of Sz3 Ng3]
  refine st4 _ ?_
  show Steps p.tables e below (T4.setTop (mkF m 17 #[.val (.ref o1), .val (.ref o2), .val (.int (0 : Int32)), .val (.int (10 : Int32)), .val (.ref (w 0))] [(.int (0 : Int32)), (.ref o2), (.ref (w 0)), (.ref o1)])) _
  refine XS.iloadN X4.here hx rfl (hb hby d3_17) rfl ?_
  refine st5.trans ?_
  show Steps p.tables e below (T5.setTop (mkF m 21 #[.val (.ref o1), .val (.ref o2), .val (.int (0 : Int32)), .val (.int (10 : Int32)), .val (.ref (w 0))] [])) _
  exact X5.returnOut hx hret (hb hby d3_21) hr
def Qd_28 (Z : State) (w : Nat → Addr) (kk : Nat → ClassId) (iw : Nat → Int32) (vw : Nat → Value) (o1 : Addr) (vl_o1 : List Value) (kc_o1 : ClassId) (h0 : Heap) (n0 : Nat) (v : Option Value) (h : Heap) (L : List Loc) : Prop := ∃ (c1 : Addr) (c2 : Addr) (kc1 : ClassId) (vx1 : List Value), v = some (.ref c1) ∧ Fr n0 L ∧ Keep h0 h [] ∧ h0.size ≤ c1 ∧ h0.size ≤ c2 ∧ c1 ≠ c2 ∧ Exa Z h c1 s_0 ∧ Fld Z h c1 s_0 "value" "[B" (.ref c2) ∧ Fld Z h c1 s_0 "coder" "B" (.int (0 : Int32)) ∧ Exa Z h c2 "[B" ∧ Arv Z h c2 kc1 .byte (10 : Int32) vx1 (.int (0 : Int32))
set_option maxRecDepth 65536 in
set_option maxHeartbeats 40000000 in
theorem rm_84 (l : Launch) (Z : State) (a0 : Array Value) (hw : ∀ d ∈ tables_1, d.before a0 Z = true) (w : Nat → Addr) (kk : Nat → ClassId) (iw : Nat → Int32) (vw : Nat → Value) (hN : Wd Z w kk iw vw) (ws : List Jvm.Cond) (o1 : Addr) (vl_o1 : List Value) (kc_o1 : ClassId) (h0 : Heap) (O0 : Old Z Z.heap.size h0) (gn_o1 : Z.heap.size ≤ o1) (lt_o1 : o1 < h0.size) (E_o1 : Exa Z h0 o1 "[B") (V_o1 : Arv Z h0 o1 kc_o1 .byte (11 : Int32) vl_o1 (.int (0 : Int32))) :
    Met l Z (⟨s_1, "string", s_9⟩ : MethodName) (Jvm.Cond.code (⟨s_1, "string", s_9⟩ : MethodName) prog_22_method_9_code 2 (some (.object s_0))) ws (Rm 5 2 14 88) #[(.ref o1), (.int (10 : Int32))] h0 (Qd_28 Z w kk iw vw o1 vl_o1 kc_o1 h0 Z.heap.size) := by
  have hN' := hN
  obtain ⟨hS0, hE0, hS1, hE1, hS2, hE2, hI0, hJ0, hR0, hRr0, hEq0⟩ := hN'
  refine own_body (plainFor_of_name pn_0) hisR ?_
  intro p e s m below meth c s₁ hx hby hml hown hnm hret X0 hZ e0
  have N0 := Fr.nil Z.heap.size
  have K0 : Keep h0 h0 [] := Keep.refl _ _
  obtain ⟨T1, h1, X1, e1, E1, A1, D1, -, st1⟩ := newO X0 hx hZ hown (W hw 11 rfl) (W hw 12 rfl) (W hw 13 rfl) e0 (g := (mkF m 0 #[.val (.ref o1), .val (.int (10 : Int32))] [])) rfl (hb hby d2_0) (by decide) (by decide)
  obtain ⟨b1, g1⟩ : ∃ z, z = h0.size := ⟨_, rfl⟩
  rw [← g1] at A1 st1 D1
  have gn_b1 : Z.heap.size ≤ b1 := Nat.le_trans O0.2.1 (Nat.le_of_eq g1.symm)
  have sz_b1 : h0.size ≤ b1 := Nat.le_trans K0.1 (Nat.le_of_eq g1.symm)
  have ne_o1_b1 : o1 ≠ b1 := Nat.ne_of_lt (Nat.lt_of_lt_of_le E_o1.lt (Nat.le_of_eq g1.symm))
  have E_o1_v1 := E_o1.ext E1
  have V_o1_v1 := V_o1.ext E1
  have O1 := O0.ext E1
  have K1 := K0.ext E1
  have E_b1_v1 := A1
  have F_b1_value_v1 : Fld Z h1 b1 s_0 "value" "[B" .null := D1 (Or.inr (W hw 64 rfl)) (ty := (.array .byte)) (by decide)
  have F_b1_coder_v1 : Fld Z h1 b1 s_0 "coder" "B" (.int (0 : Int32)) := D1 (Or.inr (W hw 66 rfl)) (ty := .byte) (by decide)
  obtain ⟨T2, X2, e2, st2⟩ := getS2 X1 hx hZ hown (host := "") (Or.inl (W hw 14 rfl)) Via.refl e1 (hS0.ext O1.2) (g := (mkF m 7 #[.val (.ref o1), .val (.int (10 : Int32))] [(.int (10 : Int32)), (.int (0 : Int32)), (.ref o1), (.ref b1), (.ref b1)])) rfl (hb hby d2_7)
  obtain ⟨_, _, ⟨T3, L3, k3, n3⟩, -, X3, ⟨Lc3, hQ3, l3, y3, z3⟩, st3⟩ := X2.specialBack hx (y := (⟨s_0, "<init>", s_8⟩ : MethodName)) rfl hown (mvT hZ (W hw 16 rfl)) (mvT hZ (W hw 17 rfl)) (mvT hZ (W hw 18 rfl)) (by decide) (backOf (W := 1) (rm_83 l Z a0 hw w kk iw vw hN [] b1 o1 vl_o1 kc_o1 h1 O1 gn_b1 E_b1_v1.lt gn_o1 E_o1_v1.lt E_b1_v1 F_b1_value_v1 F_b1_coder_v1 E_o1_v1 V_o1_v1 (Ne.symm ne_o1_b1)) hZ (W hw 18 rfl) (W hw 13 rfl) (by decide) (by decide)) (g := (mkF m 10 #[.val (.ref o1), .val (.int (10 : Int32))] [(.ref (w 0)), (.int (10 : Int32)), (.int (0 : Int32)), (.ref o1), (.ref b1), (.ref b1)])) rfl (by rw [hml]; rfl) (Steps.refl _) (a := b1) (argsL := [(.ref o1), (.int (0 : Int32)), (.int (10 : Int32)), (.ref (w 0))]) (rest := [(.ref b1)]) (lenOf pd_8 rfl) rfl (by show 2 * 0 + _ ≤ _; exact Nat.le_of_eq rfl) (hb hby d2_10) (fun _ _ => ⟨rfl, e2, (by decide : 1 + 1 ≤ _), (by decide : 4 + 10 ≤ _)⟩)
  dsimp only [Pt.U, Pt.locs, Pt.cells, Pt.slots] at X3 l3 y3 z3 st3 hQ3
  subst l3 y3 z3
  obtain ⟨b3_0, kb3_0, vl3_0, rfl, N3q, Kq3, tk3_0, tk3_1, tk3_2, tk3_3, tk3_4, tk3_5⟩ := hQ3
  have N3 := Fr.app N0 N3q
  have gn_b3_0 : Z.heap.size ≤ b3_0 := Nat.le_trans O1.2.1 tk3_0
  have sz_b3_0 : h0.size ≤ b3_0 := Nat.le_trans K1.1 tk3_0
  have ne_b1_b3_0 : b1 ≠ b3_0 := Nat.ne_of_lt (Nat.lt_of_lt_of_le E_b1_v1.lt tk3_0)
  have ne_o1_b3_0 : o1 ≠ b3_0 := Nat.ne_of_lt (Nat.lt_of_lt_of_le E_o1_v1.lt tk3_0)
  have E_o1_v3 := E_o1_v1.keep Kq3
  have V_o1_v3 := V_o1_v1.keep Kq3 (ninS ne_o1_b1 nin0)
  have E_b1_v3 := E_b1_v1.keep Kq3
  have O3 := O1.keep Kq3 (allS gn_b1 all0)
  have K3 : Keep h0 T3.heap [] := K1.trans Kq3 (allS (Or.inr sz_b1) all0)
  refine ⟨T3, some (.ref b1), _, _, _, by decide, by decide, X3, nofun, ⟨b1, b3_0, kb3_0, vl3_0, rfl, N3, K3, sz_b1, sz_b3_0, ne_b1_b3_0, tk3_1, tk3_2, tk3_3, tk3_4, tk3_5⟩, fun fs hr => castTop (ef_9 m (.ref o1) rfl (.int (10 : Int32)) rfl) ?_⟩
  show Steps p.tables e below (s₁.setTop (mkF m 0 #[.val (.ref o1), .val (.int (10 : Int32))] [])) _
  refine st1 _ ?_
  refine XS.dup X1.here hx rfl (hb hby d2_3) rfl rfl ?_
  refine XS.aloadN X1.here hx rfl (hb hby d2_4) rfl rfl ?_
  refine XS.iconst X1.here hx rfl (hb hby d2_5) ?_
  refine XS.iloadN X1.here hx rfl (hb hby d2_6) rfl ?_
  refine st2 _ ?_
  refine st3.trans ?_
  show Steps p.tables e below (T3.setTop (mkF m 13 #[.val (.ref o1), .val (.int (10 : Int32))] [(.ref b1)])) _
  exact retOut X3 hx hret rfl (Or.inr (Or.inr (Or.inr (Or.inr ⟨rfl, rfl, rfl⟩)))) (hb hby d2_13) hr
def Qd_29 (Z : State) (w : Nat → Addr) (kk : Nat → ClassId) (iw : Nat → Int32) (vw : Nat → Value) (p0 : Int32) (h0 : Heap) (n0 : Nat) (v : Option Value) (h : Heap) (L : List Loc) : Prop := ∃ (c1 : Addr) (c2 : Addr) (kc1 : ClassId) (vx1 : List Value), v = some (.ref c1) ∧ Fr n0 L ∧ Keep h0 h [] ∧ h0.size ≤ c1 ∧ h0.size ≤ c2 ∧ c1 ≠ c2 ∧ Exa Z h c1 s_0 ∧ Fld Z h c1 s_0 "value" "[B" (.ref c2) ∧ Fld Z h c1 s_0 "coder" "B" (.int (0 : Int32)) ∧ Exa Z h c2 "[B" ∧ Arv Z h c2 kc1 .byte (10 : Int32) vx1 (.int (0 : Int32))
set_option maxRecDepth 65536 in
set_option maxHeartbeats 40000000 in
theorem rm_85 (l : Launch) (Z : State) (a0 : Array Value) (hw : ∀ d ∈ tables_1, d.before a0 Z = true) (w : Nat → Addr) (kk : Nat → ClassId) (iw : Nat → Int32) (vw : Nat → Value) (hN : Wd Z w kk iw vw) (ws : List Jvm.Cond) (p0 : Int32) (h0 : Heap) (O0 : Old Z Z.heap.size h0) (hp0 : p0 < (0 : Int32)) (hp1 : ¬ ((p0 / (10000 : Int32)) = (0 : Int32))) (hp2 : ¬ (((p0 / (10000 : Int32)) / (10 : Int32)) = (0 : Int32))) (hp3 : ¬ ((((p0 / (10000 : Int32)) / (10 : Int32)) / (10 : Int32)) = (0 : Int32))) (hp4 : ¬ (((((p0 / (10000 : Int32)) / (10 : Int32)) / (10 : Int32)) / (10 : Int32)) = (0 : Int32))) (hp5 : ¬ ((((((p0 / (10000 : Int32)) / (10 : Int32)) / (10 : Int32)) / (10 : Int32)) / (10 : Int32)) = (0 : Int32))) (hp6 : ((((((p0 / (10000 : Int32)) / (10 : Int32)) / (10 : Int32)) / (10 : Int32)) / (10 : Int32)) / (10 : Int32)) = (0 : Int32)) :
    Met l Z (⟨s_1, "yearText", s_4⟩ : MethodName) (Jvm.Cond.code (⟨s_1, "yearText", s_4⟩ : MethodName) prog_22_method_4_code 2 (some (.object s_0))) ws (Rm 6 3 25 101) #[(.int p0)] h0 (Qd_29 Z w kk iw vw p0 h0 Z.heap.size) := by
  have hN' := hN
  obtain ⟨hS0, hE0, hS1, hE1, hS2, hE2, hI0, hJ0, hR0, hRr0, hEq0⟩ := hN'
  refine own_body (plainFor_of_name pn_0) hisR ?_
  intro p e s m below meth c s₁ hx hby hml hown hnm hret X0 hZ e0
  have N0 := Fr.nil Z.heap.size
  have K0 : Keep h0 h0 [] := Keep.refl _ _
  obtain ⟨T1, h1, k1, X1, e1, E1, A1, AE1, st1⟩ := newPE X0 hx hZ (W hw 4 rfl) e0 (g := (mkF m 2 #[.val (.int p0), .unset] [(.int (11 : Int32))])) rfl (hb hby d0_2) rfl (by decide) (cap := 11) (by decide) (by decide) (by decide) (by decide) (ad := "[B") rfl
  obtain ⟨b1, g1⟩ : ∃ z, z = h0.size := ⟨_, rfl⟩
  rw [← g1] at A1 st1 AE1
  have gn_b1 : Z.heap.size ≤ b1 := Nat.le_trans O0.2.1 (Nat.le_of_eq g1.symm)
  have sz_b1 : h0.size ≤ b1 := Nat.le_trans K0.1 (Nat.le_of_eq g1.symm)
  have O1 := O0.ext E1
  have K1 := K0.ext E1
  have E_b1_v1 := AE1
  have V_b1_v1 : Arv Z h1 b1 k1 .byte (11 : Int32) [] (.int (0 : Int32)) := Arv.new A1 (by decide)
  obtain ⟨_, _, ⟨T2, L2, k2, n2⟩, -, X2, ⟨Lc2, hQ2, l2, y2, z2⟩, st2⟩ := Jvm.LawKit.callS X1 hx (y := (⟨s_1, "writeYear", "([BI)I"⟩ : MethodName)) hown (mvT hZ (W hw 5 rfl)) (mvT hZ (W hw 6 rfl)) (mvT hZ (W hw 2 rfl)) (mvT hZ (W hw 7 rfl)) (by decide) (backOf (W := 1) (rm_75 l Z a0 hw w kk iw vw hN [] b1 p0 k1 h1 O1 gn_b1 E_b1_v1.lt E_b1_v1 V_b1_v1 hp0 hp1 hp2 hp3 hp4 hp5 hp6) hZ (W hw 7 rfl) (W hw 2 rfl) (by decide) (by decide)) (g := (mkF m 8 #[.val (.int p0), .val (.ref b1)] [(.int p0), (.ref b1), (.ref b1)])) rfl (by rw [hml]; rfl) (argsL := [(.ref b1), (.int p0)]) (rest := [(.ref b1)]) (lenOf pd_0 rfl) rfl (by show 2 * 0 + _ ≤ _; exact Nat.le_of_eq rfl) (hb hby d0_8) (fun _ _ => ⟨rfl, e1, (by decide : 1 + 0 ≤ _), (by decide : 11 + 0 ≤ _)⟩)
  dsimp only [Pt.U, Pt.locs, Pt.cells, Pt.slots] at X2 l2 y2 z2 st2 hQ2
  subst l2 y2 z2
  obtain ⟨vl2_0, rfl, N2q, Kq2, tk2_0, tk2_1⟩ := hQ2
  have N2 := Fr.app N0 N2q
  have E_b1_v2 := E_b1_v1.keep Kq2
  have O2 := O1.keep Kq2 (allS gn_b1 all0)
  have K2 : Keep h0 T2.heap [] := K1.trans Kq2 (allS (Or.inr sz_b1) all0)
  obtain ⟨_, _, ⟨T3, L3, k3, n3⟩, -, X3, ⟨Lc3, hQ3, l3, y3, z3⟩, st3⟩ := Jvm.LawKit.callS X2 hx (y := (⟨s_1, "string", s_9⟩ : MethodName)) hown (mvT hZ (W hw 8 rfl)) (mvT hZ (W hw 9 rfl)) (mvT hZ (W hw 2 rfl)) (mvT hZ (W hw 10 rfl)) (by decide) (backOf (W := 0) (rm_84 l Z a0 hw w kk iw vw hN [] b1 vl2_0 k1 T2.heap O2 gn_b1 tk2_0.lt tk2_0 tk2_1) hZ (W hw 10 rfl) (W hw 2 rfl) (by decide) (by decide)) (g := (mkF m 11 #[.val (.int p0), .val (.ref b1)] [(.int (10 : Int32)), (.ref b1)])) rfl (by rw [hml]; rfl) (argsL := [(.ref b1), (.int (10 : Int32))]) (rest := []) (lenOf pd_9 rfl) rfl (by show 2 * 0 + _ ≤ _; exact Nat.le_of_eq rfl) (hb hby d0_11) (fun _ _ => ⟨rfl, rfl, (by decide : 1 + 2 ≤ _), (by decide : 11 + 14 ≤ _)⟩)
  dsimp only [Pt.U, Pt.locs, Pt.cells, Pt.slots] at X3 l3 y3 z3 st3 hQ3
  subst l3 y3 z3
  obtain ⟨b3_0, b3_1, kb3_0, vl3_0, rfl, N3q, Kq3, tk3_0, tk3_1, tk3_2, tk3_3, tk3_4, tk3_5, tk3_6, tk3_7⟩ := hQ3
  have N3 := Fr.app N2 N3q
  have gn_b3_0 : Z.heap.size ≤ b3_0 := Nat.le_trans O2.2.1 tk3_0
  have sz_b3_0 : h0.size ≤ b3_0 := Nat.le_trans K2.1 tk3_0
  have ne_b1_b3_0 : b1 ≠ b3_0 := Nat.ne_of_lt (Nat.lt_of_lt_of_le tk2_0.lt tk3_0)
  have gn_b3_1 : Z.heap.size ≤ b3_1 := Nat.le_trans O2.2.1 tk3_1
  have sz_b3_1 : h0.size ≤ b3_1 := Nat.le_trans K2.1 tk3_1
  have ne_b1_b3_1 : b1 ≠ b3_1 := Nat.ne_of_lt (Nat.lt_of_lt_of_le tk2_0.lt tk3_1)
  have tk2_0_v3 := tk2_0.keep Kq3
  have tk2_1_v3 := tk2_1.keep Kq3 nin0
  have O3 := O2.keep Kq3 all0
  have K3 : Keep h0 T3.heap [] := K2.trans Kq3 all0
  refine ⟨T3, some (.ref b3_0), _, _, _, by decide, by decide, X3, nofun, ⟨b3_0, b3_1, kb3_0, vl3_0, rfl, N3, K3, sz_b3_0, sz_b3_1, tk3_2, tk3_3, tk3_4, tk3_5, tk3_6, tk3_7⟩, fun fs hr => castTop (ef_10 m (.int p0) rfl) ?_⟩
  show Steps p.tables e below (s₁.setTop (mkF m 0 #[.val (.int p0), .unset] [])) _
  refine XS.bipush X0.here hx rfl (hb hby d0_0) ?_
  refine st1 _ ?_
  refine XS.astoreN X1.here hx rfl (hb hby d0_4) rfl rfl (l' := #[.val (.int p0), .val (.ref b1)]) rfl ?_
  refine XS.aloadN X1.here hx rfl (hb hby d0_5) rfl rfl ?_
  refine XS.aloadN X1.here hx rfl (hb hby d0_6) rfl rfl ?_
  refine XS.iloadN X1.here hx rfl (hb hby d0_7) rfl ?_
  refine st2 _ ?_
  refine st3 _ ?_
  show Steps p.tables e below (T3.setTop (mkF m 14 #[.val (.int p0), .val (.ref b1)] [(.ref b3_0)])) _
  exact retOut X3 hx hret rfl (Or.inr (Or.inr (Or.inr (Or.inr ⟨rfl, rfl, rfl⟩)))) (hb hby d0_14) hr
set_option maxRecDepth 65536 in
set_option maxHeartbeats 40000000 in
theorem rm_86 (l : Launch) (Z : State) (a0 : Array Value) (hw : ∀ d ∈ tables_1, d.before a0 Z = true) (w : Nat → Addr) (kk : Nat → ClassId) (iw : Nat → Int32) (vw : Nat → Value) (hN : Wd Z w kk iw vw) (ws : List Jvm.Cond) (o1 : Addr) (o2 : Addr) (vl_o2 : List Value) (kc_o2 : ClassId) (h0 : Heap) (O0 : Old Z Z.heap.size h0) (gn_o1 : Z.heap.size ≤ o1) (lt_o1 : o1 < h0.size) (E_o1 : Exa Z h0 o1 s_0) (gn_o2 : Z.heap.size ≤ o2) (lt_o2 : o2 < h0.size) (F_o1_value : Fld Z h0 o1 s_0 "value" "[B" (.ref o2)) (F_o1_coder : Fld Z h0 o1 s_0 "coder" "B" (.int (0 : Int32))) (E_o2 : Exa Z h0 o2 "[B") (V_o2 : Arv Z h0 o2 kc_o2 .byte (10 : Int32) vl_o2 (.int (0 : Int32))) (ne_o1_o2 : o1 ≠ o2) :
    Met l Z (⟨s_0, "coder", "()B"⟩ : MethodName) (Jvm.Cond.code (⟨s_0, "coder", "()B"⟩ : MethodName) jdk_42_method_152_code 1 (some .byte)) ws (Rm 0 0 0 0) #[(.ref o1)] h0 (OQ (some (.int (0 : Int32))) h0 Z.heap.size) := by
  have hN' := hN
  obtain ⟨hS0, hE0, hS1, hE1, hS2, hE2, hI0, hJ0, hR0, hRr0, hEq0⟩ := hN'
  refine own_body (plainFor_of_name pn_3) hisR ?_
  intro p e s m below meth c s₁ hx hby hml hown hnm hret X0 hZ e0
  have N0 := Fr.nil Z.heap.size
  obtain ⟨T1, X1, e1, st1⟩ := getS2 X0 hx hZ hown (host := "") (Or.inl (W hw 44 rfl)) Via.refl e0 (hI0.ext O0.2) (g := (mkF m 0 #[.val (.ref o1)] [])) rfl (hb hby d13_0)
  obtain ⟨T2, X2, e2, st2⟩ := getF X1 hx hZ hown (host := "") (Or.inl (W hw 65 rfl)) Via.refl e1 F_o1_coder (g := (mkF m 7 #[.val (.ref o1)] [(.ref o1)])) rfl rfl (hb hby d13_7)
  refine ⟨T2, some (.int (0 : Int32)), _, _, _, by decide, by decide, X2, nofun, (by rw [e2]; exact ⟨rfl, N0, rfl⟩), fun fs hr => castTop (ef_1 m (.ref o1) rfl) ?_⟩
  show Steps p.tables e below (s₁.setTop (mkF m 0 #[.val (.ref o1)] [])) _
  refine st1 _ ?_
  refine XS.ifNo X1.here hx rfl (hb hby d13_3) rfl ((if0 _ _).trans (feq hJ0).1) ?_
  refine XS.aloadN X1.here hx rfl (hb hby d13_6) rfl rfl ?_
  refine st2 _ ?_
  refine XS.goto X2.here hx rfl (pc0 := 10) (pc' := 14) rfl (hb hby d13_10) (by decide) (by decide) ?_
  show Steps p.tables e below (T2.setTop (mkF m 14 #[.val (.ref o1)] [(.int (0 : Int32))])) _
  exact retN X2 hx (t := .byte) hret (by simp) (hb hby d13_14) hr
theorem lf_46 : ((10 : Int32) >>> ((0 : Int32) &&& 31)) = (10 : Int32) := by decide
set_option maxRecDepth 65536 in
set_option maxHeartbeats 40000000 in
theorem rm_87 (l : Launch) (Z : State) (a0 : Array Value) (hw : ∀ d ∈ tables_1, d.before a0 Z = true) (w : Nat → Addr) (kk : Nat → ClassId) (iw : Nat → Int32) (vw : Nat → Value) (hN : Wd Z w kk iw vw) (ws : List Jvm.Cond) (o1 : Addr) (o2 : Addr) (vl_o2 : List Value) (kc_o2 : ClassId) (h0 : Heap) (O0 : Old Z Z.heap.size h0) (gn_o1 : Z.heap.size ≤ o1) (lt_o1 : o1 < h0.size) (E_o1 : Exa Z h0 o1 s_0) (gn_o2 : Z.heap.size ≤ o2) (lt_o2 : o2 < h0.size) (F_o1_value : Fld Z h0 o1 s_0 "value" "[B" (.ref o2)) (F_o1_coder : Fld Z h0 o1 s_0 "coder" "B" (.int (0 : Int32))) (E_o2 : Exa Z h0 o2 "[B") (V_o2 : Arv Z h0 o2 kc_o2 .byte (10 : Int32) vl_o2 (.int (0 : Int32))) (ne_o1_o2 : o1 ≠ o2) :
    Met l Z (⟨s_0, "length", "()I"⟩ : MethodName) (Jvm.Cond.code (⟨s_0, "length", "()I"⟩ : MethodName) jdk_42_method_54_code 1 (some .int)) ws (Rm 1 0 0 13) #[(.ref o1)] h0 (OQ (some (.int (10 : Int32))) h0 Z.heap.size) := by
  have hN' := hN
  obtain ⟨hS0, hE0, hS1, hE1, hS2, hE2, hI0, hJ0, hR0, hRr0, hEq0⟩ := hN'
  refine own_body (plainFor_of_name pn_3) hisR ?_
  intro p e s m below meth c s₁ hx hby hml hown hnm hret X0 hZ e0
  have N0 := Fr.nil Z.heap.size
  obtain ⟨T1, X1, e1, st1⟩ := getF X0 hx hZ hown (host := "") (Or.inl (W hw 63 rfl)) Via.refl e0 F_o1_value (g := (mkF m 1 #[.val (.ref o1)] [(.ref o1)])) rfl rfl (hb hby d12_1)
  obtain ⟨cl2, Ar2, q2, Sz2, Ng2, Hv2, Gv2⟩ := id V_o2
  obtain ⟨cq3, kq3, q3a, q3b, q3c⟩ := isOf hZ e1 E_o1
  obtain ⟨_, _, ⟨T3, L3, k3, n3⟩, -, X3, ⟨Lc3, hQ3, l3, y3, z3⟩, st3⟩ := X1.virtualBack hx (y := (⟨s_0, "coder", "()B"⟩ : MethodName)) (z := (⟨s_0, "coder", "()B"⟩ : MethodName)) hown (mvT hZ (W hw 72 rfl)) (mvT hZ (W hw 73 rfl)) (notFace_of_selects (args := #[]) (mvT hZ (W hw 75 rfl))) (mvT hZ (W hw 75 rfl)) (mvT hZ (W hw 74 rfl)) (by decide) (backOf (W := 1) (rm_86 l Z a0 hw w kk iw vw hN [] o1 o2 vl_o2 kc_o2 h0 O0 gn_o1 E_o1.lt E_o1 gn_o2 E_o2.lt F_o1_value F_o1_coder E_o2 V_o2 ne_o1_o2) hZ (W hw 76 rfl) (W hw 13 rfl) (by decide) (by decide)) q3a q3c (g := (mkF m 6 #[.val (.ref o1)] [(.ref o1), (.int (10 : Int32))])) rfl (by rw [hml]; rfl) (Steps.refl _) (argsL := []) (rest := [(.int (10 : Int32))]) (lenOf pd_11 rfl) rfl (by show 2 * 0 + _ ≤ _; exact Nat.le_of_eq rfl) (hb hby d12_6) (fun _ _ => ⟨rfl, e1, (by decide : 0 + 0 ≤ _), (by decide : 0 + 0 ≤ _)⟩)
  dsimp only [Pt.U, Pt.locs, Pt.cells, Pt.slots] at X3 l3 y3 z3 st3 hQ3
  subst l3 y3 z3
  obtain ⟨rfl, N3q, e3⟩ := hQ3
  have N3 := Fr.app N0 N3q
  refine ⟨T3, some (.int (10 : Int32)), _, _, _, by decide, by decide, X3, nofun, (by rw [e3]; exact ⟨rfl, N3, rfl⟩), fun fs hr => castTop (ef_1 m (.ref o1) rfl) ?_⟩
  show Steps p.tables e below (s₁.setTop (mkF m 0 #[.val (.ref o1)] [])) _
  refine XS.aloadN X0.here hx rfl (hb hby d12_0) rfl rfl ?_
  refine st1 _ ?_
  refine X1.arraylength hx (by rw [e1]; exact Ar2.1) (State.isArrayOf_alike hZ.alike Ar2.2.1) (g := (mkF m 4 #[.val (.ref o1)] [(.ref o2)])) rfl rfl (hb hby d12_4) _ ?_
  rw [len_of Sz2 Ng2]
  refine XS.aloadN X1.here hx rfl (hb hby d12_5) rfl rfl ?_
  refine st3.trans ?_
  refine XS.ishr X3.here hx rfl (hb hby d12_9) rfl ?_
  show Steps p.tables e below (T3.setTop (mkF m 10 #[.val (.ref o1)] [(.int ((10 : Int32) >>> ((0 : Int32) &&& 31)))])) _
  rw [lf_46]
  show Steps p.tables e below (T3.setTop (mkF m 10 #[.val (.ref o1)] [(.int (10 : Int32))])) _
  exact retI X3 hx hret (hb hby d12_10) hr
set_option maxRecDepth 65536 in
set_option maxHeartbeats 40000000 in
theorem law_88 (l : Launch) (Z : State) (a0 : Array Value) (hw : ∀ d ∈ tables_1, d.before a0 Z = true) (w : Nat → Addr) (kk : Nat → ClassId) (iw : Nat → Int32) (vw : Nat → Value) (hN : Wd Z w kk iw vw) (ws : List Jvm.Cond) (p0 : Int32) (h0 : Heap) (O0 : Old Z Z.heap.size h0) (hp0 : p0 < (0 : Int32)) (hp1 : ¬ ((p0 / (10000 : Int32)) = (0 : Int32))) (hp2 : ¬ (((p0 / (10000 : Int32)) / (10 : Int32)) = (0 : Int32))) (hp3 : ¬ ((((p0 / (10000 : Int32)) / (10 : Int32)) / (10 : Int32)) = (0 : Int32))) (hp4 : ¬ (((((p0 / (10000 : Int32)) / (10 : Int32)) / (10 : Int32)) / (10 : Int32)) = (0 : Int32))) (hp5 : ¬ ((((((p0 / (10000 : Int32)) / (10 : Int32)) / (10 : Int32)) / (10 : Int32)) / (10 : Int32)) = (0 : Int32))) (hp6 : ((((((p0 / (10000 : Int32)) / (10 : Int32)) / (10 : Int32)) / (10 : Int32)) / (10 : Int32)) / (10 : Int32)) = (0 : Int32)) (hp7 : p0 < (1000 : Int32)) :
    MetFree l x (head1 (Jvm.Cond.code x code maxLocals ret :: ws) room_1) (fun a U => a = #[(.int p0)] ∧ Z.Warmed39 U.vm ∧ U.heap = h0) (fun _ _ _ _ _ => True) (fun _ U o U' => ∃ v L, o = .returned v ∧ OL (some (.int (1 : Int32))) Z.heap.size v U'.heap L ∧ FrameEnd U o U' L 16 128) := by
  have hN' := hN
  obtain ⟨hS0, hE0, hS1, hE1, hS2, hE2, hI0, hJ0, hR0, hRr0, hEq0⟩ := hN'
  refine MetFree.of_bodySF (plainFor_of_name pn_5) hisR ?_
  intro p e s m args below meth c s₁ Bd hml0 hP hK
  obtain ⟨rfl, hZ, hh⟩ := hP
  have hx := Bd.exec
  have hby := Bd.bytes
  have hml : c.maxLocals = 3 := hml0
  have hown : s.vm.findClass s_3 = some m.cls := findClass_of_methodNamed Bd.named
  have hnm := (name_of_methodNamed Bd.named Bd.method).1
  have X0 : Stand p l e room_1 s m #[(.int p0)] below meth c s₁ [] 0 0 := Stand.of_body Bd
  have e0 : s₁.heap = h0 := by rw [← hh, Bd.state]; rfl
  have N0 := Fr.nil Z.heap.size
  obtain ⟨_, _, ⟨T1, L1, k1, n1⟩, -, X1, ⟨Lc1, hQ1, l1, y1, z1⟩, st1⟩ := Jvm.LawKit.callS X0 hx (y := (⟨s_1, "yearText", s_4⟩ : MethodName)) hown (mvT hZ (W hw 0 rfl)) (mvT hZ (W hw 1 rfl)) (mvT hZ (W hw 2 rfl)) (mvT hZ (W hw 3 rfl)) (by decide) (backOf (W := 0) (rm_85 l Z a0 hw w kk iw vw hN [] p0 h0 O0 hp0 hp1 hp2 hp3 hp4 hp5 hp6) hZ (W hw 3 rfl) (W hw 2 rfl) (by decide) (by decide)) (g := (mkF m 1 #[.val (.int p0), .unset, .unset] [(.int p0)])) rfl (by rw [hml]; rfl) (argsL := [(.int p0)]) (rest := []) (lenOf pd_10 rfl) rfl (by show 2 * 0 + _ ≤ _; exact Nat.le_of_eq rfl) (hb hby at_1) (fun _ _ => ⟨rfl, e0, (by decide : 0 + 3 ≤ _), (by decide : 0 + 25 ≤ _)⟩)
  dsimp only [Pt.U, Pt.locs, Pt.cells, Pt.slots] at X1 l1 y1 z1 st1 hQ1
  subst l1 y1 z1
  obtain ⟨b1_0, b1_1, kb1_0, vl1_0, rfl, N1q, Kq1, tk1_0, tk1_1, tk1_2, tk1_3, tk1_4, tk1_5, tk1_6, tk1_7⟩ := hQ1
  have N1 := Fr.app N0 N1q
  have gn_b1_0 : Z.heap.size ≤ b1_0 := Nat.le_trans O0.2.1 tk1_0
  have gn_b1_1 : Z.heap.size ≤ b1_1 := Nat.le_trans O0.2.1 tk1_1
  have O1 := O0.keep Kq1 all0
  obtain ⟨cq2, kq2, q2a, q2b, q2c⟩ := isOf hZ rfl tk1_3
  obtain ⟨_, _, ⟨T2, L2, k2, n2⟩, -, X2, ⟨Lc2, hQ2, l2, y2, z2⟩, st2⟩ := X1.virtualBack hx (y := (⟨s_0, "length", "()I"⟩ : MethodName)) (z := (⟨s_0, "length", "()I"⟩ : MethodName)) hown (mvT hZ (W hw 67 rfl)) (mvT hZ (W hw 68 rfl)) (notFace_of_selects (args := #[]) (mvT hZ (W hw 70 rfl))) (mvT hZ (W hw 70 rfl)) (mvT hZ (W hw 69 rfl)) (by decide) (backOf (W := 0) (rm_87 l Z a0 hw w kk iw vw hN [] b1_0 b1_1 vl1_0 kb1_0 T1.heap O1 gn_b1_0 tk1_3.lt tk1_3 gn_b1_1 tk1_6.lt tk1_4 tk1_5 tk1_6 tk1_7 tk1_2) hZ (W hw 71 rfl) (W hw 13 rfl) (by decide) (by decide)) q2a q2c (g := (mkF m 6 #[.val (.int p0), .val (.ref b1_0), .unset] [(.ref b1_0)])) rfl (by rw [hml]; rfl) (Steps.refl _) (argsL := []) (rest := []) (lenOf pd_12 rfl) rfl (by show 2 * 0 + _ ≤ _; exact Nat.le_of_eq rfl) (hb hby at_6) (fun _ _ => ⟨rfl, rfl, (by decide : 3 + 0 ≤ _), (by decide : 25 + 0 ≤ _)⟩)
  dsimp only [Pt.U, Pt.locs, Pt.cells, Pt.slots] at X2 l2 y2 z2 st2 hQ2
  subst l2 y2 z2
  obtain ⟨rfl, N2q, e2⟩ := hQ2
  have N2 := Fr.app N1 N2q
  obtain ⟨_, _, ⟨T3, L3, k3, n3⟩, -, X3, ⟨Lc3, hQ3, l3, y3, z3⟩, st3⟩ := Jvm.LawKit.callS X2 hx (y := (⟨s_1, s_15, "(I)Z"⟩ : MethodName)) hown (mvT hZ (W hw 97 rfl)) (mvT hZ (W hw 98 rfl)) (mvT hZ (W hw 2 rfl)) (mvT hZ (W hw 99 rfl)) (by decide) (backOf (W := 0) (rm_16 l Z a0 hw w kk iw vw hN [] p0 T1.heap O1 hp7) hZ (W hw 99 rfl) (W hw 2 rfl) (by decide) (by decide)) (g := (mkF m 30 #[.val (.int p0), .val (.ref b1_0), .val (.int (0 : Int32))] [(.int p0)])) rfl (by rw [hml]; rfl) (argsL := [(.int p0)]) (rest := []) (lenOf pd_13 rfl) rfl (by show 2 * 0 + _ ≤ _; exact Nat.le_of_eq rfl) (hb hby at_30) (fun _ _ => ⟨rfl, e2, (by decide : 3 + 0 ≤ _), (by decide : 25 + 0 ≤ _)⟩)
  dsimp only [Pt.U, Pt.locs, Pt.cells, Pt.slots] at X3 l3 y3 z3 st3 hQ3
  subst l3 y3 z3
  obtain ⟨rfl, N3q, e3⟩ := hQ3
  have N3 := Fr.app N2 N3q
  obtain ⟨fs, hr, hrun, hended, hW, hsame⟩ := X3.leave (v := some (.int (1 : Int32))) (fun h => by rw [Bd.returns] at h; cases h)
  refine ⟨_, _, castTop (ef_12 m (.int p0) rfl) ?_, hrun, hended, _, _, rfl, ?_, ⟨_, rfl⟩, hW, hsame.mono (by decide) (by decide)⟩
  · show Steps p.tables e below (s₁.setTop (mkF m 0 #[.val (.int p0), .unset, .unset] [])) _
    refine XS.iloadN X0.here hx rfl (hb hby at_0) rfl ?_
    refine st1 _ ?_
    refine XS.astoreN X1.here hx rfl (hb hby at_4) rfl rfl (l' := #[.val (.int p0), .val (.ref b1_0), .unset]) rfl ?_
    refine XS.aloadN X1.here hx rfl (hb hby at_5) rfl rfl ?_
    refine st2.trans ?_
    refine XS.iconst X2.here hx rfl (hb hby at_9) ?_
    refine XS.icmpYes X2.here hx rfl (pc0 := 10) (pc' := 27) rfl (hb hby at_10) rfl (feq (by decide : ¬ ((10 : Int32) = (4 : Int32)))).2 (by decide) (by decide) ?_
    refine XS.iconst X2.here hx rfl (hb hby at_27) ?_
    refine XS.istoreN X2.here hx rfl (hb hby at_28) rfl (l' := #[.val (.int p0), .val (.ref b1_0), .val (.int (0 : Int32))]) rfl ?_
    refine XS.iloadN X2.here hx rfl (hb hby at_29) rfl ?_
    show Steps p.tables e below (T2.setTop (mkF m 30 #[.val (.int p0), .val (.ref b1_0), .val (.int (0 : Int32))] [(.int p0)])) _
    refine st3 _ ?_
    refine XS.iloadN X3.here hx rfl (hb hby at_33) rfl ?_
    refine XS.icmpNo X3.here hx rfl (hb hby at_34) rfl (teq (by decide : (0 : Int32) = (0 : Int32))).2 ?_
    refine XS.iconst X3.here hx rfl (hb hby at_37) ?_
    refine XS.goto X3.here hx rfl (pc0 := 38) (pc' := 42) rfl (hb hby at_38) (by decide) (by decide) ?_
    show Steps p.tables e below (T3.setTop (mkF m 42 #[.val (.int p0), .val (.ref b1_0), .val (.int (0 : Int32))] [(.int (1 : Int32))])) _
    exact retN X3 hx (t := .boolean) Bd.returns (by simp) (hb hby at_42) hr
  · show OL (some (.int (1 : Int32))) Z.heap.size _ T3.heap _
    exact ⟨rfl, N3⟩
theorem lf_47 : ((10 : Int32) + (1 : Int32)) = (11 : Int32) := by decide
theorem lf_48 : ((11 : Int32) - (1 : Int32)) = (10 : Int32) := by decide
theorem lf_49 : ((10 : Int32) + (-1 : Int32)) = (9 : Int32) := by decide
def Qd_30 (Z : State) (w : Nat → Addr) (kk : Nat → ClassId) (iw : Nat → Int32) (vw : Nat → Value) (o1 : Addr) (p1 : Int32) (kc_o1 : ClassId) (h0 : Heap) (n0 : Nat) (v : Option Value) (h : Heap) (L : List Loc) : Prop := ∃ (vx1 : List Value), v = some (.int (11 : Int32)) ∧ Fr n0 L ∧ Keep h0 h [o1] ∧ Exa Z h o1 "[B" ∧ Arv Z h o1 kc_o1 .byte (11 : Int32) vx1 (.int (0 : Int32))
set_option maxRecDepth 65536 in
set_option maxHeartbeats 40000000 in
theorem rm_89 (l : Launch) (Z : State) (a0 : Array Value) (hw : ∀ d ∈ tables_1, d.before a0 Z = true) (w : Nat → Addr) (kk : Nat → ClassId) (iw : Nat → Int32) (vw : Nat → Value) (hN : Wd Z w kk iw vw) (ws : List Jvm.Cond) (o1 : Addr) (p1 : Int32) (kc_o1 : ClassId) (h0 : Heap) (O0 : Old Z Z.heap.size h0) (gn_o1 : Z.heap.size ≤ o1) (lt_o1 : o1 < h0.size) (E_o1 : Exa Z h0 o1 "[B") (V_o1 : Arv Z h0 o1 kc_o1 .byte (11 : Int32) [] (.int (0 : Int32))) (hp0 : p1 < (0 : Int32)) (hp1 : ¬ ((p1 / (10000 : Int32)) = (0 : Int32))) (hp2 : ¬ (((p1 / (10000 : Int32)) / (10 : Int32)) = (0 : Int32))) (hp3 : ¬ ((((p1 / (10000 : Int32)) / (10 : Int32)) / (10 : Int32)) = (0 : Int32))) (hp4 : ¬ (((((p1 / (10000 : Int32)) / (10 : Int32)) / (10 : Int32)) / (10 : Int32)) = (0 : Int32))) (hp5 : ¬ ((((((p1 / (10000 : Int32)) / (10 : Int32)) / (10 : Int32)) / (10 : Int32)) / (10 : Int32)) = (0 : Int32))) (hp6 : ¬ (((((((p1 / (10000 : Int32)) / (10 : Int32)) / (10 : Int32)) / (10 : Int32)) / (10 : Int32)) / (10 : Int32)) = (0 : Int32))) (hp7 : (((((((p1 / (10000 : Int32)) / (10 : Int32)) / (10 : Int32)) / (10 : Int32)) / (10 : Int32)) / (10 : Int32)) / (10 : Int32)) = (0 : Int32)) :
    Met l Z (⟨s_1, "writeYear", "([BI)I"⟩ : MethodName) (Jvm.Cond.code (⟨s_1, "writeYear", "([BI)I"⟩ : MethodName) prog_22_method_7_code 7 (some .int)) ws (Rm 0 0 0 0) #[(.ref o1), (.int p1)] h0 (Qd_30 Z w kk iw vw o1 p1 kc_o1 h0 Z.heap.size) := by
  have hN' := hN
  obtain ⟨hS0, hE0, hS1, hE1, hS2, hE2, hI0, hJ0, hR0, hRr0, hEq0⟩ := hN'
  refine own_body (plainFor_of_name pn_0) hisR ?_
  intro p e s m below meth c s₁ hx hby hml hown hnm hret X0 hZ e0
  have N0 := Fr.nil Z.heap.size
  have K0 : Keep h0 h0 [o1] := Keep.refl _ _
  have Vc1 := V_o1
  obtain ⟨cl1, Ar1, q1, Sz1, Ng1, Hv1, Gv1⟩ := Vc1
  have hin1 : ¬ ((0 : Int32) < 0 ∨ cl1.slots.size ≤ ((0 : Int32)).toNatClampNeg) := inb_of Sz1 ⟨(by decide : ¬ ((0 : Int32) < (0 : Int32))), (by decide : (0 : Int32) < (11 : Int32))⟩
  obtain ⟨T2, h2, X2, e2, W2, st2⟩ := stB X0 hx hZ e0 Ar1 (j := (0 : Int32)) hin1 (g := (mkF m 8 #[.val (.ref o1), .val (.int p1), .unset, .unset, .unset, .unset, .unset] [(.int (45 : Int32)), (.int (0 : Int32)), (.ref o1)])) rfl rfl (hb hby d1_8)
  obtain ⟨vl2, V_o1_v2⟩ := own_store V_o1 W2 (fits_nar_byte _) ⟨(by decide : ¬ ((0 : Int32) < (0 : Int32))), (by decide : (0 : Int32) < (11 : Int32))⟩
  have N2 := Fr.snoc X2 N0 gn_o1
  have E_o1_v2 := E_o1.wr W2
  have O2 := O0.wr W2 gn_o1
  have K2 : Keep h0 h2 [o1] := K0.wr W2 (Or.inl (List.mem_of_getElem? (i := 0) rfl))
  obtain ⟨T3, L3, X3, st3, N3, e3⟩ := sg_18 w kk iw vw hN o1 p1 (1 : Int32) p1 (5 : Int32) (p1 / (10000 : Int32)) vl2 kc_o1 X2 hx hZ hw hby hml hown e2 O2 N2 gn_o1 E_o1_v2.lt E_o1_v2 V_o1_v2 hp1
  obtain ⟨T4, L4, X4, st4, N4, e4⟩ := sg_18 w kk iw vw hN o1 p1 (1 : Int32) p1 (6 : Int32) ((p1 / (10000 : Int32)) / (10 : Int32)) vl2 kc_o1 X3 hx hZ hw hby hml hown e3 O2 N3 gn_o1 E_o1_v2.lt E_o1_v2 V_o1_v2 hp2
  obtain ⟨T5, L5, X5, st5, N5, e5⟩ := sg_18 w kk iw vw hN o1 p1 (1 : Int32) p1 (7 : Int32) (((p1 / (10000 : Int32)) / (10 : Int32)) / (10 : Int32)) vl2 kc_o1 X4 hx hZ hw hby hml hown e4 O2 N4 gn_o1 E_o1_v2.lt E_o1_v2 V_o1_v2 hp3
  obtain ⟨T6, L6, X6, st6, N6, e6⟩ := sg_18 w kk iw vw hN o1 p1 (1 : Int32) p1 (8 : Int32) ((((p1 / (10000 : Int32)) / (10 : Int32)) / (10 : Int32)) / (10 : Int32)) vl2 kc_o1 X5 hx hZ hw hby hml hown e5 O2 N5 gn_o1 E_o1_v2.lt E_o1_v2 V_o1_v2 hp4
  obtain ⟨T7, L7, X7, st7, N7, e7⟩ := sg_18 w kk iw vw hN o1 p1 (1 : Int32) p1 (9 : Int32) (((((p1 / (10000 : Int32)) / (10 : Int32)) / (10 : Int32)) / (10 : Int32)) / (10 : Int32)) vl2 kc_o1 X6 hx hZ hw hby hml hown e6 O2 N6 gn_o1 E_o1_v2.lt E_o1_v2 V_o1_v2 hp5
  obtain ⟨T8, L8, X8, st8, N8, e8⟩ := sg_18 w kk iw vw hN o1 p1 (1 : Int32) p1 (10 : Int32) ((((((p1 / (10000 : Int32)) / (10 : Int32)) / (10 : Int32)) / (10 : Int32)) / (10 : Int32)) / (10 : Int32)) vl2 kc_o1 X7 hx hZ hw hby hml hown e7 O2 N7 gn_o1 E_o1_v2.lt E_o1_v2 V_o1_v2 hp6
  obtain ⟨T9, L9, vl9_0, z5_9, X9, st9, N9, Kq9, tk9_0, tk9_1⟩ := sg_1 w kk iw vw hN o1 p1 (1 : Int32) p1 (11 : Int32) p1 (10 : Int32) vl2 kc_o1 X8 hx hZ hw hby hml hown e8 O2 N8 gn_o1 E_o1_v2.lt E_o1_v2 V_o1_v2 (by decide : ¬ ((10 : Int32) < (1 : Int32))) (by decide : ¬ ((10 : Int32) < (0 : Int32))) (by decide : (10 : Int32) < (11 : Int32))
  have E_o1_v9 := E_o1_v2.keep Kq9
  have O9 := O2.keep Kq9 (allS gn_o1 all0)
  have K9 : Keep h0 T9.heap [o1] := K2.trans Kq9 (allS (Or.inl (List.mem_of_getElem? (i := 0) rfl)) all0)
  obtain ⟨T10, L10, vl10_0, z5_10, X10, st10, N10, Kq10, tk10_0, tk10_1⟩ := sg_1 w kk iw vw hN o1 p1 (1 : Int32) p1 (11 : Int32) z5_9 (9 : Int32) vl9_0 kc_o1 X9 hx hZ hw hby hml hown rfl O9 N9 gn_o1 tk9_0.lt tk9_0 tk9_1 (by decide : ¬ ((9 : Int32) < (1 : Int32))) (by decide : ¬ ((9 : Int32) < (0 : Int32))) (by decide : (9 : Int32) < (11 : Int32))
  have tk9_0_v10 := tk9_0.keep Kq10
  have O10 := O9.keep Kq10 (allS gn_o1 all0)
  have K10 : Keep h0 T10.heap [o1] := K9.trans Kq10 (allS (Or.inl (List.mem_of_getElem? (i := 0) rfl)) all0)
  obtain ⟨T11, L11, vl11_0, z5_11, X11, st11, N11, Kq11, tk11_0, tk11_1⟩ := sg_1 w kk iw vw hN o1 p1 (1 : Int32) p1 (11 : Int32) z5_10 (8 : Int32) vl10_0 kc_o1 X10 hx hZ hw hby hml hown rfl O10 N10 gn_o1 tk10_0.lt tk10_0 tk10_1 (by decide : ¬ ((8 : Int32) < (1 : Int32))) (by decide : ¬ ((8 : Int32) < (0 : Int32))) (by decide : (8 : Int32) < (11 : Int32))
  have tk10_0_v11 := tk10_0.keep Kq11
  have O11 := O10.keep Kq11 (allS gn_o1 all0)
  have K11 : Keep h0 T11.heap [o1] := K10.trans Kq11 (allS (Or.inl (List.mem_of_getElem? (i := 0) rfl)) all0)
  obtain ⟨T12, L12, vl12_0, z5_12, X12, st12, N12, Kq12, tk12_0, tk12_1⟩ := sg_1 w kk iw vw hN o1 p1 (1 : Int32) p1 (11 : Int32) z5_11 (7 : Int32) vl11_0 kc_o1 X11 hx hZ hw hby hml hown rfl O11 N11 gn_o1 tk11_0.lt tk11_0 tk11_1 (by decide : ¬ ((7 : Int32) < (1 : Int32))) (by decide : ¬ ((7 : Int32) < (0 : Int32))) (by decide : (7 : Int32) < (11 : Int32))
  have tk11_0_v12 := tk11_0.keep Kq12
  have O12 := O11.keep Kq12 (allS gn_o1 all0)
  have K12 : Keep h0 T12.heap [o1] := K11.trans Kq12 (allS (Or.inl (List.mem_of_getElem? (i := 0) rfl)) all0)
  obtain ⟨T13, L13, vl13_0, z5_13, X13, st13, N13, Kq13, tk13_0, tk13_1⟩ := sg_1 w kk iw vw hN o1 p1 (1 : Int32) p1 (11 : Int32) z5_12 (6 : Int32) vl12_0 kc_o1 X12 hx hZ hw hby hml hown rfl O12 N12 gn_o1 tk12_0.lt tk12_0 tk12_1 (by decide : ¬ ((6 : Int32) < (1 : Int32))) (by decide : ¬ ((6 : Int32) < (0 : Int32))) (by decide : (6 : Int32) < (11 : Int32))
  have tk12_0_v13 := tk12_0.keep Kq13
  have O13 := O12.keep Kq13 (allS gn_o1 all0)
  have K13 : Keep h0 T13.heap [o1] := K12.trans Kq13 (allS (Or.inl (List.mem_of_getElem? (i := 0) rfl)) all0)
  obtain ⟨T14, L14, vl14_0, z5_14, X14, st14, N14, Kq14, tk14_0, tk14_1⟩ := sg_1 w kk iw vw hN o1 p1 (1 : Int32) p1 (11 : Int32) z5_13 (5 : Int32) vl13_0 kc_o1 X13 hx hZ hw hby hml hown rfl O13 N13 gn_o1 tk13_0.lt tk13_0 tk13_1 (by decide : ¬ ((5 : Int32) < (1 : Int32))) (by decide : ¬ ((5 : Int32) < (0 : Int32))) (by decide : (5 : Int32) < (11 : Int32))
  have tk13_0_v14 := tk13_0.keep Kq14
  have O14 := O13.keep Kq14 (allS gn_o1 all0)
  have K14 : Keep h0 T14.heap [o1] := K13.trans Kq14 (allS (Or.inl (List.mem_of_getElem? (i := 0) rfl)) all0)
  obtain ⟨T15, L15, vl15_0, z5_15, X15, st15, N15, Kq15, tk15_0, tk15_1⟩ := sg_1 w kk iw vw hN o1 p1 (1 : Int32) p1 (11 : Int32) z5_14 (4 : Int32) vl14_0 kc_o1 X14 hx hZ hw hby hml hown rfl O14 N14 gn_o1 tk14_0.lt tk14_0 tk14_1 (by decide : ¬ ((4 : Int32) < (1 : Int32))) (by decide : ¬ ((4 : Int32) < (0 : Int32))) (by decide : (4 : Int32) < (11 : Int32))
  have tk14_0_v15 := tk14_0.keep Kq15
  have O15 := O14.keep Kq15 (allS gn_o1 all0)
  have K15 : Keep h0 T15.heap [o1] := K14.trans Kq15 (allS (Or.inl (List.mem_of_getElem? (i := 0) rfl)) all0)
  obtain ⟨T16, L16, vl16_0, z5_16, X16, st16, N16, Kq16, tk16_0, tk16_1⟩ := sg_1 w kk iw vw hN o1 p1 (1 : Int32) p1 (11 : Int32) z5_15 (3 : Int32) vl15_0 kc_o1 X15 hx hZ hw hby hml hown rfl O15 N15 gn_o1 tk15_0.lt tk15_0 tk15_1 (by decide : ¬ ((3 : Int32) < (1 : Int32))) (by decide : ¬ ((3 : Int32) < (0 : Int32))) (by decide : (3 : Int32) < (11 : Int32))
  have tk15_0_v16 := tk15_0.keep Kq16
  have O16 := O15.keep Kq16 (allS gn_o1 all0)
  have K16 : Keep h0 T16.heap [o1] := K15.trans Kq16 (allS (Or.inl (List.mem_of_getElem? (i := 0) rfl)) all0)
  obtain ⟨T17, L17, vl17_0, z5_17, X17, st17, N17, Kq17, tk17_0, tk17_1⟩ := sg_1 w kk iw vw hN o1 p1 (1 : Int32) p1 (11 : Int32) z5_16 (2 : Int32) vl16_0 kc_o1 X16 hx hZ hw hby hml hown rfl O16 N16 gn_o1 tk16_0.lt tk16_0 tk16_1 (by decide : ¬ ((2 : Int32) < (1 : Int32))) (by decide : ¬ ((2 : Int32) < (0 : Int32))) (by decide : (2 : Int32) < (11 : Int32))
  have tk16_0_v17 := tk16_0.keep Kq17
  have O17 := O16.keep Kq17 (allS gn_o1 all0)
  have K17 : Keep h0 T17.heap [o1] := K16.trans Kq17 (allS (Or.inl (List.mem_of_getElem? (i := 0) rfl)) all0)
  obtain ⟨T18, L18, vl18_0, z5_18, X18, st18, N18, Kq18, tk18_0, tk18_1⟩ := sg_1 w kk iw vw hN o1 p1 (1 : Int32) p1 (11 : Int32) z5_17 (1 : Int32) vl17_0 kc_o1 X17 hx hZ hw hby hml hown rfl O17 N17 gn_o1 tk17_0.lt tk17_0 tk17_1 (by decide : ¬ ((1 : Int32) < (1 : Int32))) (by decide : ¬ ((1 : Int32) < (0 : Int32))) (by decide : (1 : Int32) < (11 : Int32))
  have tk17_0_v18 := tk17_0.keep Kq18
  have O18 := O17.keep Kq18 (allS gn_o1 all0)
  have K18 : Keep h0 T18.heap [o1] := K17.trans Kq18 (allS (Or.inl (List.mem_of_getElem? (i := 0) rfl)) all0)
  refine ⟨T18, some (.int (11 : Int32)), _, _, _, by decide, by decide, X18, nofun, ⟨vl18_0, rfl, N18, K18, tk18_0, tk18_1⟩, fun fs hr => castTop (ef_0 m (.ref o1) rfl (.int p1) rfl) ?_⟩
  show Steps p.tables e below (s₁.setTop (mkF m 0 #[.val (.ref o1), .val (.int p1), .unset, .unset, .unset, .unset, .unset] [])) _
  refine XS.iloadN X0.here hx rfl (hb hby d1_0) rfl ?_
  refine XS.ifNo X0.here hx rfl (hb hby d1_1) rfl ((if0 _ _).trans (tlt hp0).2.1) ?_
  refine XS.aloadN X0.here hx rfl (hb hby d1_4) rfl rfl ?_
  refine XS.iconst X0.here hx rfl (hb hby d1_5) ?_
  refine XS.bipush X0.here hx rfl (hb hby d1_6) ?_
  refine st2 _ ?_
  refine XS.iconst X2.here hx rfl (hb hby d1_9) ?_
  refine XS.istoreN X2.here hx rfl (hb hby d1_10) rfl (l' := #[.val (.ref o1), .val (.int p1), .val (.int (1 : Int32)), .unset, .unset, .unset, .unset]) rfl ?_
  refine XS.goto X2.here hx rfl (pc0 := 11) (pc' := 33) rfl (hb hby d1_11) (by decide) (by decide) ?_
  refine XS.iloadN X2.here hx rfl (hb hby d1_33) rfl ?_
  show Steps p.tables e below (T2.setTop (mkF m 34 #[.val (.ref o1), .val (.int p1), .val (.int (1 : Int32)), .unset, .unset, .unset, .unset] [(.int p1)])) _
  refine XS.ifNo X2.here hx rfl (hb hby d1_34) rfl ((if0 _ _).trans (tlt hp0).2.1) ?_
  refine XS.iloadN X2.here hx rfl (hb hby d1_37) rfl ?_
  refine XS.goto X2.here hx rfl (pc0 := 38) (pc' := 43) rfl (hb hby d1_38) (by decide) (by decide) ?_
  refine XS.istoreN X2.here hx rfl (hb hby d1_43) rfl (l' := #[.val (.ref o1), .val (.int p1), .val (.int (1 : Int32)), .val (.int p1), .unset, .unset, .unset]) rfl ?_
  refine XS.iloadN X2.here hx rfl (hb hby d1_44) rfl ?_
  refine XS.iconst X2.here hx rfl (hb hby d1_45) ?_
  refine XS.iadd X2.here hx rfl (hb hby d1_46) rfl ?_
  show Steps p.tables e below (T2.setTop (mkF m 47 #[.val (.ref o1), .val (.int p1), .val (.int (1 : Int32)), .val (.int p1), .unset, .unset, .unset] [(.int ((1 : Int32) + (4 : Int32)))])) _
  rw [lf_0]
  refine XS.istore X2.here hx rfl (hb hby d1_47) rfl (l' := #[.val (.ref o1), .val (.int p1), .val (.int (1 : Int32)), .val (.int p1), .val (.int (5 : Int32)), .unset, .unset]) rfl ?_
  refine XS.iloadN X2.here hx rfl (hb hby d1_49) rfl ?_
  refine XS.sipush X2.here hx rfl (hb hby d1_50) ?_
  show Steps p.tables e below (T2.setTop (mkF m 53 #[.val (.ref o1), .val (.int p1), .val (.int (1 : Int32)), .val (.int p1), .val (.int (5 : Int32)), .unset, .unset] [(.int (10000 : Int32)), (.int p1)])) _
  refine XS.idiv X2.here hx rfl (hb hby d1_53) rfl (by decide : ¬ ((10000 : Int32) = (0 : Int32))) ?_
  refine XS.istore X2.here hx rfl (hb hby d1_54) rfl (l' := #[.val (.ref o1), .val (.int p1), .val (.int (1 : Int32)), .val (.int p1), .val (.int (5 : Int32)), .val (.int (p1 / (10000 : Int32))), .unset]) rfl ?_
  show Steps p.tables e below (T2.setTop (mkF m 56 #[.val (.ref o1), .val (.int p1), .val (.int (1 : Int32)), .val (.int p1), .val (.int (5 : Int32)), .val (.int (p1 / (10000 : Int32))), .unset] [])) _
  refine st3 _ ?_
  show Steps p.tables e below (T3.setTop (mkF m 56 #[.val (.ref o1), .val (.int p1), .val (.int (1 : Int32)), .val (.int p1), .val (.int ((5 : Int32) + (1 : Int32))), .val (.int ((p1 / (10000 : Int32)) / (10 : Int32))), .unset] [])) _
  rw [lf_12]
  show Steps p.tables e below (T3.setTop (mkF m 56 #[.val (.ref o1), .val (.int p1), .val (.int (1 : Int32)), .val (.int p1), .val (.int (6 : Int32)), .val (.int ((p1 / (10000 : Int32)) / (10 : Int32))), .unset] [])) _
  refine st4 _ ?_
  show Steps p.tables e below (T4.setTop (mkF m 56 #[.val (.ref o1), .val (.int p1), .val (.int (1 : Int32)), .val (.int p1), .val (.int ((6 : Int32) + (1 : Int32))), .val (.int (((p1 / (10000 : Int32)) / (10 : Int32)) / (10 : Int32))), .unset] [])) _
  rw [lf_19]
  show Steps p.tables e below (T4.setTop (mkF m 56 #[.val (.ref o1), .val (.int p1), .val (.int (1 : Int32)), .val (.int p1), .val (.int (7 : Int32)), .val (.int (((p1 / (10000 : Int32)) / (10 : Int32)) / (10 : Int32))), .unset] [])) _
  refine st5 _ ?_
  show Steps p.tables e below (T5.setTop (mkF m 56 #[.val (.ref o1), .val (.int p1), .val (.int (1 : Int32)), .val (.int p1), .val (.int ((7 : Int32) + (1 : Int32))), .val (.int ((((p1 / (10000 : Int32)) / (10 : Int32)) / (10 : Int32)) / (10 : Int32))), .unset] [])) _
  rw [lf_26]
  show Steps p.tables e below (T5.setTop (mkF m 56 #[.val (.ref o1), .val (.int p1), .val (.int (1 : Int32)), .val (.int p1), .val (.int (8 : Int32)), .val (.int ((((p1 / (10000 : Int32)) / (10 : Int32)) / (10 : Int32)) / (10 : Int32))), .unset] [])) _
  refine st6 _ ?_
  show Steps p.tables e below (T6.setTop (mkF m 56 #[.val (.ref o1), .val (.int p1), .val (.int (1 : Int32)), .val (.int p1), .val (.int ((8 : Int32) + (1 : Int32))), .val (.int (((((p1 / (10000 : Int32)) / (10 : Int32)) / (10 : Int32)) / (10 : Int32)) / (10 : Int32))), .unset] [])) _
  rw [lf_33]
  show Steps p.tables e below (T6.setTop (mkF m 56 #[.val (.ref o1), .val (.int p1), .val (.int (1 : Int32)), .val (.int p1), .val (.int (9 : Int32)), .val (.int (((((p1 / (10000 : Int32)) / (10 : Int32)) / (10 : Int32)) / (10 : Int32)) / (10 : Int32))), .unset] [])) _
  refine st7 _ ?_
  show Steps p.tables e below (T7.setTop (mkF m 56 #[.val (.ref o1), .val (.int p1), .val (.int (1 : Int32)), .val (.int p1), .val (.int ((9 : Int32) + (1 : Int32))), .val (.int ((((((p1 / (10000 : Int32)) / (10 : Int32)) / (10 : Int32)) / (10 : Int32)) / (10 : Int32)) / (10 : Int32))), .unset] [])) _
  rw [lf_40]
  show Steps p.tables e below (T7.setTop (mkF m 56 #[.val (.ref o1), .val (.int p1), .val (.int (1 : Int32)), .val (.int p1), .val (.int (10 : Int32)), .val (.int ((((((p1 / (10000 : Int32)) / (10 : Int32)) / (10 : Int32)) / (10 : Int32)) / (10 : Int32)) / (10 : Int32))), .unset] [])) _
  refine st8 _ ?_
  show Steps p.tables e below (T8.setTop (mkF m 56 #[.val (.ref o1), .val (.int p1), .val (.int (1 : Int32)), .val (.int p1), .val (.int ((10 : Int32) + (1 : Int32))), .val (.int (((((((p1 / (10000 : Int32)) / (10 : Int32)) / (10 : Int32)) / (10 : Int32)) / (10 : Int32)) / (10 : Int32)) / (10 : Int32))), .unset] [])) _
  rw [lf_47]
  refine XS.iload X8.here hx rfl (hb hby d1_56) rfl ?_
  refine XS.ifYes X8.here hx rfl (pc0 := 58) (pc' := 74) rfl (hb hby d1_58) rfl ((if0 _ _).trans (teq hp7).1) (by decide) (by decide) ?_
  refine XS.iloadN X8.here hx rfl (hb hby d1_74) rfl ?_
  refine XS.istore X8.here hx rfl (hb hby d1_75) rfl (l' := #[.val (.ref o1), .val (.int p1), .val (.int (1 : Int32)), .val (.int p1), .val (.int (11 : Int32)), .val (.int p1), .unset]) rfl ?_
  refine XS.iload X8.here hx rfl (hb hby d1_77) rfl ?_
  refine XS.iconst X8.here hx rfl (hb hby d1_79) ?_
  refine XS.isub X8.here hx rfl (hb hby d1_80) rfl ?_
  show Steps p.tables e below (T8.setTop (mkF m 81 #[.val (.ref o1), .val (.int p1), .val (.int (1 : Int32)), .val (.int p1), .val (.int (11 : Int32)), .val (.int p1), .unset] [(.int ((11 : Int32) - (1 : Int32)))])) _
  rw [lf_48]
  refine XS.istore X8.here hx rfl (hb hby d1_81) rfl (l' := #[.val (.ref o1), .val (.int p1), .val (.int (1 : Int32)), .val (.int p1), .val (.int (11 : Int32)), .val (.int p1), .val (.int (10 : Int32))]) rfl ?_
  show Steps p.tables e below (T8.setTop (mkF m 83 #[.val (.ref o1), .val (.int p1), .val (.int (1 : Int32)), .val (.int p1), .val (.int (11 : Int32)), .val (.int p1), .val (.int (10 : Int32))] [])) _
  refine st9 _ ?_
  show Steps p.tables e below (T9.setTop (mkF m 83 #[.val (.ref o1), .val (.int p1), .val (.int (1 : Int32)), .val (.int p1), .val (.int (11 : Int32)), .val (.int z5_9), .val (.int ((10 : Int32) + (-1 : Int32)))] [])) _
  rw [lf_49]
  show Steps p.tables e below (T9.setTop (mkF m 83 #[.val (.ref o1), .val (.int p1), .val (.int (1 : Int32)), .val (.int p1), .val (.int (11 : Int32)), .val (.int z5_9), .val (.int (9 : Int32))] [])) _
  refine st10 _ ?_
  show Steps p.tables e below (T10.setTop (mkF m 83 #[.val (.ref o1), .val (.int p1), .val (.int (1 : Int32)), .val (.int p1), .val (.int (11 : Int32)), .val (.int z5_10), .val (.int ((9 : Int32) + (-1 : Int32)))] [])) _
  rw [lf_42]
  show Steps p.tables e below (T10.setTop (mkF m 83 #[.val (.ref o1), .val (.int p1), .val (.int (1 : Int32)), .val (.int p1), .val (.int (11 : Int32)), .val (.int z5_10), .val (.int (8 : Int32))] [])) _
  refine st11 _ ?_
  show Steps p.tables e below (T11.setTop (mkF m 83 #[.val (.ref o1), .val (.int p1), .val (.int (1 : Int32)), .val (.int p1), .val (.int (11 : Int32)), .val (.int z5_11), .val (.int ((8 : Int32) + (-1 : Int32)))] [])) _
  rw [lf_35]
  show Steps p.tables e below (T11.setTop (mkF m 83 #[.val (.ref o1), .val (.int p1), .val (.int (1 : Int32)), .val (.int p1), .val (.int (11 : Int32)), .val (.int z5_11), .val (.int (7 : Int32))] [])) _
  refine st12 _ ?_
  show Steps p.tables e below (T12.setTop (mkF m 83 #[.val (.ref o1), .val (.int p1), .val (.int (1 : Int32)), .val (.int p1), .val (.int (11 : Int32)), .val (.int z5_12), .val (.int ((7 : Int32) + (-1 : Int32)))] [])) _
  rw [lf_28]
  show Steps p.tables e below (T12.setTop (mkF m 83 #[.val (.ref o1), .val (.int p1), .val (.int (1 : Int32)), .val (.int p1), .val (.int (11 : Int32)), .val (.int z5_12), .val (.int (6 : Int32))] [])) _
  refine st13 _ ?_
  show Steps p.tables e below (T13.setTop (mkF m 83 #[.val (.ref o1), .val (.int p1), .val (.int (1 : Int32)), .val (.int p1), .val (.int (11 : Int32)), .val (.int z5_13), .val (.int ((6 : Int32) + (-1 : Int32)))] [])) _
  rw [lf_21]
  show Steps p.tables e below (T13.setTop (mkF m 83 #[.val (.ref o1), .val (.int p1), .val (.int (1 : Int32)), .val (.int p1), .val (.int (11 : Int32)), .val (.int z5_13), .val (.int (5 : Int32))] [])) _
  refine st14 _ ?_
  show Steps p.tables e below (T14.setTop (mkF m 83 #[.val (.ref o1), .val (.int p1), .val (.int (1 : Int32)), .val (.int p1), .val (.int (11 : Int32)), .val (.int z5_14), .val (.int ((5 : Int32) + (-1 : Int32)))] [])) _
  rw [lf_14]
  show Steps p.tables e below (T14.setTop (mkF m 83 #[.val (.ref o1), .val (.int p1), .val (.int (1 : Int32)), .val (.int p1), .val (.int (11 : Int32)), .val (.int z5_14), .val (.int (4 : Int32))] [])) _
  refine st15 _ ?_
  show Steps p.tables e below (T15.setTop (mkF m 83 #[.val (.ref o1), .val (.int p1), .val (.int (1 : Int32)), .val (.int p1), .val (.int (11 : Int32)), .val (.int z5_15), .val (.int ((4 : Int32) + (-1 : Int32)))] [])) _
  rw [lf_2]
  show Steps p.tables e below (T15.setTop (mkF m 83 #[.val (.ref o1), .val (.int p1), .val (.int (1 : Int32)), .val (.int p1), .val (.int (11 : Int32)), .val (.int z5_15), .val (.int (3 : Int32))] [])) _
  refine st16 _ ?_
  show Steps p.tables e below (T16.setTop (mkF m 83 #[.val (.ref o1), .val (.int p1), .val (.int (1 : Int32)), .val (.int p1), .val (.int (11 : Int32)), .val (.int z5_16), .val (.int ((3 : Int32) + (-1 : Int32)))] [])) _
  rw [lf_3]
  show Steps p.tables e below (T16.setTop (mkF m 83 #[.val (.ref o1), .val (.int p1), .val (.int (1 : Int32)), .val (.int p1), .val (.int (11 : Int32)), .val (.int z5_16), .val (.int (2 : Int32))] [])) _
  refine st17 _ ?_
  show Steps p.tables e below (T17.setTop (mkF m 83 #[.val (.ref o1), .val (.int p1), .val (.int (1 : Int32)), .val (.int p1), .val (.int (11 : Int32)), .val (.int z5_17), .val (.int ((2 : Int32) + (-1 : Int32)))] [])) _
  rw [lf_4]
  show Steps p.tables e below (T17.setTop (mkF m 83 #[.val (.ref o1), .val (.int p1), .val (.int (1 : Int32)), .val (.int p1), .val (.int (11 : Int32)), .val (.int z5_17), .val (.int (1 : Int32))] [])) _
  refine st18 _ ?_
  show Steps p.tables e below (T18.setTop (mkF m 83 #[.val (.ref o1), .val (.int p1), .val (.int (1 : Int32)), .val (.int p1), .val (.int (11 : Int32)), .val (.int z5_18), .val (.int ((1 : Int32) + (-1 : Int32)))] [])) _
  rw [lf_5]
  refine XS.iload X18.here hx rfl (hb hby d1_83) rfl ?_
  refine XS.iloadN X18.here hx rfl (hb hby d1_85) rfl ?_
  refine XS.icmpYes X18.here hx rfl (pc0 := 86) (pc' := 115) rfl (hb hby d1_86) rfl (tlt (by decide : (0 : Int32) < (1 : Int32))).1 (by decide) (by decide) ?_
  refine XS.iload X18.here hx rfl (hb hby d1_115) rfl ?_
  show Steps p.tables e below (T18.setTop (mkF m 117 #[.val (.ref o1), .val (.int p1), .val (.int (1 : Int32)), .val (.int p1), .val (.int (11 : Int32)), .val (.int z5_18), .val (.int (0 : Int32))] [(.int (11 : Int32))])) _
  exact retI X18 hx hret (hb hby d1_117) hr
theorem lf_50 : ((11 : Int32) ||| (11 : Int32)) = (11 : Int32) := by decide
set_option maxRecDepth 65536 in
set_option maxHeartbeats 40000000 in
theorem rm_90 (l : Launch) (Z : State) (a0 : Array Value) (hw : ∀ d ∈ tables_1, d.before a0 Z = true) (w : Nat → Addr) (kk : Nat → ClassId) (iw : Nat → Int32) (vw : Nat → Value) (hN : Wd Z w kk iw vw) (ws : List Jvm.Cond)  (h0 : Heap) (O0 : Old Z Z.heap.size h0) :
    Met l Z (⟨s_6, s_11, s_5⟩ : MethodName) (Jvm.Cond.code (⟨s_6, s_11, s_5⟩ : MethodName) jdk_41_method_13_code 4 (some .int)) ws (Rm 0 0 0 0) #[(.int (0 : Int32)), (.int (11 : Int32)), (.int (11 : Int32)), (vw 0)] h0 (OQ (some (.int (0 : Int32))) h0 Z.heap.size) := by
  have hN' := hN
  obtain ⟨hS0, hE0, hS1, hE1, hS2, hE2, hI0, hJ0, hR0, hRr0, hEq0⟩ := hN'
  refine own_body (plainFor_of_name pn_2) hisR ?_
  intro p e s m below meth c s₁ hx hby hml hown hnm hret X0 hZ e0
  have N0 := Fr.nil Z.heap.size
  refine ⟨s₁, some (.int (0 : Int32)), _, _, _, by decide, by decide, X0, nofun, (by rw [e0]; exact ⟨rfl, N0, rfl⟩), fun fs hr => castTop (ef_2 m (.int (0 : Int32)) rfl (.int (11 : Int32)) rfl (.int (11 : Int32)) rfl (vw 0) (own_cat hRr0)) ?_⟩
  show Steps p.tables e below (s₁.setTop (mkF m 0 #[.val (.int (0 : Int32)), .val (.int (11 : Int32)), .val (.int (11 : Int32)), .val (vw 0)] [])) _
  refine XS.iloadN X0.here hx rfl (hb hby d6_0) rfl ?_
  refine XS.iloadN X0.here hx rfl (hb hby d6_1) rfl ?_
  refine XS.ior X0.here hx rfl (hb hby d6_2) rfl ?_
  show Steps p.tables e below (s₁.setTop (mkF m 3 #[.val (.int (0 : Int32)), .val (.int (11 : Int32)), .val (.int (11 : Int32)), .val (vw 0)] [(.int ((11 : Int32) ||| (0 : Int32)))])) _
  rw [lf_6]
  refine XS.iloadN X0.here hx rfl (hb hby d6_3) rfl ?_
  refine XS.ior X0.here hx rfl (hb hby d6_4) rfl ?_
  show Steps p.tables e below (s₁.setTop (mkF m 5 #[.val (.int (0 : Int32)), .val (.int (11 : Int32)), .val (.int (11 : Int32)), .val (vw 0)] [(.int ((11 : Int32) ||| (11 : Int32)))])) _
  rw [lf_50]
  refine XS.ifNo X0.here hx rfl (hb hby d6_5) rfl ((if0 _ _).trans (flt (by decide : ¬ ((11 : Int32) < (0 : Int32)))).1) ?_
  refine XS.iloadN X0.here hx rfl (hb hby d6_8) rfl ?_
  refine XS.iloadN X0.here hx rfl (hb hby d6_9) rfl ?_
  refine XS.iloadN X0.here hx rfl (hb hby d6_10) rfl ?_
  refine XS.isub X0.here hx rfl (hb hby d6_11) rfl ?_
  show Steps p.tables e below (s₁.setTop (mkF m 12 #[.val (.int (0 : Int32)), .val (.int (11 : Int32)), .val (.int (11 : Int32)), .val (vw 0)] [(.int ((11 : Int32) - (0 : Int32))), (.int (11 : Int32))])) _
  rw [lf_8]
  show Steps p.tables e below (s₁.setTop (mkF m 12 #[.val (.int (0 : Int32)), .val (.int (11 : Int32)), .val (.int (11 : Int32)), .val (vw 0)] [(.int (11 : Int32)), (.int (11 : Int32))])) _
  refine XS.icmpYes X0.here hx rfl (pc0 := 12) (pc' := 23) rfl (hb hby d6_12) rfl (flt (by decide : ¬ ((11 : Int32) < (11 : Int32)))).2.2.2 (by decide) (by decide) ?_
  refine XS.iloadN X0.here hx rfl (hb hby d6_23) rfl ?_
  show Steps p.tables e below (s₁.setTop (mkF m 24 #[.val (.int (0 : Int32)), .val (.int (11 : Int32)), .val (.int (11 : Int32)), .val (vw 0)] [(.int (0 : Int32))])) _
  exact retI X0 hx hret (hb hby d6_24) hr
set_option maxRecDepth 65536 in
set_option maxHeartbeats 40000000 in
theorem rm_91 (l : Launch) (Z : State) (a0 : Array Value) (hw : ∀ d ∈ tables_1, d.before a0 Z = true) (w : Nat → Addr) (kk : Nat → ClassId) (iw : Nat → Int32) (vw : Nat → Value) (hN : Wd Z w kk iw vw) (ws : List Jvm.Cond)  (h0 : Heap) (O0 : Old Z Z.heap.size h0) :
    Met l Z (⟨s_0, s_10, "(III)I"⟩ : MethodName) (Jvm.Cond.code (⟨s_0, s_10, "(III)I"⟩ : MethodName) jdk_42_method_157_code 3 (some .int)) ws (Rm 1 0 0 15) #[(.int (0 : Int32)), (.int (11 : Int32)), (.int (11 : Int32))] h0 (OQ (some (.int (0 : Int32))) h0 Z.heap.size) := by
  have hN' := hN
  obtain ⟨hS0, hE0, hS1, hE1, hS2, hE2, hI0, hJ0, hR0, hRr0, hEq0⟩ := hN'
  refine own_body (plainFor_of_name pn_3) hisR ?_
  intro p e s m below meth c s₁ hx hby hml hown hnm hret X0 hZ e0
  have N0 := Fr.nil Z.heap.size
  obtain ⟨T1, X1, e1, st1⟩ := getS2 X0 hx hZ hown (host := "") (Or.inl (W hw 28 rfl)) Via.refl e0 (hR0.ext O0.2) (g := (mkF m 3 #[.val (.int (0 : Int32)), .val (.int (11 : Int32)), .val (.int (11 : Int32))] [(.int (11 : Int32)), (.int (11 : Int32)), (.int (0 : Int32))])) rfl (hb hby d5_3)
  obtain ⟨_, _, ⟨T2, L2, k2, n2⟩, -, X2, ⟨Lc2, hQ2, l2, y2, z2⟩, st2⟩ := Jvm.LawKit.callS X1 hx (y := (⟨s_6, s_11, s_5⟩ : MethodName)) hown (mvT hZ (W hw 30 rfl)) (mvT hZ (W hw 31 rfl)) (mvT hZ (W hw 29 rfl)) (mvT hZ (W hw 32 rfl)) (by decide) (backOf (W := 0) (rm_90 l Z a0 hw w kk iw vw hN [] h0 O0) hZ (W hw 32 rfl) (W hw 29 rfl) (by decide) (by decide)) (g := (mkF m 6 #[.val (.int (0 : Int32)), .val (.int (11 : Int32)), .val (.int (11 : Int32))] [(vw 0), (.int (11 : Int32)), (.int (11 : Int32)), (.int (0 : Int32))])) rfl (by rw [hml]; rfl) (argsL := [(.int (0 : Int32)), (.int (11 : Int32)), (.int (11 : Int32)), (vw 0)]) (rest := []) (lenOf pd_2 rfl) rfl (by show 2 * 0 + _ ≤ _; exact Nat.le_of_eq rfl) (hb hby d5_6) (fun _ _ => ⟨rfl, e1, (by decide : 0 + 0 ≤ _), (by decide : 0 + 0 ≤ _)⟩)
  dsimp only [Pt.U, Pt.locs, Pt.cells, Pt.slots] at X2 l2 y2 z2 st2 hQ2
  subst l2 y2 z2
  obtain ⟨rfl, N2q, e2⟩ := hQ2
  have N2 := Fr.app N0 N2q
  refine ⟨T2, some (.int (0 : Int32)), _, _, _, by decide, by decide, X2, nofun, (by rw [e2]; exact ⟨rfl, N2, rfl⟩), fun fs hr => castTop (ef_3 m (.int (0 : Int32)) rfl (.int (11 : Int32)) rfl (.int (11 : Int32)) rfl) ?_⟩
  show Steps p.tables e below (s₁.setTop (mkF m 0 #[.val (.int (0 : Int32)), .val (.int (11 : Int32)), .val (.int (11 : Int32))] [])) _
  refine XS.iloadN X0.here hx rfl (hb hby d5_0) rfl ?_
  refine XS.iloadN X0.here hx rfl (hb hby d5_1) rfl ?_
  refine XS.iloadN X0.here hx rfl (hb hby d5_2) rfl ?_
  refine st1 _ ?_
  refine st2 _ ?_
  show Steps p.tables e below (T2.setTop (mkF m 9 #[.val (.int (0 : Int32)), .val (.int (11 : Int32)), .val (.int (11 : Int32))] [(.int (0 : Int32))])) _
  exact retI X2 hx hret (hb hby d5_9) hr
theorem lf_51 : ((0 : Int32) + (11 : Int32)) = (11 : Int32) := by decide
theorem d8_17 : decode jdk_65_method_132_code 17 = .ok (.aload_n 0, 1) := by decide +kernel
theorem d8_18 : decode jdk_65_method_132_code 18 = .ok (.invokevirtual 310, 3) := by decide +kernel
theorem d8_21 : decode jdk_65_method_132_code 21 = .ok (.checkcast 311, 3) := by decide +kernel
theorem d8_24 : decode jdk_65_method_132_code 24 = .ok (.areturn, 1) := by decide +kernel
def Qd_31 (Z : State) (w : Nat → Addr) (kk : Nat → ClassId) (iw : Nat → Int32) (vw : Nat → Value) (o1 : Addr) (vl_o1 : List Value) (kc_o1 : ClassId) (h0 : Heap) (n0 : Nat) (v : Option Value) (h : Heap) (L : List Loc) : Prop := ∃ (c1 : Addr) (kc1 : ClassId) (vx1 : List Value), v = some (.ref c1) ∧ Fr n0 L ∧ Keep h0 h [] ∧ h0.size ≤ c1 ∧ Arv Z h c1 kc1 .byte (11 : Int32) vx1 (.int (0 : Int32)) ∧ Exa Z h c1 "[B"
set_option maxRecDepth 65536 in
set_option maxHeartbeats 40000000 in
theorem rm_92 (l : Launch) (Z : State) (a0 : Array Value) (hw : ∀ d ∈ tables_1, d.before a0 Z = true) (w : Nat → Addr) (kk : Nat → ClassId) (iw : Nat → Int32) (vw : Nat → Value) (hN : Wd Z w kk iw vw) (ws : List Jvm.Cond) (o1 : Addr) (vl_o1 : List Value) (kc_o1 : ClassId) (h0 : Heap) (O0 : Old Z Z.heap.size h0) (gn_o1 : Z.heap.size ≤ o1) (lt_o1 : o1 < h0.size) (E_o1 : Exa Z h0 o1 "[B") (V_o1 : Arv Z h0 o1 kc_o1 .byte (11 : Int32) vl_o1 (.int (0 : Int32))) :
    Met l Z (⟨s_2, "copyOfRange", "([BII)[B"⟩ : MethodName) (Jvm.Cond.code (⟨s_2, "copyOfRange", "([BII)[B"⟩ : MethodName) jdk_65_method_132_code 3 (some (.array .byte))) ws (Rm 1 1 11 14) #[(.ref o1), (.int (0 : Int32)), (.int (11 : Int32))] h0 (Qd_31 Z w kk iw vw o1 vl_o1 kc_o1 h0 Z.heap.size) := by
  have hN' := hN
  obtain ⟨hS0, hE0, hS1, hE1, hS2, hE2, hI0, hJ0, hR0, hRr0, hEq0⟩ := hN'
  refine own_body (plainFor_of_name pn_4) hisR ?_
  intro p e s m below meth c s₁ hx hby hml hown hnm hret X0 hZ e0
  have N0 := Fr.nil Z.heap.size
  have K0 : Keep h0 h0 [] := Keep.refl _ _
  obtain ⟨cl1, Ar1, q1, Sz1, Ng1, Hv1, Gv1⟩ := id V_o1
  obtain ⟨T2, h2, X2, e2, E2, A2, AE2, st2⟩ := cloneH X0 hx hZ hown (W hw 100 rfl) (W hw 101 rfl) (W hw 105 rfl) (W hw 103 rfl) (W hw 104 rfl) (W hw 106 rfl) e0 V_o1.arh E_o1 (g := (mkF m 18 #[.val (.ref o1), .val (.int (0 : Int32)), .val (.int (11 : Int32))] [(.ref o1)])) rfl (by rw [hml]; rfl) rfl (hb hby d8_18) (by decide) (W := 0) (cap := 11) (by show 2 * 0 + _ ≤ _; exact Nat.le_of_eq rfl) (by decide) (by decide) (by decide) (by decide)
  obtain ⟨b2, g2⟩ : ∃ z, z = h0.size := ⟨_, rfl⟩
  rw [← g2] at A2 st2 AE2
  have gn_b2 : Z.heap.size ≤ b2 := Nat.le_trans O0.2.1 (Nat.le_of_eq g2.symm)
  have sz_b2 : h0.size ≤ b2 := Nat.le_trans K0.1 (Nat.le_of_eq g2.symm)
  have ne_o1_b2 : o1 ≠ b2 := Nat.ne_of_lt (Nat.lt_of_lt_of_le E_o1.lt (Nat.le_of_eq g2.symm))
  have E_o1_v2 := E_o1.ext E2
  have V_o1_v2 := V_o1.ext E2
  have O2 := O0.ext E2
  have K2 := K0.ext E2
  have V_b2_v2 : Arv Z h2 b2 kc_o1 .byte (11 : Int32) vl_o1 (.int (0 : Int32)) := A2
  have E_b2_v2 := AE2
  obtain ⟨T3, X3, e3, st3⟩ := castY X2 hx hZ hown (W hw 107 rfl) e2 (Ins.self E_b2_v2) (g := (mkF m 21 #[.val (.ref o1), .val (.int (0 : Int32)), .val (.int (11 : Int32))] [(.ref b2)])) rfl rfl (hb hby d8_21)
  refine ⟨T3, some (.ref b2), _, _, _, by decide, by decide, X3, nofun, (by rw [e3]; exact ⟨b2, kc_o1, vl_o1, rfl, N0, K2, sz_b2, V_b2_v2, E_b2_v2⟩), fun fs hr => castTop (ef_6 m (.ref o1) rfl (.int (0 : Int32)) rfl (.int (11 : Int32)) rfl) ?_⟩
  show Steps p.tables e below (s₁.setTop (mkF m 0 #[.val (.ref o1), .val (.int (0 : Int32)), .val (.int (11 : Int32))] [])) _
  refine XS.iloadN X0.here hx rfl (hb hby d8_0) rfl ?_
  refine XS.ifNo X0.here hx rfl (hb hby d8_1) rfl ((if0 _ _).trans (teq (by decide : (0 : Int32) = (0 : Int32))).2) ?_
  refine XS.iloadN X0.here hx rfl (hb hby d8_4) rfl ?_
  refine XS.aloadN X0.here hx rfl (hb hby d8_5) rfl rfl ?_
  refine X0.arraylength hx (by rw [e0]; exact Ar1.1) (State.isArrayOf_alike hZ.alike Ar1.2.1) (g := (mkF m 6 #[.val (.ref o1), .val (.int (0 : Int32)), .val (.int (11 : Int32))] [(.ref o1), (.int (11 : Int32))])) rfl rfl (hb hby d8_6) _ ?_
  rw [len_of Sz1 Ng1]
  refine XS.icmpYes X0.here hx rfl (pc0 := 7) (pc' := 17) rfl (hb hby d8_7) rfl (teq (by decide : (11 : Int32) = (11 : Int32))).1 (by decide) (by decide) ?_
  refine XS.aloadN X0.here hx rfl (hb hby d8_17) rfl rfl ?_
  refine st2 _ ?_
  refine st3 _ ?_
  show Steps p.tables e below (T3.setTop (mkF m 24 #[.val (.ref o1), .val (.int (0 : Int32)), .val (.int (11 : Int32))] [(.ref b2)])) _
  exact retOut X3 hx hret rfl (Or.inr (Or.inr (Or.inr (Or.inr ⟨rfl, rfl, rfl⟩)))) (hb hby d8_24) hr
def Qd_32 (Z : State) (w : Nat → Addr) (kk : Nat → ClassId) (iw : Nat → Int32) (vw : Nat → Value) (o1 : Addr) (o2 : Addr) (vl_o2 : List Value) (kc_o2 : ClassId) (h0 : Heap) (n0 : Nat) (v : Option Value) (h : Heap) (L : List Loc) : Prop := ∃ (c1 : Addr) (kc1 : ClassId) (vx1 : List Value), v = none ∧ Fr n0 L ∧ Keep h0 h [o1] ∧ h0.size ≤ c1 ∧ Exa Z h o1 s_0 ∧ Fld Z h o1 s_0 "value" "[B" (.ref c1) ∧ Fld Z h o1 s_0 "coder" "B" (.int (0 : Int32)) ∧ Arv Z h c1 kc1 .byte (11 : Int32) vx1 (.int (0 : Int32)) ∧ Exa Z h c1 "[B"
set_option maxRecDepth 65536 in
set_option maxHeartbeats 40000000 in
theorem rm_93 (l : Launch) (Z : State) (a0 : Array Value) (hw : ∀ d ∈ tables_1, d.before a0 Z = true) (w : Nat → Addr) (kk : Nat → ClassId) (iw : Nat → Int32) (vw : Nat → Value) (hN : Wd Z w kk iw vw) (ws : List Jvm.Cond) (o1 : Addr) (o2 : Addr) (vl_o2 : List Value) (kc_o2 : ClassId) (h0 : Heap) (O0 : Old Z Z.heap.size h0) (gn_o1 : Z.heap.size ≤ o1) (lt_o1 : o1 < h0.size) (gn_o2 : Z.heap.size ≤ o2) (lt_o2 : o2 < h0.size) (E_o1 : Exa Z h0 o1 s_0) (F_o1_value : Fld Z h0 o1 s_0 "value" "[B" .null) (F_o1_coder : Fld Z h0 o1 s_0 "coder" "B" (.int (0 : Int32))) (E_o2 : Exa Z h0 o2 "[B") (V_o2 : Arv Z h0 o2 kc_o2 .byte (11 : Int32) vl_o2 (.int (0 : Int32))) (ne_o1_o2 : o1 ≠ o2) :
    Met l Z (⟨s_0, "<init>", s_7⟩ : MethodName) (Jvm.Cond.codeWith (⟨s_0, "<init>", s_7⟩ : MethodName) jdk_42_method_11_code 11 none [(800, 813, 816, 202)]) ws (Rm 2 1 11 29) #[(.ref o1), (.ref (w 0)), (.ref o2), (.int (0 : Int32)), (.int (11 : Int32))] h0 (Qd_32 Z w kk iw vw o1 o2 vl_o2 kc_o2 h0 Z.heap.size) := by
  have hN' := hN
  obtain ⟨hS0, hE0, hS1, hE1, hS2, hE2, hI0, hJ0, hR0, hRr0, hEq0⟩ := hN'
  refine own_body (plainFor_of_name pn_3) hisWith ?_
  intro p e s m below meth c s₁ hx hby hml hown hnm hret X0 hZ e0
  have N0 := Fr.nil Z.heap.size
  have K0 : Keep h0 h0 [o1] := Keep.refl _ _
  obtain ⟨T1, X1, e1, st1⟩ := initO X0 hx hZ hown (W hw 37 rfl) (W hw 38 rfl) (W hw 39 rfl) e0 (g := (mkF m 1 #[.val (.ref o1), .val (.ref (w 0)), .val (.ref o2), .val (.int (0 : Int32)), .val (.int (11 : Int32)), .unset, .unset, .unset, .unset, .unset, .unset] [(.ref o1)])) rfl (by rw [hml]; rfl) rfl (hb hby d7_1) (by decide) (W := 0) (by show 2 * 0 + _ ≤ _; exact Nat.le_of_eq rfl) (by decide)
  obtain ⟨T2, X2, e2, st2⟩ := getS2 X1 hx hZ hown (host := "") (Or.inl (W hw 40 rfl)) Via.refl e1 (hS1.ext O0.2) (g := (mkF m 31 #[.val (.ref o1), .val (.ref (w 0)), .val (.ref o2), .val (.int (0 : Int32)), .val (.int (11 : Int32)), .unset, .unset, .unset, .unset, .unset, .unset] [(.ref (w 0))])) rfl (hb hby d7_31)
  obtain ⟨T3, X3, e3, st3⟩ := getS2 X2 hx hZ hown (host := "") (Or.inl (W hw 42 rfl)) Via.refl e2 (hS2.ext O0.2) (g := (mkF m 347 #[.val (.ref o1), .val (.ref (w 0)), .val (.ref o2), .val (.int (0 : Int32)), .val (.int (11 : Int32)), .unset, .unset, .unset, .unset, .unset, .unset] [(.ref (w 0))])) rfl (hb hby d7_347)
  obtain ⟨T4, X4, e4, st4⟩ := getS2 X3 hx hZ hown (host := "") (Or.inl (W hw 44 rfl)) Via.refl e3 (hI0.ext O0.2) (g := (mkF m 353 #[.val (.ref o1), .val (.ref (w 0)), .val (.ref o2), .val (.int (0 : Int32)), .val (.int (11 : Int32)), .unset, .unset, .unset, .unset, .unset, .unset] [])) rfl (hb hby d7_353)
  obtain ⟨_, _, ⟨T5, L5, k5, n5⟩, -, X5, ⟨Lc5, hQ5, l5, y5, z5⟩, st5⟩ := Jvm.LawKit.callS X4 hx (y := (⟨s_2, "copyOfRange", "([BII)[B"⟩ : MethodName)) hown (mvT hZ (W hw 45 rfl)) (mvT hZ (W hw 46 rfl)) (mvT hZ (W hw 47 rfl)) (mvT hZ (W hw 48 rfl)) (by decide) (backOf (W := 1) (rm_92 l Z a0 hw w kk iw vw hN [] o2 vl_o2 kc_o2 h0 O0 gn_o2 E_o2.lt E_o2 V_o2) hZ (W hw 48 rfl) (W hw 47 rfl) (by decide) (by decide)) (g := (mkF m 366 #[.val (.ref o1), .val (.ref (w 0)), .val (.ref o2), .val (.int (0 : Int32)), .val (.int (11 : Int32)), .unset, .unset, .unset, .unset, .unset, .unset] [(.int (11 : Int32)), (.int (0 : Int32)), (.ref o2), (.ref o1)])) rfl (by rw [hml]; rfl) (argsL := [(.ref o2), (.int (0 : Int32)), (.int (11 : Int32))]) (rest := [(.ref o1)]) (lenOf pd_6 rfl) rfl (by show 2 * 0 + _ ≤ _; exact Nat.le_of_eq rfl) (hb hby d7_366) (fun _ _ => ⟨rfl, e4, (by decide : 0 + 1 ≤ _), (by decide : 0 + 11 ≤ _)⟩)
  dsimp only [Pt.U, Pt.locs, Pt.cells, Pt.slots] at X5 l5 y5 z5 st5 hQ5
  subst l5 y5 z5
  obtain ⟨b5_0, kb5_0, vl5_0, rfl, N5q, Kq5, tk5_0, tk5_1, tk5_2⟩ := hQ5
  have N5 := Fr.app N0 N5q
  have gn_b5_0 : Z.heap.size ≤ b5_0 := Nat.le_trans O0.2.1 tk5_0
  have sz_b5_0 : h0.size ≤ b5_0 := Nat.le_trans K0.1 tk5_0
  have ne_o2_b5_0 : o2 ≠ b5_0 := Nat.ne_of_lt (Nat.lt_of_lt_of_le E_o2.lt tk5_0)
  have ne_o1_b5_0 : o1 ≠ b5_0 := Nat.ne_of_lt (Nat.lt_of_lt_of_le E_o1.lt tk5_0)
  have E_o1_v5 := E_o1.keep Kq5
  have F_o1_value_v5 := F_o1_value.keep Kq5 nin0
  have F_o1_coder_v5 := F_o1_coder.keep Kq5 nin0
  have E_o2_v5 := E_o2.keep Kq5
  have V_o2_v5 := V_o2.keep Kq5 nin0
  have O5 := O0.keep Kq5 all0
  have K5 : Keep h0 T5.heap [o1] := K0.trans Kq5 all0
  obtain ⟨T6, h6, X6, e6, W6, st6⟩ := putF X5 hx hZ hown (host := "") (Or.inl (W hw 63 rfl)) Via.refl rfl F_o1_value_v5 E_o1_v5 (Or.inr ⟨(W hw 64 rfl), rfl, hnm⟩) (W hw 12 rfl) (ty := (.array .byte)) (by decide) rfl rfl (g := (mkF m 369 #[.val (.ref o1), .val (.ref (w 0)), .val (.ref o2), .val (.int (0 : Int32)), .val (.int (11 : Int32)), .unset, .unset, .unset, .unset, .unset, .unset] [(.ref b5_0), (.ref o1)])) rfl rfl (hb hby d7_369)
  have F_o1_value_v6 := F_o1_value_v5.same W6
  have N6 := Fr.snoc X6 N5 gn_o1
  have E_o1_v6 := E_o1_v5.wr W6
  have F_o1_coder_v6 := F_o1_coder_v5.other W6 (Or.inr (sn_0 hw))
  have E_o2_v6 := E_o2_v5.wr W6
  have V_o2_v6 := V_o2_v5.other W6 (Ne.symm ne_o1_o2)
  have tk5_1_v6 := tk5_1.other W6 (Ne.symm ne_o1_b5_0)
  have tk5_2_v6 := tk5_2.wr W6
  have O6 := O5.wr W6 gn_o1
  have K6 : Keep h0 h6 [o1] := K5.wr W6 (Or.inl (List.mem_of_getElem? (i := 0) rfl))
  obtain ⟨T7, h7, X7, e7, W7, st7⟩ := putFN X6 hx hZ hown (W hw 65 rfl) Via.refl e6 F_o1_coder_v6 E_o1_v6 (Or.inr ⟨(W hw 66 rfl), rfl, hnm⟩) (W hw 12 rfl) (ty := .byte) (v' := (.int (0 : Int32))) (by decide) rfl rfl (g := (mkF m 374 #[.val (.ref o1), .val (.ref (w 0)), .val (.ref o2), .val (.int (0 : Int32)), .val (.int (11 : Int32)), .unset, .unset, .unset, .unset, .unset, .unset] [(.int (0 : Int32)), (.ref o1)])) rfl rfl (hb hby d7_374)
  have F_o1_coder_v7 := F_o1_coder_v6.same W7
  have N7 := Fr.snoc X7 N6 gn_o1
  have E_o1_v7 := E_o1_v6.wr W7
  have F_o1_value_v7 := F_o1_value_v6.other W7 (Or.inr (sn_1 hw))
  have E_o2_v7 := E_o2_v6.wr W7
  have V_o2_v7 := V_o2_v6.other W7 (Ne.symm ne_o1_o2)
  have tk5_1_v7 := tk5_1_v6.other W7 (Ne.symm ne_o1_b5_0)
  have tk5_2_v7 := tk5_2_v6.wr W7
  have O7 := O6.wr W7 gn_o1
  have K7 : Keep h0 h7 [o1] := K6.wr W7 (Or.inl (List.mem_of_getElem? (i := 0) rfl))
  refine ⟨T7, none, _, _, _, by decide, by decide, X7, (fun _ => rfl), (by rw [e7]; exact ⟨b5_0, kb5_0, vl5_0, rfl, N7, K7, sz_b5_0, E_o1_v7, F_o1_value_v7, F_o1_coder_v7, tk5_1_v7, tk5_2_v7⟩), fun fs hr => castTop (ef_7 m (.ref o1) rfl (.ref (w 0)) rfl (.ref o2) rfl (.int (0 : Int32)) rfl (.int (11 : Int32)) rfl) ?_⟩
  show Steps p.tables e below (s₁.setTop (mkF m 0 #[.val (.ref o1), .val (.ref (w 0)), .val (.ref o2), .val (.int (0 : Int32)), .val (.int (11 : Int32)), .unset, .unset, .unset, .unset, .unset, .unset] [])) _
  refine XS.aloadN X0.here hx rfl (hb hby d7_0) rfl rfl ?_
  refine st1 _ ?_
  refine XS.iload X1.here hx rfl (hb hby d7_4) rfl ?_
  refine XS.ifYes X1.here hx rfl (pc0 := 6) (pc' := 30) rfl (hb hby d7_6) rfl ((if0 _ _).trans (feq (by decide : ¬ ((11 : Int32) = (0 : Int32)))).2) (by decide) (by decide) ?_
  refine XS.aloadN X1.here hx rfl (hb hby d7_30) rfl rfl ?_
  refine st2 _ ?_
  refine Jvm.RoadKit.acmp (g := (mkF m 34 #[.val (.ref o1), .val (.ref (w 0)), .val (.ref o2), .val (.int (0 : Int32)), .val (.int (11 : Int32)), .unset, .unset, .unset, .unset, .unset, .unset] [(.ref (w 1)), (.ref (w 0))])) X2 hx rfl rfl rfl (pc0 := 34) (pc' := 346) (same := false) rfl (hb hby d7_34) rfl (decide_eq_false fun q => (ne_exa hE0 hE1 (by decide)) (Value.ref.inj q)) (by decide) (by decide) ?_
  refine XS.aloadN X2.here hx rfl (hb hby d7_346) rfl rfl ?_
  refine st3 _ ?_
  refine Jvm.RoadKit.acmp (g := (mkF m 350 #[.val (.ref o1), .val (.ref (w 0)), .val (.ref o2), .val (.int (0 : Int32)), .val (.int (11 : Int32)), .unset, .unset, .unset, .unset, .unset, .unset] [(.ref (w 2)), (.ref (w 0))])) X3 hx rfl rfl rfl (pc0 := 350) (pc' := 353) (same := true) rfl (hb hby d7_350) rfl (decide_eq_true (congrArg Value.ref hEq0)) (by decide) (by decide) ?_
  show Steps p.tables e below (T3.setTop (mkF m 353 #[.val (.ref o1), .val (.ref (w 0)), .val (.ref o2), .val (.int (0 : Int32)), .val (.int (11 : Int32)), .unset, .unset, .unset, .unset, .unset, .unset] [])) _
  refine st4 _ ?_
  refine XS.ifNo X4.here hx rfl (hb hby d7_356) rfl ((if0 _ _).trans (feq hJ0).1) ?_
  refine XS.aloadN X4.here hx rfl (hb hby d7_359) rfl rfl ?_
  refine XS.aloadN X4.here hx rfl (hb hby d7_360) rfl rfl ?_
  refine XS.iloadN X4.here hx rfl (hb hby d7_361) rfl ?_
  refine XS.iloadN X4.here hx rfl (hb hby d7_362) rfl ?_
  refine XS.iload X4.here hx rfl (hb hby d7_363) rfl ?_
  refine XS.iadd X4.here hx rfl (hb hby d7_365) rfl ?_
  show Steps p.tables e below (T4.setTop (mkF m 366 #[.val (.ref o1), .val (.ref (w 0)), .val (.ref o2), .val (.int (0 : Int32)), .val (.int (11 : Int32)), .unset, .unset, .unset, .unset, .unset, .unset] [(.int ((0 : Int32) + (11 : Int32))), (.int (0 : Int32)), (.ref o2), (.ref o1)])) _
  rw [lf_51]
  refine st5 _ ?_
  refine st6 _ ?_
  show Steps p.tables e below (T6.setTop (mkF m 372 #[.val (.ref o1), .val (.ref (w 0)), .val (.ref o2), .val (.int (0 : Int32)), .val (.int (11 : Int32)), .unset, .unset, .unset, .unset, .unset, .unset] [])) _
  refine XS.aloadN X6.here hx rfl (hb hby d7_372) rfl rfl ?_
  refine XS.iconst X6.here hx rfl (hb hby d7_373) ?_
  refine st7 _ ?_
  refine XS.goto X7.here hx rfl (pc0 := 377) (pc' := 879) rfl (hb hby d7_377) (by decide) (by decide) ?_
  show Steps p.tables e below (T7.setTop (mkF m 879 #[.val (.ref o1), .val (.ref (w 0)), .val (.ref o2), .val (.int (0 : Int32)), .val (.int (11 : Int32)), .unset, .unset, .unset, .unset, .unset, .unset] [])) _
  exact X7.returnOut hx hret (hb hby d7_879) hr
set_option maxRecDepth 65536 in
set_option maxHeartbeats 40000000 in
theorem rm_94 (l : Launch) (Z : State) (a0 : Array Value) (hw : ∀ d ∈ tables_1, d.before a0 Z = true) (w : Nat → Addr) (kk : Nat → ClassId) (iw : Nat → Int32) (vw : Nat → Value) (hN : Wd Z w kk iw vw) (ws : List Jvm.Cond) (o1 : Addr) (o2 : Addr) (vl_o2 : List Value) (kc_o2 : ClassId) (h0 : Heap) (O0 : Old Z Z.heap.size h0) (gn_o1 : Z.heap.size ≤ o1) (lt_o1 : o1 < h0.size) (gn_o2 : Z.heap.size ≤ o2) (lt_o2 : o2 < h0.size) (E_o1 : Exa Z h0 o1 s_0) (F_o1_value : Fld Z h0 o1 s_0 "value" "[B" .null) (F_o1_coder : Fld Z h0 o1 s_0 "coder" "B" (.int (0 : Int32))) (E_o2 : Exa Z h0 o2 "[B") (V_o2 : Arv Z h0 o2 kc_o2 .byte (11 : Int32) vl_o2 (.int (0 : Int32))) (ne_o1_o2 : o1 ≠ o2) :
    Met l Z (⟨s_0, "<init>", s_8⟩ : MethodName) (Jvm.Cond.code (⟨s_0, "<init>", s_8⟩ : MethodName) jdk_42_method_10_code 5 none) ws (Rm 3 1 11 51) #[(.ref o1), (.ref o2), (.int (0 : Int32)), (.int (11 : Int32)), (.ref (w 0))] h0 (Qd_32 Z w kk iw vw o1 o2 vl_o2 kc_o2 h0 Z.heap.size) := by
  have hN' := hN
  obtain ⟨hS0, hE0, hS1, hE1, hS2, hE2, hI0, hJ0, hR0, hRr0, hEq0⟩ := hN'
  refine own_body (plainFor_of_name pn_3) hisR ?_
  intro p e s m below meth c s₁ hx hby hml hown hnm hret X0 hZ e0
  have N0 := Fr.nil Z.heap.size
  have K0 : Keep h0 h0 [o1] := Keep.refl _ _
  obtain ⟨_, _, ⟨T1, L1, k1, n1⟩, -, X1, ⟨Lc1, hQ1, l1, y1, z1⟩, st1⟩ := Jvm.LawKit.callS X0 hx (y := (⟨s_16, s_17, s_12⟩ : MethodName)) hown (mvT hZ (W hw 19 rfl)) (mvT hZ (W hw 20 rfl)) (mvT hZ (W hw 21 rfl)) (mvT hZ (W hw 22 rfl)) (by decide) (backOf (W := 1) (rm_3 l Z a0 hw w kk iw vw hN [] h0 O0) hZ (W hw 22 rfl) (W hw 21 rfl) (by decide) (by decide)) (g := (mkF m 3 #[.val (.ref o1), .val (.ref o2), .val (.int (0 : Int32)), .val (.int (11 : Int32)), .val (.ref (w 0))] [(.ref (w 0)), (.ref o1)])) rfl (by rw [hml]; rfl) (argsL := [(.ref (w 0))]) (rest := [(.ref o1)]) (lenOf pd_1 rfl) rfl (by show 2 * 0 + _ ≤ _; exact Nat.le_of_eq rfl) (hb hby d3_3) (fun _ _ => ⟨rfl, e0, (by decide : 0 + 0 ≤ _), (by decide : 0 + 0 ≤ _)⟩)
  dsimp only [Pt.U, Pt.locs, Pt.cells, Pt.slots] at X1 l1 y1 z1 st1 hQ1
  subst l1 y1 z1
  obtain ⟨rfl, N1q, e1⟩ := hQ1
  have N1 := Fr.app N0 N1q
  obtain ⟨T2, X2, e2, st2⟩ := castY X1 hx hZ hown (W hw 23 rfl) e1 (Ins.of_exa (hE0.ext O0.2) (W hw 24 rfl)) (g := (mkF m 6 #[.val (.ref o1), .val (.ref o2), .val (.int (0 : Int32)), .val (.int (11 : Int32)), .val (.ref (w 0))] [(.ref (w 0)), (.ref o1)])) rfl rfl (hb hby d3_6)
  obtain ⟨cl3, Ar3, q3, Sz3, Ng3, Hv3, Gv3⟩ := id V_o2
  obtain ⟨_, _, ⟨T4, L4, k4, n4⟩, -, X4, ⟨Lc4, hQ4, l4, y4, z4⟩, st4⟩ := Jvm.LawKit.callS X2 hx (y := (⟨s_0, s_10, "(III)I"⟩ : MethodName)) hown (mvT hZ (W hw 25 rfl)) (mvT hZ (W hw 26 rfl)) (mvT hZ (W hw 13 rfl)) (mvT hZ (W hw 27 rfl)) (by decide) (backOf (W := 3) (rm_91 l Z a0 hw w kk iw vw hN [] h0 O0) hZ (W hw 27 rfl) (W hw 13 rfl) (by decide) (by decide)) (g := (mkF m 14 #[.val (.ref o1), .val (.ref o2), .val (.int (0 : Int32)), .val (.int (11 : Int32)), .val (.ref (w 0))] [(.int (11 : Int32)), (.int (11 : Int32)), (.int (0 : Int32)), (.ref o2), (.ref (w 0)), (.ref o1)])) rfl (by rw [hml]; rfl) (argsL := [(.int (0 : Int32)), (.int (11 : Int32)), (.int (11 : Int32))]) (rest := [(.ref o2), (.ref (w 0)), (.ref o1)]) (lenOf pd_3 rfl) rfl (by show 2 * 0 + _ ≤ _; exact Nat.le_of_eq rfl) (hb hby d3_14) (fun _ _ => ⟨rfl, e2, (by decide : 0 + 0 ≤ _), (by decide : 0 + 0 ≤ _)⟩)
  dsimp only [Pt.U, Pt.locs, Pt.cells, Pt.slots] at X4 l4 y4 z4 st4 hQ4
  subst l4 y4 z4
  obtain ⟨rfl, N4q, e4⟩ := hQ4
  have N4 := Fr.app N1 N4q
  obtain ⟨_, _, ⟨T5, L5, k5, n5⟩, -, X5, ⟨Lc5, hQ5, l5, y5, z5⟩, st5⟩ := X4.specialBackH hx (y := (⟨s_0, "<init>", s_7⟩ : MethodName)) rfl hown (mvT hZ (W hw 33 rfl)) (mvT hZ (W hw 34 rfl)) (mvT hZ (W hw 36 rfl)) (by decide) (backOfWith (W := 0) (rm_93 l Z a0 hw w kk iw vw hN [] o1 o2 vl_o2 kc_o2 h0 O0 gn_o1 E_o1.lt gn_o2 E_o2.lt E_o1 F_o1_value F_o1_coder E_o2 V_o2 ne_o1_o2) hZ (W hw 36 rfl) (W hw 13 rfl) (by decide) (by decide)) (g := (mkF m 18 #[.val (.ref o1), .val (.ref o2), .val (.int (0 : Int32)), .val (.int (11 : Int32)), .val (.ref (w 0))] [(.int (11 : Int32)), (.int (0 : Int32)), (.ref o2), (.ref (w 0)), (.ref o1)])) rfl (by rw [hml]; rfl) (Steps.refl _) (a := o1) (argsL := [(.ref (w 0)), (.ref o2), (.int (0 : Int32)), (.int (11 : Int32))]) (rest := []) (lenOf pd_7 rfl) rfl (by show 2 * 0 + _ ≤ _; exact Nat.le_of_eq rfl) (hb hby d3_18) (fun _ _ => ⟨rfl, e4, (by decide : 0 + 1 ≤ _), (by decide : 0 + 11 ≤ _)⟩)
  dsimp only [Pt.U, Pt.locs, Pt.cells, Pt.slots] at X5 l5 y5 z5 st5 hQ5
  subst l5 y5 z5
  obtain ⟨b5_0, kb5_0, vl5_0, rfl, N5q, Kq5, tk5_0, tk5_1, tk5_2, tk5_3, tk5_4, tk5_5⟩ := hQ5
  have N5 := Fr.app N4 N5q
  have gn_b5_0 : Z.heap.size ≤ b5_0 := Nat.le_trans O0.2.1 tk5_0
  have sz_b5_0 : h0.size ≤ b5_0 := Nat.le_trans K0.1 tk5_0
  have ne_o2_b5_0 : o2 ≠ b5_0 := Nat.ne_of_lt (Nat.lt_of_lt_of_le E_o2.lt tk5_0)
  have ne_o1_b5_0 : o1 ≠ b5_0 := Nat.ne_of_lt (Nat.lt_of_lt_of_le E_o1.lt tk5_0)
  have E_o1_v5 := E_o1.keep Kq5
  have E_o2_v5 := E_o2.keep Kq5
  have V_o2_v5 := V_o2.keep Kq5 (ninS (Ne.symm ne_o1_o2) nin0)
  have O5 := O0.keep Kq5 (allS gn_o1 all0)
  have K5 : Keep h0 T5.heap [o1] := K0.trans Kq5 (allS (Or.inl (List.mem_of_getElem? (i := 0) rfl)) all0)
  refine ⟨T5, none, _, _, _, by decide, by decide, X5, (fun _ => rfl), ⟨b5_0, kb5_0, vl5_0, rfl, N5, K5, sz_b5_0, tk5_1, tk5_2, tk5_3, tk5_4, tk5_5⟩, fun fs hr => castTop (ef_8 m (.ref o1) rfl (.ref o2) rfl (.int (0 : Int32)) rfl (.int (11 : Int32)) rfl (.ref (w 0)) rfl) ?_⟩
  show Steps p.tables e below (s₁.setTop (mkF m 0 #[.val (.ref o1), .val (.ref o2), .val (.int (0 : Int32)), .val (.int (11 : Int32)), .val (.ref (w 0))] [])) _
  refine XS.aloadN X0.here hx rfl (hb hby d3_0) rfl rfl ?_
  refine XS.aload X0.here hx rfl (hb hby d3_1) rfl rfl ?_
  refine st1 _ ?_
  refine st2 _ ?_
  refine XS.aloadN X2.here hx rfl (hb hby d3_9) rfl rfl ?_
  refine XS.iloadN X2.here hx rfl (hb hby d3_10) rfl ?_
  refine XS.iloadN X2.here hx rfl (hb hby d3_11) rfl ?_
  refine XS.aloadN X2.here hx rfl (hb hby d3_12) rfl rfl ?_
  refine X2.arraylength hx (by rw [e2]; exact Ar3.1) (State.isArrayOf_alike hZ.alike Ar3.2.1) (g := (mkF m 13 #[.val (.ref o1), .val (.ref o2), .val (.int (0 : Int32)), .val (.int (11 : Int32)), .val (.ref (w 0))] [(.ref o2), (.int (11 : Int32)), (.int (0 : Int32)), (.ref o2), (.ref (w 0)), (.ref o1)])) rfl rfl (hb hby d3_13) _ ?_
  rw [len_of Sz3 Ng3]
  refine st4 _ ?_
  show Steps p.tables e below (T4.setTop (mkF m 17 #[.val (.ref o1), .val (.ref o2), .val (.int (0 : Int32)), .val (.int (11 : Int32)), .val (.ref (w 0))] [(.int (0 : Int32)), (.ref o2), (.ref (w 0)), (.ref o1)])) _
  refine XS.iloadN X4.here hx rfl (hb hby d3_17) rfl ?_
  refine st5.trans ?_
  show Steps p.tables e below (T5.setTop (mkF m 21 #[.val (.ref o1), .val (.ref o2), .val (.int (0 : Int32)), .val (.int (11 : Int32)), .val (.ref (w 0))] [])) _
  exact X5.returnOut hx hret (hb hby d3_21) hr
def Qd_33 (Z : State) (w : Nat → Addr) (kk : Nat → ClassId) (iw : Nat → Int32) (vw : Nat → Value) (o1 : Addr) (vl_o1 : List Value) (kc_o1 : ClassId) (h0 : Heap) (n0 : Nat) (v : Option Value) (h : Heap) (L : List Loc) : Prop := ∃ (c1 : Addr) (c2 : Addr) (kc1 : ClassId) (vx1 : List Value), v = some (.ref c1) ∧ Fr n0 L ∧ Keep h0 h [] ∧ h0.size ≤ c1 ∧ h0.size ≤ c2 ∧ c1 ≠ c2 ∧ Exa Z h c1 s_0 ∧ Fld Z h c1 s_0 "value" "[B" (.ref c2) ∧ Fld Z h c1 s_0 "coder" "B" (.int (0 : Int32)) ∧ Arv Z h c2 kc1 .byte (11 : Int32) vx1 (.int (0 : Int32)) ∧ Exa Z h c2 "[B"
set_option maxRecDepth 65536 in
set_option maxHeartbeats 40000000 in
theorem rm_95 (l : Launch) (Z : State) (a0 : Array Value) (hw : ∀ d ∈ tables_1, d.before a0 Z = true) (w : Nat → Addr) (kk : Nat → ClassId) (iw : Nat → Int32) (vw : Nat → Value) (hN : Wd Z w kk iw vw) (ws : List Jvm.Cond) (o1 : Addr) (vl_o1 : List Value) (kc_o1 : ClassId) (h0 : Heap) (O0 : Old Z Z.heap.size h0) (gn_o1 : Z.heap.size ≤ o1) (lt_o1 : o1 < h0.size) (E_o1 : Exa Z h0 o1 "[B") (V_o1 : Arv Z h0 o1 kc_o1 .byte (11 : Int32) vl_o1 (.int (0 : Int32))) :
    Met l Z (⟨s_1, "string", s_9⟩ : MethodName) (Jvm.Cond.code (⟨s_1, "string", s_9⟩ : MethodName) prog_22_method_9_code 2 (some (.object s_0))) ws (Rm 4 2 15 68) #[(.ref o1), (.int (11 : Int32))] h0 (Qd_33 Z w kk iw vw o1 vl_o1 kc_o1 h0 Z.heap.size) := by
  have hN' := hN
  obtain ⟨hS0, hE0, hS1, hE1, hS2, hE2, hI0, hJ0, hR0, hRr0, hEq0⟩ := hN'
  refine own_body (plainFor_of_name pn_0) hisR ?_
  intro p e s m below meth c s₁ hx hby hml hown hnm hret X0 hZ e0
  have N0 := Fr.nil Z.heap.size
  have K0 : Keep h0 h0 [] := Keep.refl _ _
  obtain ⟨T1, h1, X1, e1, E1, A1, D1, -, st1⟩ := newO X0 hx hZ hown (W hw 11 rfl) (W hw 12 rfl) (W hw 13 rfl) e0 (g := (mkF m 0 #[.val (.ref o1), .val (.int (11 : Int32))] [])) rfl (hb hby d2_0) (by decide) (by decide)
  obtain ⟨b1, g1⟩ : ∃ z, z = h0.size := ⟨_, rfl⟩
  rw [← g1] at A1 st1 D1
  have gn_b1 : Z.heap.size ≤ b1 := Nat.le_trans O0.2.1 (Nat.le_of_eq g1.symm)
  have sz_b1 : h0.size ≤ b1 := Nat.le_trans K0.1 (Nat.le_of_eq g1.symm)
  have ne_o1_b1 : o1 ≠ b1 := Nat.ne_of_lt (Nat.lt_of_lt_of_le E_o1.lt (Nat.le_of_eq g1.symm))
  have E_o1_v1 := E_o1.ext E1
  have V_o1_v1 := V_o1.ext E1
  have O1 := O0.ext E1
  have K1 := K0.ext E1
  have E_b1_v1 := A1
  have F_b1_value_v1 : Fld Z h1 b1 s_0 "value" "[B" .null := D1 (Or.inr (W hw 64 rfl)) (ty := (.array .byte)) (by decide)
  have F_b1_coder_v1 : Fld Z h1 b1 s_0 "coder" "B" (.int (0 : Int32)) := D1 (Or.inr (W hw 66 rfl)) (ty := .byte) (by decide)
  obtain ⟨T2, X2, e2, st2⟩ := getS2 X1 hx hZ hown (host := "") (Or.inl (W hw 14 rfl)) Via.refl e1 (hS0.ext O1.2) (g := (mkF m 7 #[.val (.ref o1), .val (.int (11 : Int32))] [(.int (11 : Int32)), (.int (0 : Int32)), (.ref o1), (.ref b1), (.ref b1)])) rfl (hb hby d2_7)
  obtain ⟨_, _, ⟨T3, L3, k3, n3⟩, -, X3, ⟨Lc3, hQ3, l3, y3, z3⟩, st3⟩ := X2.specialBack hx (y := (⟨s_0, "<init>", s_8⟩ : MethodName)) rfl hown (mvT hZ (W hw 16 rfl)) (mvT hZ (W hw 17 rfl)) (mvT hZ (W hw 18 rfl)) (by decide) (backOf (W := 1) (rm_94 l Z a0 hw w kk iw vw hN [] b1 o1 vl_o1 kc_o1 h1 O1 gn_b1 E_b1_v1.lt gn_o1 E_o1_v1.lt E_b1_v1 F_b1_value_v1 F_b1_coder_v1 E_o1_v1 V_o1_v1 (Ne.symm ne_o1_b1)) hZ (W hw 18 rfl) (W hw 13 rfl) (by decide) (by decide)) (g := (mkF m 10 #[.val (.ref o1), .val (.int (11 : Int32))] [(.ref (w 0)), (.int (11 : Int32)), (.int (0 : Int32)), (.ref o1), (.ref b1), (.ref b1)])) rfl (by rw [hml]; rfl) (Steps.refl _) (a := b1) (argsL := [(.ref o1), (.int (0 : Int32)), (.int (11 : Int32)), (.ref (w 0))]) (rest := [(.ref b1)]) (lenOf pd_8 rfl) rfl (by show 2 * 0 + _ ≤ _; exact Nat.le_of_eq rfl) (hb hby d2_10) (fun _ _ => ⟨rfl, e2, (by decide : 1 + 1 ≤ _), (by decide : 4 + 11 ≤ _)⟩)
  dsimp only [Pt.U, Pt.locs, Pt.cells, Pt.slots] at X3 l3 y3 z3 st3 hQ3
  subst l3 y3 z3
  obtain ⟨b3_0, kb3_0, vl3_0, rfl, N3q, Kq3, tk3_0, tk3_1, tk3_2, tk3_3, tk3_4, tk3_5⟩ := hQ3
  have N3 := Fr.app N0 N3q
  have gn_b3_0 : Z.heap.size ≤ b3_0 := Nat.le_trans O1.2.1 tk3_0
  have sz_b3_0 : h0.size ≤ b3_0 := Nat.le_trans K1.1 tk3_0
  have ne_b1_b3_0 : b1 ≠ b3_0 := Nat.ne_of_lt (Nat.lt_of_lt_of_le E_b1_v1.lt tk3_0)
  have ne_o1_b3_0 : o1 ≠ b3_0 := Nat.ne_of_lt (Nat.lt_of_lt_of_le E_o1_v1.lt tk3_0)
  have E_o1_v3 := E_o1_v1.keep Kq3
  have V_o1_v3 := V_o1_v1.keep Kq3 (ninS ne_o1_b1 nin0)
  have E_b1_v3 := E_b1_v1.keep Kq3
  have O3 := O1.keep Kq3 (allS gn_b1 all0)
  have K3 : Keep h0 T3.heap [] := K1.trans Kq3 (allS (Or.inr sz_b1) all0)
  refine ⟨T3, some (.ref b1), _, _, _, by decide, by decide, X3, nofun, ⟨b1, b3_0, kb3_0, vl3_0, rfl, N3, K3, sz_b1, sz_b3_0, ne_b1_b3_0, tk3_1, tk3_2, tk3_3, tk3_4, tk3_5⟩, fun fs hr => castTop (ef_9 m (.ref o1) rfl (.int (11 : Int32)) rfl) ?_⟩
  show Steps p.tables e below (s₁.setTop (mkF m 0 #[.val (.ref o1), .val (.int (11 : Int32))] [])) _
  refine st1 _ ?_
  refine XS.dup X1.here hx rfl (hb hby d2_3) rfl rfl ?_
  refine XS.aloadN X1.here hx rfl (hb hby d2_4) rfl rfl ?_
  refine XS.iconst X1.here hx rfl (hb hby d2_5) ?_
  refine XS.iloadN X1.here hx rfl (hb hby d2_6) rfl ?_
  refine st2 _ ?_
  refine st3.trans ?_
  show Steps p.tables e below (T3.setTop (mkF m 13 #[.val (.ref o1), .val (.int (11 : Int32))] [(.ref b1)])) _
  exact retOut X3 hx hret rfl (Or.inr (Or.inr (Or.inr (Or.inr ⟨rfl, rfl, rfl⟩)))) (hb hby d2_13) hr
def Qd_34 (Z : State) (w : Nat → Addr) (kk : Nat → ClassId) (iw : Nat → Int32) (vw : Nat → Value) (p0 : Int32) (h0 : Heap) (n0 : Nat) (v : Option Value) (h : Heap) (L : List Loc) : Prop := ∃ (c1 : Addr) (c2 : Addr) (kc1 : ClassId) (vx1 : List Value), v = some (.ref c1) ∧ Fr n0 L ∧ Keep h0 h [] ∧ h0.size ≤ c1 ∧ h0.size ≤ c2 ∧ c1 ≠ c2 ∧ Exa Z h c1 s_0 ∧ Fld Z h c1 s_0 "value" "[B" (.ref c2) ∧ Fld Z h c1 s_0 "coder" "B" (.int (0 : Int32)) ∧ Arv Z h c2 kc1 .byte (11 : Int32) vx1 (.int (0 : Int32)) ∧ Exa Z h c2 "[B"
set_option maxRecDepth 65536 in
set_option maxHeartbeats 40000000 in
theorem rm_96 (l : Launch) (Z : State) (a0 : Array Value) (hw : ∀ d ∈ tables_1, d.before a0 Z = true) (w : Nat → Addr) (kk : Nat → ClassId) (iw : Nat → Int32) (vw : Nat → Value) (hN : Wd Z w kk iw vw) (ws : List Jvm.Cond) (p0 : Int32) (h0 : Heap) (O0 : Old Z Z.heap.size h0) (hp0 : p0 < (0 : Int32)) (hp1 : ¬ ((p0 / (10000 : Int32)) = (0 : Int32))) (hp2 : ¬ (((p0 / (10000 : Int32)) / (10 : Int32)) = (0 : Int32))) (hp3 : ¬ ((((p0 / (10000 : Int32)) / (10 : Int32)) / (10 : Int32)) = (0 : Int32))) (hp4 : ¬ (((((p0 / (10000 : Int32)) / (10 : Int32)) / (10 : Int32)) / (10 : Int32)) = (0 : Int32))) (hp5 : ¬ ((((((p0 / (10000 : Int32)) / (10 : Int32)) / (10 : Int32)) / (10 : Int32)) / (10 : Int32)) = (0 : Int32))) (hp6 : ¬ (((((((p0 / (10000 : Int32)) / (10 : Int32)) / (10 : Int32)) / (10 : Int32)) / (10 : Int32)) / (10 : Int32)) = (0 : Int32))) (hp7 : (((((((p0 / (10000 : Int32)) / (10 : Int32)) / (10 : Int32)) / (10 : Int32)) / (10 : Int32)) / (10 : Int32)) / (10 : Int32)) = (0 : Int32)) :
    Met l Z (⟨s_1, "yearText", s_4⟩ : MethodName) (Jvm.Cond.code (⟨s_1, "yearText", s_4⟩ : MethodName) prog_22_method_4_code 2 (some (.object s_0))) ws (Rm 5 3 26 81) #[(.int p0)] h0 (Qd_34 Z w kk iw vw p0 h0 Z.heap.size) := by
  have hN' := hN
  obtain ⟨hS0, hE0, hS1, hE1, hS2, hE2, hI0, hJ0, hR0, hRr0, hEq0⟩ := hN'
  refine own_body (plainFor_of_name pn_0) hisR ?_
  intro p e s m below meth c s₁ hx hby hml hown hnm hret X0 hZ e0
  have N0 := Fr.nil Z.heap.size
  have K0 : Keep h0 h0 [] := Keep.refl _ _
  obtain ⟨T1, h1, k1, X1, e1, E1, A1, AE1, st1⟩ := newPE X0 hx hZ (W hw 4 rfl) e0 (g := (mkF m 2 #[.val (.int p0), .unset] [(.int (11 : Int32))])) rfl (hb hby d0_2) rfl (by decide) (cap := 11) (by decide) (by decide) (by decide) (by decide) (ad := "[B") rfl
  obtain ⟨b1, g1⟩ : ∃ z, z = h0.size := ⟨_, rfl⟩
  rw [← g1] at A1 st1 AE1
  have gn_b1 : Z.heap.size ≤ b1 := Nat.le_trans O0.2.1 (Nat.le_of_eq g1.symm)
  have sz_b1 : h0.size ≤ b1 := Nat.le_trans K0.1 (Nat.le_of_eq g1.symm)
  have O1 := O0.ext E1
  have K1 := K0.ext E1
  have E_b1_v1 := AE1
  have V_b1_v1 : Arv Z h1 b1 k1 .byte (11 : Int32) [] (.int (0 : Int32)) := Arv.new A1 (by decide)
  obtain ⟨_, _, ⟨T2, L2, k2, n2⟩, -, X2, ⟨Lc2, hQ2, l2, y2, z2⟩, st2⟩ := Jvm.LawKit.callS X1 hx (y := (⟨s_1, "writeYear", "([BI)I"⟩ : MethodName)) hown (mvT hZ (W hw 5 rfl)) (mvT hZ (W hw 6 rfl)) (mvT hZ (W hw 2 rfl)) (mvT hZ (W hw 7 rfl)) (by decide) (backOf (W := 1) (rm_89 l Z a0 hw w kk iw vw hN [] b1 p0 k1 h1 O1 gn_b1 E_b1_v1.lt E_b1_v1 V_b1_v1 hp0 hp1 hp2 hp3 hp4 hp5 hp6 hp7) hZ (W hw 7 rfl) (W hw 2 rfl) (by decide) (by decide)) (g := (mkF m 8 #[.val (.int p0), .val (.ref b1)] [(.int p0), (.ref b1), (.ref b1)])) rfl (by rw [hml]; rfl) (argsL := [(.ref b1), (.int p0)]) (rest := [(.ref b1)]) (lenOf pd_0 rfl) rfl (by show 2 * 0 + _ ≤ _; exact Nat.le_of_eq rfl) (hb hby d0_8) (fun _ _ => ⟨rfl, e1, (by decide : 1 + 0 ≤ _), (by decide : 11 + 0 ≤ _)⟩)
  dsimp only [Pt.U, Pt.locs, Pt.cells, Pt.slots] at X2 l2 y2 z2 st2 hQ2
  subst l2 y2 z2
  obtain ⟨vl2_0, rfl, N2q, Kq2, tk2_0, tk2_1⟩ := hQ2
  have N2 := Fr.app N0 N2q
  have E_b1_v2 := E_b1_v1.keep Kq2
  have O2 := O1.keep Kq2 (allS gn_b1 all0)
  have K2 : Keep h0 T2.heap [] := K1.trans Kq2 (allS (Or.inr sz_b1) all0)
  obtain ⟨_, _, ⟨T3, L3, k3, n3⟩, -, X3, ⟨Lc3, hQ3, l3, y3, z3⟩, st3⟩ := Jvm.LawKit.callS X2 hx (y := (⟨s_1, "string", s_9⟩ : MethodName)) hown (mvT hZ (W hw 8 rfl)) (mvT hZ (W hw 9 rfl)) (mvT hZ (W hw 2 rfl)) (mvT hZ (W hw 10 rfl)) (by decide) (backOf (W := 0) (rm_95 l Z a0 hw w kk iw vw hN [] b1 vl2_0 k1 T2.heap O2 gn_b1 tk2_0.lt tk2_0 tk2_1) hZ (W hw 10 rfl) (W hw 2 rfl) (by decide) (by decide)) (g := (mkF m 11 #[.val (.int p0), .val (.ref b1)] [(.int (11 : Int32)), (.ref b1)])) rfl (by rw [hml]; rfl) (argsL := [(.ref b1), (.int (11 : Int32))]) (rest := []) (lenOf pd_9 rfl) rfl (by show 2 * 0 + _ ≤ _; exact Nat.le_of_eq rfl) (hb hby d0_11) (fun _ _ => ⟨rfl, rfl, (by decide : 1 + 2 ≤ _), (by decide : 11 + 15 ≤ _)⟩)
  dsimp only [Pt.U, Pt.locs, Pt.cells, Pt.slots] at X3 l3 y3 z3 st3 hQ3
  subst l3 y3 z3
  obtain ⟨b3_0, b3_1, kb3_0, vl3_0, rfl, N3q, Kq3, tk3_0, tk3_1, tk3_2, tk3_3, tk3_4, tk3_5, tk3_6, tk3_7⟩ := hQ3
  have N3 := Fr.app N2 N3q
  have gn_b3_0 : Z.heap.size ≤ b3_0 := Nat.le_trans O2.2.1 tk3_0
  have sz_b3_0 : h0.size ≤ b3_0 := Nat.le_trans K2.1 tk3_0
  have ne_b1_b3_0 : b1 ≠ b3_0 := Nat.ne_of_lt (Nat.lt_of_lt_of_le tk2_0.lt tk3_0)
  have gn_b3_1 : Z.heap.size ≤ b3_1 := Nat.le_trans O2.2.1 tk3_1
  have sz_b3_1 : h0.size ≤ b3_1 := Nat.le_trans K2.1 tk3_1
  have ne_b1_b3_1 : b1 ≠ b3_1 := Nat.ne_of_lt (Nat.lt_of_lt_of_le tk2_0.lt tk3_1)
  have tk2_0_v3 := tk2_0.keep Kq3
  have tk2_1_v3 := tk2_1.keep Kq3 nin0
  have O3 := O2.keep Kq3 all0
  have K3 : Keep h0 T3.heap [] := K2.trans Kq3 all0
  refine ⟨T3, some (.ref b3_0), _, _, _, by decide, by decide, X3, nofun, ⟨b3_0, b3_1, kb3_0, vl3_0, rfl, N3, K3, sz_b3_0, sz_b3_1, tk3_2, tk3_3, tk3_4, tk3_5, tk3_6, tk3_7⟩, fun fs hr => castTop (ef_10 m (.int p0) rfl) ?_⟩
  show Steps p.tables e below (s₁.setTop (mkF m 0 #[.val (.int p0), .unset] [])) _
  refine XS.bipush X0.here hx rfl (hb hby d0_0) ?_
  refine st1 _ ?_
  refine XS.astoreN X1.here hx rfl (hb hby d0_4) rfl rfl (l' := #[.val (.int p0), .val (.ref b1)]) rfl ?_
  refine XS.aloadN X1.here hx rfl (hb hby d0_5) rfl rfl ?_
  refine XS.aloadN X1.here hx rfl (hb hby d0_6) rfl rfl ?_
  refine XS.iloadN X1.here hx rfl (hb hby d0_7) rfl ?_
  refine st2 _ ?_
  refine st3 _ ?_
  show Steps p.tables e below (T3.setTop (mkF m 14 #[.val (.int p0), .val (.ref b1)] [(.ref b3_0)])) _
  exact retOut X3 hx hret rfl (Or.inr (Or.inr (Or.inr (Or.inr ⟨rfl, rfl, rfl⟩)))) (hb hby d0_14) hr
set_option maxRecDepth 65536 in
set_option maxHeartbeats 40000000 in
theorem rm_97 (l : Launch) (Z : State) (a0 : Array Value) (hw : ∀ d ∈ tables_1, d.before a0 Z = true) (w : Nat → Addr) (kk : Nat → ClassId) (iw : Nat → Int32) (vw : Nat → Value) (hN : Wd Z w kk iw vw) (ws : List Jvm.Cond) (o1 : Addr) (o2 : Addr) (vl_o2 : List Value) (kc_o2 : ClassId) (h0 : Heap) (O0 : Old Z Z.heap.size h0) (gn_o1 : Z.heap.size ≤ o1) (lt_o1 : o1 < h0.size) (E_o1 : Exa Z h0 o1 s_0) (gn_o2 : Z.heap.size ≤ o2) (lt_o2 : o2 < h0.size) (F_o1_value : Fld Z h0 o1 s_0 "value" "[B" (.ref o2)) (F_o1_coder : Fld Z h0 o1 s_0 "coder" "B" (.int (0 : Int32))) (V_o2 : Arv Z h0 o2 kc_o2 .byte (11 : Int32) vl_o2 (.int (0 : Int32))) (E_o2 : Exa Z h0 o2 "[B") (ne_o1_o2 : o1 ≠ o2) :
    Met l Z (⟨s_0, "coder", "()B"⟩ : MethodName) (Jvm.Cond.code (⟨s_0, "coder", "()B"⟩ : MethodName) jdk_42_method_152_code 1 (some .byte)) ws (Rm 0 0 0 0) #[(.ref o1)] h0 (OQ (some (.int (0 : Int32))) h0 Z.heap.size) := by
  have hN' := hN
  obtain ⟨hS0, hE0, hS1, hE1, hS2, hE2, hI0, hJ0, hR0, hRr0, hEq0⟩ := hN'
  refine own_body (plainFor_of_name pn_3) hisR ?_
  intro p e s m below meth c s₁ hx hby hml hown hnm hret X0 hZ e0
  have N0 := Fr.nil Z.heap.size
  obtain ⟨T1, X1, e1, st1⟩ := getS2 X0 hx hZ hown (host := "") (Or.inl (W hw 44 rfl)) Via.refl e0 (hI0.ext O0.2) (g := (mkF m 0 #[.val (.ref o1)] [])) rfl (hb hby d13_0)
  obtain ⟨T2, X2, e2, st2⟩ := getF X1 hx hZ hown (host := "") (Or.inl (W hw 65 rfl)) Via.refl e1 F_o1_coder (g := (mkF m 7 #[.val (.ref o1)] [(.ref o1)])) rfl rfl (hb hby d13_7)
  refine ⟨T2, some (.int (0 : Int32)), _, _, _, by decide, by decide, X2, nofun, (by rw [e2]; exact ⟨rfl, N0, rfl⟩), fun fs hr => castTop (ef_1 m (.ref o1) rfl) ?_⟩
  show Steps p.tables e below (s₁.setTop (mkF m 0 #[.val (.ref o1)] [])) _
  refine st1 _ ?_
  refine XS.ifNo X1.here hx rfl (hb hby d13_3) rfl ((if0 _ _).trans (feq hJ0).1) ?_
  refine XS.aloadN X1.here hx rfl (hb hby d13_6) rfl rfl ?_
  refine st2 _ ?_
  refine XS.goto X2.here hx rfl (pc0 := 10) (pc' := 14) rfl (hb hby d13_10) (by decide) (by decide) ?_
  show Steps p.tables e below (T2.setTop (mkF m 14 #[.val (.ref o1)] [(.int (0 : Int32))])) _
  exact retN X2 hx (t := .byte) hret (by simp) (hb hby d13_14) hr
theorem lf_52 : ((11 : Int32) >>> ((0 : Int32) &&& 31)) = (11 : Int32) := by decide
set_option maxRecDepth 65536 in
set_option maxHeartbeats 40000000 in
theorem rm_98 (l : Launch) (Z : State) (a0 : Array Value) (hw : ∀ d ∈ tables_1, d.before a0 Z = true) (w : Nat → Addr) (kk : Nat → ClassId) (iw : Nat → Int32) (vw : Nat → Value) (hN : Wd Z w kk iw vw) (ws : List Jvm.Cond) (o1 : Addr) (o2 : Addr) (vl_o2 : List Value) (kc_o2 : ClassId) (h0 : Heap) (O0 : Old Z Z.heap.size h0) (gn_o1 : Z.heap.size ≤ o1) (lt_o1 : o1 < h0.size) (E_o1 : Exa Z h0 o1 s_0) (gn_o2 : Z.heap.size ≤ o2) (lt_o2 : o2 < h0.size) (F_o1_value : Fld Z h0 o1 s_0 "value" "[B" (.ref o2)) (F_o1_coder : Fld Z h0 o1 s_0 "coder" "B" (.int (0 : Int32))) (V_o2 : Arv Z h0 o2 kc_o2 .byte (11 : Int32) vl_o2 (.int (0 : Int32))) (E_o2 : Exa Z h0 o2 "[B") (ne_o1_o2 : o1 ≠ o2) :
    Met l Z (⟨s_0, "length", "()I"⟩ : MethodName) (Jvm.Cond.code (⟨s_0, "length", "()I"⟩ : MethodName) jdk_42_method_54_code 1 (some .int)) ws (Rm 1 0 0 13) #[(.ref o1)] h0 (OQ (some (.int (11 : Int32))) h0 Z.heap.size) := by
  have hN' := hN
  obtain ⟨hS0, hE0, hS1, hE1, hS2, hE2, hI0, hJ0, hR0, hRr0, hEq0⟩ := hN'
  refine own_body (plainFor_of_name pn_3) hisR ?_
  intro p e s m below meth c s₁ hx hby hml hown hnm hret X0 hZ e0
  have N0 := Fr.nil Z.heap.size
  obtain ⟨T1, X1, e1, st1⟩ := getF X0 hx hZ hown (host := "") (Or.inl (W hw 63 rfl)) Via.refl e0 F_o1_value (g := (mkF m 1 #[.val (.ref o1)] [(.ref o1)])) rfl rfl (hb hby d12_1)
  obtain ⟨cl2, Ar2, q2, Sz2, Ng2, Hv2, Gv2⟩ := id V_o2
  obtain ⟨cq3, kq3, q3a, q3b, q3c⟩ := isOf hZ e1 E_o1
  obtain ⟨_, _, ⟨T3, L3, k3, n3⟩, -, X3, ⟨Lc3, hQ3, l3, y3, z3⟩, st3⟩ := X1.virtualBack hx (y := (⟨s_0, "coder", "()B"⟩ : MethodName)) (z := (⟨s_0, "coder", "()B"⟩ : MethodName)) hown (mvT hZ (W hw 72 rfl)) (mvT hZ (W hw 73 rfl)) (notFace_of_selects (args := #[]) (mvT hZ (W hw 75 rfl))) (mvT hZ (W hw 75 rfl)) (mvT hZ (W hw 74 rfl)) (by decide) (backOf (W := 1) (rm_97 l Z a0 hw w kk iw vw hN [] o1 o2 vl_o2 kc_o2 h0 O0 gn_o1 E_o1.lt E_o1 gn_o2 V_o2.lt F_o1_value F_o1_coder V_o2 E_o2 ne_o1_o2) hZ (W hw 76 rfl) (W hw 13 rfl) (by decide) (by decide)) q3a q3c (g := (mkF m 6 #[.val (.ref o1)] [(.ref o1), (.int (11 : Int32))])) rfl (by rw [hml]; rfl) (Steps.refl _) (argsL := []) (rest := [(.int (11 : Int32))]) (lenOf pd_11 rfl) rfl (by show 2 * 0 + _ ≤ _; exact Nat.le_of_eq rfl) (hb hby d12_6) (fun _ _ => ⟨rfl, e1, (by decide : 0 + 0 ≤ _), (by decide : 0 + 0 ≤ _)⟩)
  dsimp only [Pt.U, Pt.locs, Pt.cells, Pt.slots] at X3 l3 y3 z3 st3 hQ3
  subst l3 y3 z3
  obtain ⟨rfl, N3q, e3⟩ := hQ3
  have N3 := Fr.app N0 N3q
  refine ⟨T3, some (.int (11 : Int32)), _, _, _, by decide, by decide, X3, nofun, (by rw [e3]; exact ⟨rfl, N3, rfl⟩), fun fs hr => castTop (ef_1 m (.ref o1) rfl) ?_⟩
  show Steps p.tables e below (s₁.setTop (mkF m 0 #[.val (.ref o1)] [])) _
  refine XS.aloadN X0.here hx rfl (hb hby d12_0) rfl rfl ?_
  refine st1 _ ?_
  refine X1.arraylength hx (by rw [e1]; exact Ar2.1) (State.isArrayOf_alike hZ.alike Ar2.2.1) (g := (mkF m 4 #[.val (.ref o1)] [(.ref o2)])) rfl rfl (hb hby d12_4) _ ?_
  rw [len_of Sz2 Ng2]
  refine XS.aloadN X1.here hx rfl (hb hby d12_5) rfl rfl ?_
  refine st3.trans ?_
  refine XS.ishr X3.here hx rfl (hb hby d12_9) rfl ?_
  show Steps p.tables e below (T3.setTop (mkF m 10 #[.val (.ref o1)] [(.int ((11 : Int32) >>> ((0 : Int32) &&& 31)))])) _
  rw [lf_52]
  show Steps p.tables e below (T3.setTop (mkF m 10 #[.val (.ref o1)] [(.int (11 : Int32))])) _
  exact retI X3 hx hret (hb hby d12_10) hr
set_option maxRecDepth 65536 in
set_option maxHeartbeats 40000000 in
theorem law_99 (l : Launch) (Z : State) (a0 : Array Value) (hw : ∀ d ∈ tables_1, d.before a0 Z = true) (w : Nat → Addr) (kk : Nat → ClassId) (iw : Nat → Int32) (vw : Nat → Value) (hN : Wd Z w kk iw vw) (ws : List Jvm.Cond) (p0 : Int32) (h0 : Heap) (O0 : Old Z Z.heap.size h0) (hp0 : p0 < (0 : Int32)) (hp1 : ¬ ((p0 / (10000 : Int32)) = (0 : Int32))) (hp2 : ¬ (((p0 / (10000 : Int32)) / (10 : Int32)) = (0 : Int32))) (hp3 : ¬ ((((p0 / (10000 : Int32)) / (10 : Int32)) / (10 : Int32)) = (0 : Int32))) (hp4 : ¬ (((((p0 / (10000 : Int32)) / (10 : Int32)) / (10 : Int32)) / (10 : Int32)) = (0 : Int32))) (hp5 : ¬ ((((((p0 / (10000 : Int32)) / (10 : Int32)) / (10 : Int32)) / (10 : Int32)) / (10 : Int32)) = (0 : Int32))) (hp6 : ¬ (((((((p0 / (10000 : Int32)) / (10 : Int32)) / (10 : Int32)) / (10 : Int32)) / (10 : Int32)) / (10 : Int32)) = (0 : Int32))) (hp7 : (((((((p0 / (10000 : Int32)) / (10 : Int32)) / (10 : Int32)) / (10 : Int32)) / (10 : Int32)) / (10 : Int32)) / (10 : Int32)) = (0 : Int32)) (hp8 : p0 < (1000 : Int32)) :
    MetFree l x (head1 (Jvm.Cond.code x code maxLocals ret :: ws) room_1) (fun a U => a = #[(.int p0)] ∧ Z.Warmed39 U.vm ∧ U.heap = h0) (fun _ _ _ _ _ => True) (fun _ U o U' => ∃ v L, o = .returned v ∧ OL (some (.int (1 : Int32))) Z.heap.size v U'.heap L ∧ FrameEnd U o U' L 16 128) := by
  have hN' := hN
  obtain ⟨hS0, hE0, hS1, hE1, hS2, hE2, hI0, hJ0, hR0, hRr0, hEq0⟩ := hN'
  refine MetFree.of_bodySF (plainFor_of_name pn_5) hisR ?_
  intro p e s m args below meth c s₁ Bd hml0 hP hK
  obtain ⟨rfl, hZ, hh⟩ := hP
  have hx := Bd.exec
  have hby := Bd.bytes
  have hml : c.maxLocals = 3 := hml0
  have hown : s.vm.findClass s_3 = some m.cls := findClass_of_methodNamed Bd.named
  have hnm := (name_of_methodNamed Bd.named Bd.method).1
  have X0 : Stand p l e room_1 s m #[(.int p0)] below meth c s₁ [] 0 0 := Stand.of_body Bd
  have e0 : s₁.heap = h0 := by rw [← hh, Bd.state]; rfl
  have N0 := Fr.nil Z.heap.size
  obtain ⟨_, _, ⟨T1, L1, k1, n1⟩, -, X1, ⟨Lc1, hQ1, l1, y1, z1⟩, st1⟩ := Jvm.LawKit.callS X0 hx (y := (⟨s_1, "yearText", s_4⟩ : MethodName)) hown (mvT hZ (W hw 0 rfl)) (mvT hZ (W hw 1 rfl)) (mvT hZ (W hw 2 rfl)) (mvT hZ (W hw 3 rfl)) (by decide) (backOf (W := 0) (rm_96 l Z a0 hw w kk iw vw hN [] p0 h0 O0 hp0 hp1 hp2 hp3 hp4 hp5 hp6 hp7) hZ (W hw 3 rfl) (W hw 2 rfl) (by decide) (by decide)) (g := (mkF m 1 #[.val (.int p0), .unset, .unset] [(.int p0)])) rfl (by rw [hml]; rfl) (argsL := [(.int p0)]) (rest := []) (lenOf pd_10 rfl) rfl (by show 2 * 0 + _ ≤ _; exact Nat.le_of_eq rfl) (hb hby at_1) (fun _ _ => ⟨rfl, e0, (by decide : 0 + 3 ≤ _), (by decide : 0 + 26 ≤ _)⟩)
  dsimp only [Pt.U, Pt.locs, Pt.cells, Pt.slots] at X1 l1 y1 z1 st1 hQ1
  subst l1 y1 z1
  obtain ⟨b1_0, b1_1, kb1_0, vl1_0, rfl, N1q, Kq1, tk1_0, tk1_1, tk1_2, tk1_3, tk1_4, tk1_5, tk1_6, tk1_7⟩ := hQ1
  have N1 := Fr.app N0 N1q
  have gn_b1_0 : Z.heap.size ≤ b1_0 := Nat.le_trans O0.2.1 tk1_0
  have gn_b1_1 : Z.heap.size ≤ b1_1 := Nat.le_trans O0.2.1 tk1_1
  have O1 := O0.keep Kq1 all0
  obtain ⟨cq2, kq2, q2a, q2b, q2c⟩ := isOf hZ rfl tk1_3
  obtain ⟨_, _, ⟨T2, L2, k2, n2⟩, -, X2, ⟨Lc2, hQ2, l2, y2, z2⟩, st2⟩ := X1.virtualBack hx (y := (⟨s_0, "length", "()I"⟩ : MethodName)) (z := (⟨s_0, "length", "()I"⟩ : MethodName)) hown (mvT hZ (W hw 67 rfl)) (mvT hZ (W hw 68 rfl)) (notFace_of_selects (args := #[]) (mvT hZ (W hw 70 rfl))) (mvT hZ (W hw 70 rfl)) (mvT hZ (W hw 69 rfl)) (by decide) (backOf (W := 0) (rm_98 l Z a0 hw w kk iw vw hN [] b1_0 b1_1 vl1_0 kb1_0 T1.heap O1 gn_b1_0 tk1_3.lt tk1_3 gn_b1_1 tk1_6.lt tk1_4 tk1_5 tk1_6 tk1_7 tk1_2) hZ (W hw 71 rfl) (W hw 13 rfl) (by decide) (by decide)) q2a q2c (g := (mkF m 6 #[.val (.int p0), .val (.ref b1_0), .unset] [(.ref b1_0)])) rfl (by rw [hml]; rfl) (Steps.refl _) (argsL := []) (rest := []) (lenOf pd_12 rfl) rfl (by show 2 * 0 + _ ≤ _; exact Nat.le_of_eq rfl) (hb hby at_6) (fun _ _ => ⟨rfl, rfl, (by decide : 3 + 0 ≤ _), (by decide : 26 + 0 ≤ _)⟩)
  dsimp only [Pt.U, Pt.locs, Pt.cells, Pt.slots] at X2 l2 y2 z2 st2 hQ2
  subst l2 y2 z2
  obtain ⟨rfl, N2q, e2⟩ := hQ2
  have N2 := Fr.app N1 N2q
  obtain ⟨_, _, ⟨T3, L3, k3, n3⟩, -, X3, ⟨Lc3, hQ3, l3, y3, z3⟩, st3⟩ := Jvm.LawKit.callS X2 hx (y := (⟨s_1, s_15, "(I)Z"⟩ : MethodName)) hown (mvT hZ (W hw 97 rfl)) (mvT hZ (W hw 98 rfl)) (mvT hZ (W hw 2 rfl)) (mvT hZ (W hw 99 rfl)) (by decide) (backOf (W := 0) (rm_16 l Z a0 hw w kk iw vw hN [] p0 T1.heap O1 hp8) hZ (W hw 99 rfl) (W hw 2 rfl) (by decide) (by decide)) (g := (mkF m 30 #[.val (.int p0), .val (.ref b1_0), .val (.int (0 : Int32))] [(.int p0)])) rfl (by rw [hml]; rfl) (argsL := [(.int p0)]) (rest := []) (lenOf pd_13 rfl) rfl (by show 2 * 0 + _ ≤ _; exact Nat.le_of_eq rfl) (hb hby at_30) (fun _ _ => ⟨rfl, e2, (by decide : 3 + 0 ≤ _), (by decide : 26 + 0 ≤ _)⟩)
  dsimp only [Pt.U, Pt.locs, Pt.cells, Pt.slots] at X3 l3 y3 z3 st3 hQ3
  subst l3 y3 z3
  obtain ⟨rfl, N3q, e3⟩ := hQ3
  have N3 := Fr.app N2 N3q
  obtain ⟨fs, hr, hrun, hended, hW, hsame⟩ := X3.leave (v := some (.int (1 : Int32))) (fun h => by rw [Bd.returns] at h; cases h)
  refine ⟨_, _, castTop (ef_12 m (.int p0) rfl) ?_, hrun, hended, _, _, rfl, ?_, ⟨_, rfl⟩, hW, hsame.mono (by decide) (by decide)⟩
  · show Steps p.tables e below (s₁.setTop (mkF m 0 #[.val (.int p0), .unset, .unset] [])) _
    refine XS.iloadN X0.here hx rfl (hb hby at_0) rfl ?_
    refine st1 _ ?_
    refine XS.astoreN X1.here hx rfl (hb hby at_4) rfl rfl (l' := #[.val (.int p0), .val (.ref b1_0), .unset]) rfl ?_
    refine XS.aloadN X1.here hx rfl (hb hby at_5) rfl rfl ?_
    refine st2.trans ?_
    refine XS.iconst X2.here hx rfl (hb hby at_9) ?_
    refine XS.icmpYes X2.here hx rfl (pc0 := 10) (pc' := 27) rfl (hb hby at_10) rfl (feq (by decide : ¬ ((11 : Int32) = (4 : Int32)))).2 (by decide) (by decide) ?_
    refine XS.iconst X2.here hx rfl (hb hby at_27) ?_
    refine XS.istoreN X2.here hx rfl (hb hby at_28) rfl (l' := #[.val (.int p0), .val (.ref b1_0), .val (.int (0 : Int32))]) rfl ?_
    refine XS.iloadN X2.here hx rfl (hb hby at_29) rfl ?_
    show Steps p.tables e below (T2.setTop (mkF m 30 #[.val (.int p0), .val (.ref b1_0), .val (.int (0 : Int32))] [(.int p0)])) _
    refine st3 _ ?_
    refine XS.iloadN X3.here hx rfl (hb hby at_33) rfl ?_
    refine XS.icmpNo X3.here hx rfl (hb hby at_34) rfl (teq (by decide : (0 : Int32) = (0 : Int32))).2 ?_
    refine XS.iconst X3.here hx rfl (hb hby at_37) ?_
    refine XS.goto X3.here hx rfl (pc0 := 38) (pc' := 42) rfl (hb hby at_38) (by decide) (by decide) ?_
    show Steps p.tables e below (T3.setTop (mkF m 42 #[.val (.int p0), .val (.ref b1_0), .val (.int (0 : Int32))] [(.int (1 : Int32))])) _
    exact retN X3 hx (t := .boolean) Bd.returns (by simp) (hb hby at_42) hr
  · show OL (some (.int (1 : Int32))) Z.heap.size _ T3.heap _
    exact ⟨rfl, N3⟩
theorem d1_14 : decode prog_22_method_7_code 14 = .ok (.iload_n 1, 1) := by decide +kernel
theorem d1_15 : decode prog_22_method_7_code 15 = .ok (.sipush 9999, 3) := by decide +kernel
theorem d1_18 : decode prog_22_method_7_code 18 = .ok (.if_icmp .le 13, 3) := by decide +kernel
theorem d1_21 : decode prog_22_method_7_code 21 = .ok (.aload_n 0, 1) := by decide +kernel
theorem d1_22 : decode prog_22_method_7_code 22 = .ok (.iconst 0, 1) := by decide +kernel
theorem d1_23 : decode prog_22_method_7_code 23 = .ok (.bipush 43, 2) := by decide +kernel
theorem d1_25 : decode prog_22_method_7_code 25 = .ok (.bastore, 1) := by decide +kernel
theorem d1_26 : decode prog_22_method_7_code 26 = .ok (.iconst 1, 1) := by decide +kernel
theorem d1_27 : decode prog_22_method_7_code 27 = .ok (.istore_n 2, 1) := by decide +kernel
theorem d1_28 : decode prog_22_method_7_code 28 = .ok (.goto 5, 3) := by decide +kernel
theorem d1_41 : decode prog_22_method_7_code 41 = .ok (.iload_n 1, 1) := by decide +kernel
theorem d1_42 : decode prog_22_method_7_code 42 = .ok (.ineg, 1) := by decide +kernel
set_option maxRecDepth 65536 in
set_option maxHeartbeats 40000000 in
theorem rm_100 (l : Launch) (Z : State) (a0 : Array Value) (hw : ∀ d ∈ tables_1, d.before a0 Z = true) (w : Nat → Addr) (kk : Nat → ClassId) (iw : Nat → Int32) (vw : Nat → Value) (hN : Wd Z w kk iw vw) (ws : List Jvm.Cond) (o1 : Addr) (p1 : Int32) (kc_o1 : ClassId) (h0 : Heap) (O0 : Old Z Z.heap.size h0) (gn_o1 : Z.heap.size ≤ o1) (lt_o1 : o1 < h0.size) (E_o1 : Exa Z h0 o1 "[B") (V_o1 : Arv Z h0 o1 kc_o1 .byte (11 : Int32) [] (.int (0 : Int32))) (hp0 : ¬ (p1 < (0 : Int32))) (hp1 : (9999 : Int32) < p1) (hp2 : ¬ (((-p1) / (10000 : Int32)) = (0 : Int32))) (hp3 : (((-p1) / (10000 : Int32)) / (10 : Int32)) = (0 : Int32)) :
    Met l Z (⟨s_1, "writeYear", "([BI)I"⟩ : MethodName) (Jvm.Cond.code (⟨s_1, "writeYear", "([BI)I"⟩ : MethodName) prog_22_method_7_code 7 (some .int)) ws (Rm 0 0 0 0) #[(.ref o1), (.int p1)] h0 (Qd_5 Z w kk iw vw o1 p1 kc_o1 h0 Z.heap.size) := by
  have hN' := hN
  obtain ⟨hS0, hE0, hS1, hE1, hS2, hE2, hI0, hJ0, hR0, hRr0, hEq0⟩ := hN'
  refine own_body (plainFor_of_name pn_0) hisR ?_
  intro p e s m below meth c s₁ hx hby hml hown hnm hret X0 hZ e0
  have N0 := Fr.nil Z.heap.size
  have K0 : Keep h0 h0 [o1] := Keep.refl _ _
  have Vc1 := V_o1
  obtain ⟨cl1, Ar1, q1, Sz1, Ng1, Hv1, Gv1⟩ := Vc1
  have hin1 : ¬ ((0 : Int32) < 0 ∨ cl1.slots.size ≤ ((0 : Int32)).toNatClampNeg) := inb_of Sz1 ⟨(by decide : ¬ ((0 : Int32) < (0 : Int32))), (by decide : (0 : Int32) < (11 : Int32))⟩
  obtain ⟨T2, h2, X2, e2, W2, st2⟩ := stB X0 hx hZ e0 Ar1 (j := (0 : Int32)) hin1 (g := (mkF m 25 #[.val (.ref o1), .val (.int p1), .unset, .unset, .unset, .unset, .unset] [(.int (43 : Int32)), (.int (0 : Int32)), (.ref o1)])) rfl rfl (hb hby d1_25)
  obtain ⟨vl2, V_o1_v2⟩ := own_store V_o1 W2 (fits_nar_byte _) ⟨(by decide : ¬ ((0 : Int32) < (0 : Int32))), (by decide : (0 : Int32) < (11 : Int32))⟩
  have N2 := Fr.snoc X2 N0 gn_o1
  have E_o1_v2 := E_o1.wr W2
  have O2 := O0.wr W2 gn_o1
  have K2 : Keep h0 h2 [o1] := K0.wr W2 (Or.inl (List.mem_of_getElem? (i := 0) rfl))
  obtain ⟨T3, L3, X3, st3, N3, e3⟩ := sg_18 w kk iw vw hN o1 p1 (1 : Int32) (-p1) (5 : Int32) ((-p1) / (10000 : Int32)) vl2 kc_o1 X2 hx hZ hw hby hml hown e2 O2 N2 gn_o1 E_o1_v2.lt E_o1_v2 V_o1_v2 hp2
  obtain ⟨T4, L4, vl4_0, z5_4, X4, st4, N4, Kq4, tk4_0, tk4_1⟩ := sg_1 w kk iw vw hN o1 p1 (1 : Int32) (-p1) (6 : Int32) (-p1) (5 : Int32) vl2 kc_o1 X3 hx hZ hw hby hml hown e3 O2 N3 gn_o1 E_o1_v2.lt E_o1_v2 V_o1_v2 (by decide : ¬ ((5 : Int32) < (1 : Int32))) (by decide : ¬ ((5 : Int32) < (0 : Int32))) (by decide : (5 : Int32) < (11 : Int32))
  have E_o1_v4 := E_o1_v2.keep Kq4
  have O4 := O2.keep Kq4 (allS gn_o1 all0)
  have K4 : Keep h0 T4.heap [o1] := K2.trans Kq4 (allS (Or.inl (List.mem_of_getElem? (i := 0) rfl)) all0)
  obtain ⟨T5, L5, vl5_0, z5_5, X5, st5, N5, Kq5, tk5_0, tk5_1⟩ := sg_1 w kk iw vw hN o1 p1 (1 : Int32) (-p1) (6 : Int32) z5_4 (4 : Int32) vl4_0 kc_o1 X4 hx hZ hw hby hml hown rfl O4 N4 gn_o1 tk4_0.lt tk4_0 tk4_1 (by decide : ¬ ((4 : Int32) < (1 : Int32))) (by decide : ¬ ((4 : Int32) < (0 : Int32))) (by decide : (4 : Int32) < (11 : Int32))
  have tk4_0_v5 := tk4_0.keep Kq5
  have O5 := O4.keep Kq5 (allS gn_o1 all0)
  have K5 : Keep h0 T5.heap [o1] := K4.trans Kq5 (allS (Or.inl (List.mem_of_getElem? (i := 0) rfl)) all0)
  obtain ⟨T6, L6, vl6_0, z5_6, X6, st6, N6, Kq6, tk6_0, tk6_1⟩ := sg_1 w kk iw vw hN o1 p1 (1 : Int32) (-p1) (6 : Int32) z5_5 (3 : Int32) vl5_0 kc_o1 X5 hx hZ hw hby hml hown rfl O5 N5 gn_o1 tk5_0.lt tk5_0 tk5_1 (by decide : ¬ ((3 : Int32) < (1 : Int32))) (by decide : ¬ ((3 : Int32) < (0 : Int32))) (by decide : (3 : Int32) < (11 : Int32))
  have tk5_0_v6 := tk5_0.keep Kq6
  have O6 := O5.keep Kq6 (allS gn_o1 all0)
  have K6 : Keep h0 T6.heap [o1] := K5.trans Kq6 (allS (Or.inl (List.mem_of_getElem? (i := 0) rfl)) all0)
  obtain ⟨T7, L7, vl7_0, z5_7, X7, st7, N7, Kq7, tk7_0, tk7_1⟩ := sg_1 w kk iw vw hN o1 p1 (1 : Int32) (-p1) (6 : Int32) z5_6 (2 : Int32) vl6_0 kc_o1 X6 hx hZ hw hby hml hown rfl O6 N6 gn_o1 tk6_0.lt tk6_0 tk6_1 (by decide : ¬ ((2 : Int32) < (1 : Int32))) (by decide : ¬ ((2 : Int32) < (0 : Int32))) (by decide : (2 : Int32) < (11 : Int32))
  have tk6_0_v7 := tk6_0.keep Kq7
  have O7 := O6.keep Kq7 (allS gn_o1 all0)
  have K7 : Keep h0 T7.heap [o1] := K6.trans Kq7 (allS (Or.inl (List.mem_of_getElem? (i := 0) rfl)) all0)
  obtain ⟨T8, L8, vl8_0, z5_8, X8, st8, N8, Kq8, tk8_0, tk8_1⟩ := sg_1 w kk iw vw hN o1 p1 (1 : Int32) (-p1) (6 : Int32) z5_7 (1 : Int32) vl7_0 kc_o1 X7 hx hZ hw hby hml hown rfl O7 N7 gn_o1 tk7_0.lt tk7_0 tk7_1 (by decide : ¬ ((1 : Int32) < (1 : Int32))) (by decide : ¬ ((1 : Int32) < (0 : Int32))) (by decide : (1 : Int32) < (11 : Int32))
  have tk7_0_v8 := tk7_0.keep Kq8
  have O8 := O7.keep Kq8 (allS gn_o1 all0)
  have K8 : Keep h0 T8.heap [o1] := K7.trans Kq8 (allS (Or.inl (List.mem_of_getElem? (i := 0) rfl)) all0)
  refine ⟨T8, some (.int (6 : Int32)), _, _, _, by decide, by decide, X8, nofun, ⟨vl8_0, rfl, N8, K8, tk8_0, tk8_1⟩, fun fs hr => castTop (ef_0 m (.ref o1) rfl (.int p1) rfl) ?_⟩
  show Steps p.tables e below (s₁.setTop (mkF m 0 #[.val (.ref o1), .val (.int p1), .unset, .unset, .unset, .unset, .unset] [])) _
  refine XS.iloadN X0.here hx rfl (hb hby d1_0) rfl ?_
  refine XS.ifYes X0.here hx rfl (pc0 := 1) (pc' := 14) rfl (hb hby d1_1) rfl ((if0 _ _).trans (flt hp0).2.1) (by decide) (by decide) ?_
  refine XS.iloadN X0.here hx rfl (hb hby d1_14) rfl ?_
  refine XS.sipush X0.here hx rfl (hb hby d1_15) ?_
  refine XS.icmpNo X0.here hx rfl (hb hby d1_18) rfl (tlt hp1).2.2.2 ?_
  refine XS.aloadN X0.here hx rfl (hb hby d1_21) rfl rfl ?_
  refine XS.iconst X0.here hx rfl (hb hby d1_22) ?_
  refine XS.bipush X0.here hx rfl (hb hby d1_23) ?_
  refine st2 _ ?_
  refine XS.iconst X2.here hx rfl (hb hby d1_26) ?_
  show Steps p.tables e below (T2.setTop (mkF m 27 #[.val (.ref o1), .val (.int p1), .unset, .unset, .unset, .unset, .unset] [(.int (1 : Int32))])) _
  refine XS.istoreN X2.here hx rfl (hb hby d1_27) rfl (l' := #[.val (.ref o1), .val (.int p1), .val (.int (1 : Int32)), .unset, .unset, .unset, .unset]) rfl ?_
  refine XS.goto X2.here hx rfl (pc0 := 28) (pc' := 33) rfl (hb hby d1_28) (by decide) (by decide) ?_
  refine XS.iloadN X2.here hx rfl (hb hby d1_33) rfl ?_
  refine XS.ifYes X2.here hx rfl (pc0 := 34) (pc' := 41) rfl (hb hby d1_34) rfl ((if0 _ _).trans (flt hp0).2.1) (by decide) (by decide) ?_
  refine XS.iloadN X2.here hx rfl (hb hby d1_41) rfl ?_
  refine XS.ineg X2.here hx rfl (hb hby d1_42) rfl ?_
  refine XS.istoreN X2.here hx rfl (hb hby d1_43) rfl (l' := #[.val (.ref o1), .val (.int p1), .val (.int (1 : Int32)), .val (.int (-p1)), .unset, .unset, .unset]) rfl ?_
  refine XS.iloadN X2.here hx rfl (hb hby d1_44) rfl ?_
  refine XS.iconst X2.here hx rfl (hb hby d1_45) ?_
  refine XS.iadd X2.here hx rfl (hb hby d1_46) rfl ?_
  show Steps p.tables e below (T2.setTop (mkF m 47 #[.val (.ref o1), .val (.int p1), .val (.int (1 : Int32)), .val (.int (-p1)), .unset, .unset, .unset] [(.int ((1 : Int32) + (4 : Int32)))])) _
  rw [lf_0]
  show Steps p.tables e below (T2.setTop (mkF m 47 #[.val (.ref o1), .val (.int p1), .val (.int (1 : Int32)), .val (.int (-p1)), .unset, .unset, .unset] [(.int (5 : Int32))])) _
  refine XS.istore X2.here hx rfl (hb hby d1_47) rfl (l' := #[.val (.ref o1), .val (.int p1), .val (.int (1 : Int32)), .val (.int (-p1)), .val (.int (5 : Int32)), .unset, .unset]) rfl ?_
  refine XS.iloadN X2.here hx rfl (hb hby d1_49) rfl ?_
  refine XS.sipush X2.here hx rfl (hb hby d1_50) ?_
  refine XS.idiv X2.here hx rfl (hb hby d1_53) rfl (by decide : ¬ ((10000 : Int32) = (0 : Int32))) ?_
  refine XS.istore X2.here hx rfl (hb hby d1_54) rfl (l' := #[.val (.ref o1), .val (.int p1), .val (.int (1 : Int32)), .val (.int (-p1)), .val (.int (5 : Int32)), .val (.int ((-p1) / (10000 : Int32))), .unset]) rfl ?_
  show Steps p.tables e below (T2.setTop (mkF m 56 #[.val (.ref o1), .val (.int p1), .val (.int (1 : Int32)), .val (.int (-p1)), .val (.int (5 : Int32)), .val (.int ((-p1) / (10000 : Int32))), .unset] [])) _
  refine st3 _ ?_
  show Steps p.tables e below (T3.setTop (mkF m 56 #[.val (.ref o1), .val (.int p1), .val (.int (1 : Int32)), .val (.int (-p1)), .val (.int ((5 : Int32) + (1 : Int32))), .val (.int (((-p1) / (10000 : Int32)) / (10 : Int32))), .unset] [])) _
  rw [lf_12]
  refine XS.iload X3.here hx rfl (hb hby d1_56) rfl ?_
  refine XS.ifYes X3.here hx rfl (pc0 := 58) (pc' := 74) rfl (hb hby d1_58) rfl ((if0 _ _).trans (teq hp3).1) (by decide) (by decide) ?_
  refine XS.iloadN X3.here hx rfl (hb hby d1_74) rfl ?_
  refine XS.istore X3.here hx rfl (hb hby d1_75) rfl (l' := #[.val (.ref o1), .val (.int p1), .val (.int (1 : Int32)), .val (.int (-p1)), .val (.int (6 : Int32)), .val (.int (-p1)), .unset]) rfl ?_
  refine XS.iload X3.here hx rfl (hb hby d1_77) rfl ?_
  refine XS.iconst X3.here hx rfl (hb hby d1_79) ?_
  refine XS.isub X3.here hx rfl (hb hby d1_80) rfl ?_
  show Steps p.tables e below (T3.setTop (mkF m 81 #[.val (.ref o1), .val (.int p1), .val (.int (1 : Int32)), .val (.int (-p1)), .val (.int (6 : Int32)), .val (.int (-p1)), .unset] [(.int ((6 : Int32) - (1 : Int32)))])) _
  rw [lf_13]
  refine XS.istore X3.here hx rfl (hb hby d1_81) rfl (l' := #[.val (.ref o1), .val (.int p1), .val (.int (1 : Int32)), .val (.int (-p1)), .val (.int (6 : Int32)), .val (.int (-p1)), .val (.int (5 : Int32))]) rfl ?_
  show Steps p.tables e below (T3.setTop (mkF m 83 #[.val (.ref o1), .val (.int p1), .val (.int (1 : Int32)), .val (.int (-p1)), .val (.int (6 : Int32)), .val (.int (-p1)), .val (.int (5 : Int32))] [])) _
  refine st4 _ ?_
  show Steps p.tables e below (T4.setTop (mkF m 83 #[.val (.ref o1), .val (.int p1), .val (.int (1 : Int32)), .val (.int (-p1)), .val (.int (6 : Int32)), .val (.int z5_4), .val (.int ((5 : Int32) + (-1 : Int32)))] [])) _
  rw [lf_14]
  show Steps p.tables e below (T4.setTop (mkF m 83 #[.val (.ref o1), .val (.int p1), .val (.int (1 : Int32)), .val (.int (-p1)), .val (.int (6 : Int32)), .val (.int z5_4), .val (.int (4 : Int32))] [])) _
  refine st5 _ ?_
  show Steps p.tables e below (T5.setTop (mkF m 83 #[.val (.ref o1), .val (.int p1), .val (.int (1 : Int32)), .val (.int (-p1)), .val (.int (6 : Int32)), .val (.int z5_5), .val (.int ((4 : Int32) + (-1 : Int32)))] [])) _
  rw [lf_2]
  show Steps p.tables e below (T5.setTop (mkF m 83 #[.val (.ref o1), .val (.int p1), .val (.int (1 : Int32)), .val (.int (-p1)), .val (.int (6 : Int32)), .val (.int z5_5), .val (.int (3 : Int32))] [])) _
  refine st6 _ ?_
  show Steps p.tables e below (T6.setTop (mkF m 83 #[.val (.ref o1), .val (.int p1), .val (.int (1 : Int32)), .val (.int (-p1)), .val (.int (6 : Int32)), .val (.int z5_6), .val (.int ((3 : Int32) + (-1 : Int32)))] [])) _
  rw [lf_3]
  show Steps p.tables e below (T6.setTop (mkF m 83 #[.val (.ref o1), .val (.int p1), .val (.int (1 : Int32)), .val (.int (-p1)), .val (.int (6 : Int32)), .val (.int z5_6), .val (.int (2 : Int32))] [])) _
  refine st7 _ ?_
  show Steps p.tables e below (T7.setTop (mkF m 83 #[.val (.ref o1), .val (.int p1), .val (.int (1 : Int32)), .val (.int (-p1)), .val (.int (6 : Int32)), .val (.int z5_7), .val (.int ((2 : Int32) + (-1 : Int32)))] [])) _
  rw [lf_4]
  show Steps p.tables e below (T7.setTop (mkF m 83 #[.val (.ref o1), .val (.int p1), .val (.int (1 : Int32)), .val (.int (-p1)), .val (.int (6 : Int32)), .val (.int z5_7), .val (.int (1 : Int32))] [])) _
  refine st8 _ ?_
  show Steps p.tables e below (T8.setTop (mkF m 83 #[.val (.ref o1), .val (.int p1), .val (.int (1 : Int32)), .val (.int (-p1)), .val (.int (6 : Int32)), .val (.int z5_8), .val (.int ((1 : Int32) + (-1 : Int32)))] [])) _
  rw [lf_5]
  refine XS.iload X8.here hx rfl (hb hby d1_83) rfl ?_
  refine XS.iloadN X8.here hx rfl (hb hby d1_85) rfl ?_
  refine XS.icmpYes X8.here hx rfl (pc0 := 86) (pc' := 115) rfl (hb hby d1_86) rfl (tlt (by decide : (0 : Int32) < (1 : Int32))).1 (by decide) (by decide) ?_
  refine XS.iload X8.here hx rfl (hb hby d1_115) rfl ?_
  show Steps p.tables e below (T8.setTop (mkF m 117 #[.val (.ref o1), .val (.int p1), .val (.int (1 : Int32)), .val (.int (-p1)), .val (.int (6 : Int32)), .val (.int z5_8), .val (.int (0 : Int32))] [(.int (6 : Int32))])) _
  exact retI X8 hx hret (hb hby d1_117) hr
set_option maxRecDepth 65536 in
set_option maxHeartbeats 40000000 in
theorem rm_101 (l : Launch) (Z : State) (a0 : Array Value) (hw : ∀ d ∈ tables_1, d.before a0 Z = true) (w : Nat → Addr) (kk : Nat → ClassId) (iw : Nat → Int32) (vw : Nat → Value) (hN : Wd Z w kk iw vw) (ws : List Jvm.Cond) (p0 : Int32) (h0 : Heap) (O0 : Old Z Z.heap.size h0) (hp0 : ¬ (p0 < (0 : Int32))) (hp1 : (9999 : Int32) < p0) (hp2 : ¬ (((-p0) / (10000 : Int32)) = (0 : Int32))) (hp3 : (((-p0) / (10000 : Int32)) / (10 : Int32)) = (0 : Int32)) :
    Met l Z (⟨s_1, "yearText", s_4⟩ : MethodName) (Jvm.Cond.code (⟨s_1, "yearText", s_4⟩ : MethodName) prog_22_method_4_code 2 (some (.object s_0))) ws (Rm 6 3 21 101) #[(.int p0)] h0 (Qd_9 Z w kk iw vw p0 h0 Z.heap.size) := by
  have hN' := hN
  obtain ⟨hS0, hE0, hS1, hE1, hS2, hE2, hI0, hJ0, hR0, hRr0, hEq0⟩ := hN'
  refine own_body (plainFor_of_name pn_0) hisR ?_
  intro p e s m below meth c s₁ hx hby hml hown hnm hret X0 hZ e0
  have N0 := Fr.nil Z.heap.size
  have K0 : Keep h0 h0 [] := Keep.refl _ _
  obtain ⟨T1, h1, k1, X1, e1, E1, A1, AE1, st1⟩ := newPE X0 hx hZ (W hw 4 rfl) e0 (g := (mkF m 2 #[.val (.int p0), .unset] [(.int (11 : Int32))])) rfl (hb hby d0_2) rfl (by decide) (cap := 11) (by decide) (by decide) (by decide) (by decide) (ad := "[B") rfl
  obtain ⟨b1, g1⟩ : ∃ z, z = h0.size := ⟨_, rfl⟩
  rw [← g1] at A1 st1 AE1
  have gn_b1 : Z.heap.size ≤ b1 := Nat.le_trans O0.2.1 (Nat.le_of_eq g1.symm)
  have sz_b1 : h0.size ≤ b1 := Nat.le_trans K0.1 (Nat.le_of_eq g1.symm)
  have O1 := O0.ext E1
  have K1 := K0.ext E1
  have E_b1_v1 := AE1
  have V_b1_v1 : Arv Z h1 b1 k1 .byte (11 : Int32) [] (.int (0 : Int32)) := Arv.new A1 (by decide)
  obtain ⟨_, _, ⟨T2, L2, k2, n2⟩, -, X2, ⟨Lc2, hQ2, l2, y2, z2⟩, st2⟩ := Jvm.LawKit.callS X1 hx (y := (⟨s_1, "writeYear", "([BI)I"⟩ : MethodName)) hown (mvT hZ (W hw 5 rfl)) (mvT hZ (W hw 6 rfl)) (mvT hZ (W hw 2 rfl)) (mvT hZ (W hw 7 rfl)) (by decide) (backOf (W := 1) (rm_100 l Z a0 hw w kk iw vw hN [] b1 p0 k1 h1 O1 gn_b1 E_b1_v1.lt E_b1_v1 V_b1_v1 hp0 hp1 hp2 hp3) hZ (W hw 7 rfl) (W hw 2 rfl) (by decide) (by decide)) (g := (mkF m 8 #[.val (.int p0), .val (.ref b1)] [(.int p0), (.ref b1), (.ref b1)])) rfl (by rw [hml]; rfl) (argsL := [(.ref b1), (.int p0)]) (rest := [(.ref b1)]) (lenOf pd_0 rfl) rfl (by show 2 * 0 + _ ≤ _; exact Nat.le_of_eq rfl) (hb hby d0_8) (fun _ _ => ⟨rfl, e1, (by decide : 1 + 0 ≤ _), (by decide : 11 + 0 ≤ _)⟩)
  dsimp only [Pt.U, Pt.locs, Pt.cells, Pt.slots] at X2 l2 y2 z2 st2 hQ2
  subst l2 y2 z2
  obtain ⟨vl2_0, rfl, N2q, Kq2, tk2_0, tk2_1⟩ := hQ2
  have N2 := Fr.app N0 N2q
  have E_b1_v2 := E_b1_v1.keep Kq2
  have O2 := O1.keep Kq2 (allS gn_b1 all0)
  have K2 : Keep h0 T2.heap [] := K1.trans Kq2 (allS (Or.inr sz_b1) all0)
  obtain ⟨_, _, ⟨T3, L3, k3, n3⟩, -, X3, ⟨Lc3, hQ3, l3, y3, z3⟩, st3⟩ := Jvm.LawKit.callS X2 hx (y := (⟨s_1, "string", s_9⟩ : MethodName)) hown (mvT hZ (W hw 8 rfl)) (mvT hZ (W hw 9 rfl)) (mvT hZ (W hw 2 rfl)) (mvT hZ (W hw 10 rfl)) (by decide) (backOf (W := 0) (rm_28 l Z a0 hw w kk iw vw hN [] b1 vl2_0 k1 T2.heap O2 gn_b1 tk2_0.lt tk2_0 tk2_1) hZ (W hw 10 rfl) (W hw 2 rfl) (by decide) (by decide)) (g := (mkF m 11 #[.val (.int p0), .val (.ref b1)] [(.int (6 : Int32)), (.ref b1)])) rfl (by rw [hml]; rfl) (argsL := [(.ref b1), (.int (6 : Int32))]) (rest := []) (lenOf pd_9 rfl) rfl (by show 2 * 0 + _ ≤ _; exact Nat.le_of_eq rfl) (hb hby d0_11) (fun _ _ => ⟨rfl, rfl, (by decide : 1 + 2 ≤ _), (by decide : 11 + 10 ≤ _)⟩)
  dsimp only [Pt.U, Pt.locs, Pt.cells, Pt.slots] at X3 l3 y3 z3 st3 hQ3
  subst l3 y3 z3
  obtain ⟨b3_0, b3_1, kb3_0, vl3_0, rfl, N3q, Kq3, tk3_0, tk3_1, tk3_2, tk3_3, tk3_4, tk3_5, tk3_6, tk3_7⟩ := hQ3
  have N3 := Fr.app N2 N3q
  have gn_b3_0 : Z.heap.size ≤ b3_0 := Nat.le_trans O2.2.1 tk3_0
  have sz_b3_0 : h0.size ≤ b3_0 := Nat.le_trans K2.1 tk3_0
  have ne_b1_b3_0 : b1 ≠ b3_0 := Nat.ne_of_lt (Nat.lt_of_lt_of_le tk2_0.lt tk3_0)
  have gn_b3_1 : Z.heap.size ≤ b3_1 := Nat.le_trans O2.2.1 tk3_1
  have sz_b3_1 : h0.size ≤ b3_1 := Nat.le_trans K2.1 tk3_1
  have ne_b1_b3_1 : b1 ≠ b3_1 := Nat.ne_of_lt (Nat.lt_of_lt_of_le tk2_0.lt tk3_1)
  have tk2_0_v3 := tk2_0.keep Kq3
  have tk2_1_v3 := tk2_1.keep Kq3 nin0
  have O3 := O2.keep Kq3 all0
  have K3 : Keep h0 T3.heap [] := K2.trans Kq3 all0
  refine ⟨T3, some (.ref b3_0), _, _, _, by decide, by decide, X3, nofun, ⟨b3_0, b3_1, kb3_0, vl3_0, rfl, N3, K3, sz_b3_0, sz_b3_1, tk3_2, tk3_3, tk3_4, tk3_5, tk3_6, tk3_7⟩, fun fs hr => castTop (ef_10 m (.int p0) rfl) ?_⟩
  show Steps p.tables e below (s₁.setTop (mkF m 0 #[.val (.int p0), .unset] [])) _
  refine XS.bipush X0.here hx rfl (hb hby d0_0) ?_
  refine st1 _ ?_
  refine XS.astoreN X1.here hx rfl (hb hby d0_4) rfl rfl (l' := #[.val (.int p0), .val (.ref b1)]) rfl ?_
  refine XS.aloadN X1.here hx rfl (hb hby d0_5) rfl rfl ?_
  refine XS.aloadN X1.here hx rfl (hb hby d0_6) rfl rfl ?_
  refine XS.iloadN X1.here hx rfl (hb hby d0_7) rfl ?_
  refine st2 _ ?_
  refine st3 _ ?_
  show Steps p.tables e below (T3.setTop (mkF m 14 #[.val (.int p0), .val (.ref b1)] [(.ref b3_0)])) _
  exact retOut X3 hx hret rfl (Or.inr (Or.inr (Or.inr (Or.inr ⟨rfl, rfl, rfl⟩)))) (hb hby d0_14) hr
theorem d14_7 : decode prog_22_method_5_code 7 = .ok (.iload_n 0, 1) := by decide +kernel
theorem d14_8 : decode prog_22_method_5_code 8 = .ok (.sipush 9999, 3) := by decide +kernel
theorem d14_11 : decode prog_22_method_5_code 11 = .ok (.if_icmp .gt 7, 3) := by decide +kernel
set_option maxRecDepth 65536 in
set_option maxHeartbeats 40000000 in
theorem rm_102 (l : Launch) (Z : State) (a0 : Array Value) (hw : ∀ d ∈ tables_1, d.before a0 Z = true) (w : Nat → Addr) (kk : Nat → ClassId) (iw : Nat → Int32) (vw : Nat → Value) (hN : Wd Z w kk iw vw) (ws : List Jvm.Cond) (p0 : Int32) (h0 : Heap) (O0 : Old Z Z.heap.size h0) (hp0 : ¬ (p0 < (1000 : Int32))) (hp1 : (9999 : Int32) < p0) :
    Met l Z (⟨s_1, s_15, "(I)Z"⟩ : MethodName) (Jvm.Cond.code (⟨s_1, s_15, "(I)Z"⟩ : MethodName) prog_22_method_5_code 1 (some .boolean)) ws (Rm 0 0 0 0) #[(.int p0)] h0 (OQ (some (.int (0 : Int32))) h0 Z.heap.size) := by
  have hN' := hN
  obtain ⟨hS0, hE0, hS1, hE1, hS2, hE2, hI0, hJ0, hR0, hRr0, hEq0⟩ := hN'
  refine own_body (plainFor_of_name pn_0) hisR ?_
  intro p e s m below meth c s₁ hx hby hml hown hnm hret X0 hZ e0
  have N0 := Fr.nil Z.heap.size
  refine ⟨s₁, some (.int (0 : Int32)), _, _, _, by decide, by decide, X0, nofun, (by rw [e0]; exact ⟨rfl, N0, rfl⟩), fun fs hr => castTop (ef_11 m (.int p0) rfl) ?_⟩
  show Steps p.tables e below (s₁.setTop (mkF m 0 #[.val (.int p0)] [])) _
  refine XS.iloadN X0.here hx rfl (hb hby d14_0) rfl ?_
  refine XS.sipush X0.here hx rfl (hb hby d14_1) ?_
  refine XS.icmpNo X0.here hx rfl (hb hby d14_4) rfl (flt hp0).1 ?_
  refine XS.iloadN X0.here hx rfl (hb hby d14_7) rfl ?_
  refine XS.sipush X0.here hx rfl (hb hby d14_8) ?_
  refine XS.icmpYes X0.here hx rfl (pc0 := 11) (pc' := 18) rfl (hb hby d14_11) rfl (tlt hp1).2.2.1 (by decide) (by decide) ?_
  refine XS.iconst X0.here hx rfl (hb hby d14_18) ?_
  show Steps p.tables e below (s₁.setTop (mkF m 19 #[.val (.int p0)] [(.int (0 : Int32))])) _
  exact retN X0 hx (t := .boolean) hret (by simp) (hb hby d14_19) hr
set_option maxRecDepth 65536 in
set_option maxHeartbeats 40000000 in
theorem law_103 (l : Launch) (Z : State) (a0 : Array Value) (hw : ∀ d ∈ tables_1, d.before a0 Z = true) (w : Nat → Addr) (kk : Nat → ClassId) (iw : Nat → Int32) (vw : Nat → Value) (hN : Wd Z w kk iw vw) (ws : List Jvm.Cond) (p0 : Int32) (h0 : Heap) (O0 : Old Z Z.heap.size h0) (hp0 : ¬ (p0 < (0 : Int32))) (hp1 : (9999 : Int32) < p0) (hp2 : ¬ (((-p0) / (10000 : Int32)) = (0 : Int32))) (hp3 : (((-p0) / (10000 : Int32)) / (10 : Int32)) = (0 : Int32)) (hp4 : ¬ (p0 < (1000 : Int32))) :
    MetFree l x (head1 (Jvm.Cond.code x code maxLocals ret :: ws) room_1) (fun a U => a = #[(.int p0)] ∧ Z.Warmed39 U.vm ∧ U.heap = h0) (fun _ _ _ _ _ => True) (fun _ U o U' => ∃ v L, o = .returned v ∧ OL (some (.int (1 : Int32))) Z.heap.size v U'.heap L ∧ FrameEnd U o U' L 16 128) := by
  have hN' := hN
  obtain ⟨hS0, hE0, hS1, hE1, hS2, hE2, hI0, hJ0, hR0, hRr0, hEq0⟩ := hN'
  refine MetFree.of_bodySF (plainFor_of_name pn_5) hisR ?_
  intro p e s m args below meth c s₁ Bd hml0 hP hK
  obtain ⟨rfl, hZ, hh⟩ := hP
  have hx := Bd.exec
  have hby := Bd.bytes
  have hml : c.maxLocals = 3 := hml0
  have hown : s.vm.findClass s_3 = some m.cls := findClass_of_methodNamed Bd.named
  have hnm := (name_of_methodNamed Bd.named Bd.method).1
  have X0 : Stand p l e room_1 s m #[(.int p0)] below meth c s₁ [] 0 0 := Stand.of_body Bd
  have e0 : s₁.heap = h0 := by rw [← hh, Bd.state]; rfl
  have N0 := Fr.nil Z.heap.size
  obtain ⟨_, _, ⟨T1, L1, k1, n1⟩, -, X1, ⟨Lc1, hQ1, l1, y1, z1⟩, st1⟩ := Jvm.LawKit.callS X0 hx (y := (⟨s_1, "yearText", s_4⟩ : MethodName)) hown (mvT hZ (W hw 0 rfl)) (mvT hZ (W hw 1 rfl)) (mvT hZ (W hw 2 rfl)) (mvT hZ (W hw 3 rfl)) (by decide) (backOf (W := 0) (rm_101 l Z a0 hw w kk iw vw hN [] p0 h0 O0 hp0 hp1 hp2 hp3) hZ (W hw 3 rfl) (W hw 2 rfl) (by decide) (by decide)) (g := (mkF m 1 #[.val (.int p0), .unset, .unset] [(.int p0)])) rfl (by rw [hml]; rfl) (argsL := [(.int p0)]) (rest := []) (lenOf pd_10 rfl) rfl (by show 2 * 0 + _ ≤ _; exact Nat.le_of_eq rfl) (hb hby at_1) (fun _ _ => ⟨rfl, e0, (by decide : 0 + 3 ≤ _), (by decide : 0 + 21 ≤ _)⟩)
  dsimp only [Pt.U, Pt.locs, Pt.cells, Pt.slots] at X1 l1 y1 z1 st1 hQ1
  subst l1 y1 z1
  obtain ⟨b1_0, b1_1, kb1_0, vl1_0, rfl, N1q, Kq1, tk1_0, tk1_1, tk1_2, tk1_3, tk1_4, tk1_5, tk1_6, tk1_7⟩ := hQ1
  have N1 := Fr.app N0 N1q
  have gn_b1_0 : Z.heap.size ≤ b1_0 := Nat.le_trans O0.2.1 tk1_0
  have gn_b1_1 : Z.heap.size ≤ b1_1 := Nat.le_trans O0.2.1 tk1_1
  have O1 := O0.keep Kq1 all0
  obtain ⟨cq2, kq2, q2a, q2b, q2c⟩ := isOf hZ rfl tk1_3
  obtain ⟨_, _, ⟨T2, L2, k2, n2⟩, -, X2, ⟨Lc2, hQ2, l2, y2, z2⟩, st2⟩ := X1.virtualBack hx (y := (⟨s_0, "length", "()I"⟩ : MethodName)) (z := (⟨s_0, "length", "()I"⟩ : MethodName)) hown (mvT hZ (W hw 67 rfl)) (mvT hZ (W hw 68 rfl)) (notFace_of_selects (args := #[]) (mvT hZ (W hw 70 rfl))) (mvT hZ (W hw 70 rfl)) (mvT hZ (W hw 69 rfl)) (by decide) (backOf (W := 0) (rm_31 l Z a0 hw w kk iw vw hN [] b1_0 b1_1 vl1_0 kb1_0 T1.heap O1 gn_b1_0 tk1_3.lt tk1_3 gn_b1_1 tk1_6.lt tk1_4 tk1_5 tk1_6 tk1_7 tk1_2) hZ (W hw 71 rfl) (W hw 13 rfl) (by decide) (by decide)) q2a q2c (g := (mkF m 6 #[.val (.int p0), .val (.ref b1_0), .unset] [(.ref b1_0)])) rfl (by rw [hml]; rfl) (Steps.refl _) (argsL := []) (rest := []) (lenOf pd_12 rfl) rfl (by show 2 * 0 + _ ≤ _; exact Nat.le_of_eq rfl) (hb hby at_6) (fun _ _ => ⟨rfl, rfl, (by decide : 3 + 0 ≤ _), (by decide : 21 + 0 ≤ _)⟩)
  dsimp only [Pt.U, Pt.locs, Pt.cells, Pt.slots] at X2 l2 y2 z2 st2 hQ2
  subst l2 y2 z2
  obtain ⟨rfl, N2q, e2⟩ := hQ2
  have N2 := Fr.app N1 N2q
  obtain ⟨_, _, ⟨T3, L3, k3, n3⟩, -, X3, ⟨Lc3, hQ3, l3, y3, z3⟩, st3⟩ := Jvm.LawKit.callS X2 hx (y := (⟨s_1, s_15, "(I)Z"⟩ : MethodName)) hown (mvT hZ (W hw 97 rfl)) (mvT hZ (W hw 98 rfl)) (mvT hZ (W hw 2 rfl)) (mvT hZ (W hw 99 rfl)) (by decide) (backOf (W := 0) (rm_102 l Z a0 hw w kk iw vw hN [] p0 T1.heap O1 hp4 hp1) hZ (W hw 99 rfl) (W hw 2 rfl) (by decide) (by decide)) (g := (mkF m 30 #[.val (.int p0), .val (.ref b1_0), .val (.int (0 : Int32))] [(.int p0)])) rfl (by rw [hml]; rfl) (argsL := [(.int p0)]) (rest := []) (lenOf pd_13 rfl) rfl (by show 2 * 0 + _ ≤ _; exact Nat.le_of_eq rfl) (hb hby at_30) (fun _ _ => ⟨rfl, e2, (by decide : 3 + 0 ≤ _), (by decide : 21 + 0 ≤ _)⟩)
  dsimp only [Pt.U, Pt.locs, Pt.cells, Pt.slots] at X3 l3 y3 z3 st3 hQ3
  subst l3 y3 z3
  obtain ⟨rfl, N3q, e3⟩ := hQ3
  have N3 := Fr.app N2 N3q
  obtain ⟨fs, hr, hrun, hended, hW, hsame⟩ := X3.leave (v := some (.int (1 : Int32))) (fun h => by rw [Bd.returns] at h; cases h)
  refine ⟨_, _, castTop (ef_12 m (.int p0) rfl) ?_, hrun, hended, _, _, rfl, ?_, ⟨_, rfl⟩, hW, hsame.mono (by decide) (by decide)⟩
  · show Steps p.tables e below (s₁.setTop (mkF m 0 #[.val (.int p0), .unset, .unset] [])) _
    refine XS.iloadN X0.here hx rfl (hb hby at_0) rfl ?_
    refine st1 _ ?_
    refine XS.astoreN X1.here hx rfl (hb hby at_4) rfl rfl (l' := #[.val (.int p0), .val (.ref b1_0), .unset]) rfl ?_
    refine XS.aloadN X1.here hx rfl (hb hby at_5) rfl rfl ?_
    refine st2.trans ?_
    refine XS.iconst X2.here hx rfl (hb hby at_9) ?_
    refine XS.icmpYes X2.here hx rfl (pc0 := 10) (pc' := 27) rfl (hb hby at_10) rfl (feq (by decide : ¬ ((6 : Int32) = (4 : Int32)))).2 (by decide) (by decide) ?_
    refine XS.iconst X2.here hx rfl (hb hby at_27) ?_
    refine XS.istoreN X2.here hx rfl (hb hby at_28) rfl (l' := #[.val (.int p0), .val (.ref b1_0), .val (.int (0 : Int32))]) rfl ?_
    refine XS.iloadN X2.here hx rfl (hb hby at_29) rfl ?_
    show Steps p.tables e below (T2.setTop (mkF m 30 #[.val (.int p0), .val (.ref b1_0), .val (.int (0 : Int32))] [(.int p0)])) _
    refine st3 _ ?_
    refine XS.iloadN X3.here hx rfl (hb hby at_33) rfl ?_
    refine XS.icmpNo X3.here hx rfl (hb hby at_34) rfl (teq (by decide : (0 : Int32) = (0 : Int32))).2 ?_
    refine XS.iconst X3.here hx rfl (hb hby at_37) ?_
    refine XS.goto X3.here hx rfl (pc0 := 38) (pc' := 42) rfl (hb hby at_38) (by decide) (by decide) ?_
    show Steps p.tables e below (T3.setTop (mkF m 42 #[.val (.int p0), .val (.ref b1_0), .val (.int (0 : Int32))] [(.int (1 : Int32))])) _
    exact retN X3 hx (t := .boolean) Bd.returns (by simp) (hb hby at_42) hr
  · show OL (some (.int (1 : Int32))) Z.heap.size _ T3.heap _
    exact ⟨rfl, N3⟩
set_option maxRecDepth 65536 in
set_option maxHeartbeats 40000000 in
theorem rm_104 (l : Launch) (Z : State) (a0 : Array Value) (hw : ∀ d ∈ tables_1, d.before a0 Z = true) (w : Nat → Addr) (kk : Nat → ClassId) (iw : Nat → Int32) (vw : Nat → Value) (hN : Wd Z w kk iw vw) (ws : List Jvm.Cond) (o1 : Addr) (p1 : Int32) (kc_o1 : ClassId) (h0 : Heap) (O0 : Old Z Z.heap.size h0) (gn_o1 : Z.heap.size ≤ o1) (lt_o1 : o1 < h0.size) (E_o1 : Exa Z h0 o1 "[B") (V_o1 : Arv Z h0 o1 kc_o1 .byte (11 : Int32) [] (.int (0 : Int32))) (hp0 : ¬ (p1 < (0 : Int32))) (hp1 : (9999 : Int32) < p1) (hp2 : ¬ (((-p1) / (10000 : Int32)) = (0 : Int32))) (hp3 : ¬ ((((-p1) / (10000 : Int32)) / (10 : Int32)) = (0 : Int32))) (hp4 : ((((-p1) / (10000 : Int32)) / (10 : Int32)) / (10 : Int32)) = (0 : Int32)) :
    Met l Z (⟨s_1, "writeYear", "([BI)I"⟩ : MethodName) (Jvm.Cond.code (⟨s_1, "writeYear", "([BI)I"⟩ : MethodName) prog_22_method_7_code 7 (some .int)) ws (Rm 0 0 0 0) #[(.ref o1), (.int p1)] h0 (Qd_10 Z w kk iw vw o1 p1 kc_o1 h0 Z.heap.size) := by
  have hN' := hN
  obtain ⟨hS0, hE0, hS1, hE1, hS2, hE2, hI0, hJ0, hR0, hRr0, hEq0⟩ := hN'
  refine own_body (plainFor_of_name pn_0) hisR ?_
  intro p e s m below meth c s₁ hx hby hml hown hnm hret X0 hZ e0
  have N0 := Fr.nil Z.heap.size
  have K0 : Keep h0 h0 [o1] := Keep.refl _ _
  have Vc1 := V_o1
  obtain ⟨cl1, Ar1, q1, Sz1, Ng1, Hv1, Gv1⟩ := Vc1
  have hin1 : ¬ ((0 : Int32) < 0 ∨ cl1.slots.size ≤ ((0 : Int32)).toNatClampNeg) := inb_of Sz1 ⟨(by decide : ¬ ((0 : Int32) < (0 : Int32))), (by decide : (0 : Int32) < (11 : Int32))⟩
  obtain ⟨T2, h2, X2, e2, W2, st2⟩ := stB X0 hx hZ e0 Ar1 (j := (0 : Int32)) hin1 (g := (mkF m 25 #[.val (.ref o1), .val (.int p1), .unset, .unset, .unset, .unset, .unset] [(.int (43 : Int32)), (.int (0 : Int32)), (.ref o1)])) rfl rfl (hb hby d1_25)
  obtain ⟨vl2, V_o1_v2⟩ := own_store V_o1 W2 (fits_nar_byte _) ⟨(by decide : ¬ ((0 : Int32) < (0 : Int32))), (by decide : (0 : Int32) < (11 : Int32))⟩
  have N2 := Fr.snoc X2 N0 gn_o1
  have E_o1_v2 := E_o1.wr W2
  have O2 := O0.wr W2 gn_o1
  have K2 : Keep h0 h2 [o1] := K0.wr W2 (Or.inl (List.mem_of_getElem? (i := 0) rfl))
  obtain ⟨T3, L3, X3, st3, N3, e3⟩ := sg_18 w kk iw vw hN o1 p1 (1 : Int32) (-p1) (5 : Int32) ((-p1) / (10000 : Int32)) vl2 kc_o1 X2 hx hZ hw hby hml hown e2 O2 N2 gn_o1 E_o1_v2.lt E_o1_v2 V_o1_v2 hp2
  obtain ⟨T4, L4, X4, st4, N4, e4⟩ := sg_18 w kk iw vw hN o1 p1 (1 : Int32) (-p1) (6 : Int32) (((-p1) / (10000 : Int32)) / (10 : Int32)) vl2 kc_o1 X3 hx hZ hw hby hml hown e3 O2 N3 gn_o1 E_o1_v2.lt E_o1_v2 V_o1_v2 hp3
  obtain ⟨T5, L5, vl5_0, z5_5, X5, st5, N5, Kq5, tk5_0, tk5_1⟩ := sg_1 w kk iw vw hN o1 p1 (1 : Int32) (-p1) (7 : Int32) (-p1) (6 : Int32) vl2 kc_o1 X4 hx hZ hw hby hml hown e4 O2 N4 gn_o1 E_o1_v2.lt E_o1_v2 V_o1_v2 (by decide : ¬ ((6 : Int32) < (1 : Int32))) (by decide : ¬ ((6 : Int32) < (0 : Int32))) (by decide : (6 : Int32) < (11 : Int32))
  have E_o1_v5 := E_o1_v2.keep Kq5
  have O5 := O2.keep Kq5 (allS gn_o1 all0)
  have K5 : Keep h0 T5.heap [o1] := K2.trans Kq5 (allS (Or.inl (List.mem_of_getElem? (i := 0) rfl)) all0)
  obtain ⟨T6, L6, vl6_0, z5_6, X6, st6, N6, Kq6, tk6_0, tk6_1⟩ := sg_1 w kk iw vw hN o1 p1 (1 : Int32) (-p1) (7 : Int32) z5_5 (5 : Int32) vl5_0 kc_o1 X5 hx hZ hw hby hml hown rfl O5 N5 gn_o1 tk5_0.lt tk5_0 tk5_1 (by decide : ¬ ((5 : Int32) < (1 : Int32))) (by decide : ¬ ((5 : Int32) < (0 : Int32))) (by decide : (5 : Int32) < (11 : Int32))
  have tk5_0_v6 := tk5_0.keep Kq6
  have O6 := O5.keep Kq6 (allS gn_o1 all0)
  have K6 : Keep h0 T6.heap [o1] := K5.trans Kq6 (allS (Or.inl (List.mem_of_getElem? (i := 0) rfl)) all0)
  obtain ⟨T7, L7, vl7_0, z5_7, X7, st7, N7, Kq7, tk7_0, tk7_1⟩ := sg_1 w kk iw vw hN o1 p1 (1 : Int32) (-p1) (7 : Int32) z5_6 (4 : Int32) vl6_0 kc_o1 X6 hx hZ hw hby hml hown rfl O6 N6 gn_o1 tk6_0.lt tk6_0 tk6_1 (by decide : ¬ ((4 : Int32) < (1 : Int32))) (by decide : ¬ ((4 : Int32) < (0 : Int32))) (by decide : (4 : Int32) < (11 : Int32))
  have tk6_0_v7 := tk6_0.keep Kq7
  have O7 := O6.keep Kq7 (allS gn_o1 all0)
  have K7 : Keep h0 T7.heap [o1] := K6.trans Kq7 (allS (Or.inl (List.mem_of_getElem? (i := 0) rfl)) all0)
  obtain ⟨T8, L8, vl8_0, z5_8, X8, st8, N8, Kq8, tk8_0, tk8_1⟩ := sg_1 w kk iw vw hN o1 p1 (1 : Int32) (-p1) (7 : Int32) z5_7 (3 : Int32) vl7_0 kc_o1 X7 hx hZ hw hby hml hown rfl O7 N7 gn_o1 tk7_0.lt tk7_0 tk7_1 (by decide : ¬ ((3 : Int32) < (1 : Int32))) (by decide : ¬ ((3 : Int32) < (0 : Int32))) (by decide : (3 : Int32) < (11 : Int32))
  have tk7_0_v8 := tk7_0.keep Kq8
  have O8 := O7.keep Kq8 (allS gn_o1 all0)
  have K8 : Keep h0 T8.heap [o1] := K7.trans Kq8 (allS (Or.inl (List.mem_of_getElem? (i := 0) rfl)) all0)
  obtain ⟨T9, L9, vl9_0, z5_9, X9, st9, N9, Kq9, tk9_0, tk9_1⟩ := sg_1 w kk iw vw hN o1 p1 (1 : Int32) (-p1) (7 : Int32) z5_8 (2 : Int32) vl8_0 kc_o1 X8 hx hZ hw hby hml hown rfl O8 N8 gn_o1 tk8_0.lt tk8_0 tk8_1 (by decide : ¬ ((2 : Int32) < (1 : Int32))) (by decide : ¬ ((2 : Int32) < (0 : Int32))) (by decide : (2 : Int32) < (11 : Int32))
  have tk8_0_v9 := tk8_0.keep Kq9
  have O9 := O8.keep Kq9 (allS gn_o1 all0)
  have K9 : Keep h0 T9.heap [o1] := K8.trans Kq9 (allS (Or.inl (List.mem_of_getElem? (i := 0) rfl)) all0)
  obtain ⟨T10, L10, vl10_0, z5_10, X10, st10, N10, Kq10, tk10_0, tk10_1⟩ := sg_1 w kk iw vw hN o1 p1 (1 : Int32) (-p1) (7 : Int32) z5_9 (1 : Int32) vl9_0 kc_o1 X9 hx hZ hw hby hml hown rfl O9 N9 gn_o1 tk9_0.lt tk9_0 tk9_1 (by decide : ¬ ((1 : Int32) < (1 : Int32))) (by decide : ¬ ((1 : Int32) < (0 : Int32))) (by decide : (1 : Int32) < (11 : Int32))
  have tk9_0_v10 := tk9_0.keep Kq10
  have O10 := O9.keep Kq10 (allS gn_o1 all0)
  have K10 : Keep h0 T10.heap [o1] := K9.trans Kq10 (allS (Or.inl (List.mem_of_getElem? (i := 0) rfl)) all0)
  refine ⟨T10, some (.int (7 : Int32)), _, _, _, by decide, by decide, X10, nofun, ⟨vl10_0, rfl, N10, K10, tk10_0, tk10_1⟩, fun fs hr => castTop (ef_0 m (.ref o1) rfl (.int p1) rfl) ?_⟩
  show Steps p.tables e below (s₁.setTop (mkF m 0 #[.val (.ref o1), .val (.int p1), .unset, .unset, .unset, .unset, .unset] [])) _
  refine XS.iloadN X0.here hx rfl (hb hby d1_0) rfl ?_
  refine XS.ifYes X0.here hx rfl (pc0 := 1) (pc' := 14) rfl (hb hby d1_1) rfl ((if0 _ _).trans (flt hp0).2.1) (by decide) (by decide) ?_
  refine XS.iloadN X0.here hx rfl (hb hby d1_14) rfl ?_
  refine XS.sipush X0.here hx rfl (hb hby d1_15) ?_
  refine XS.icmpNo X0.here hx rfl (hb hby d1_18) rfl (tlt hp1).2.2.2 ?_
  refine XS.aloadN X0.here hx rfl (hb hby d1_21) rfl rfl ?_
  refine XS.iconst X0.here hx rfl (hb hby d1_22) ?_
  refine XS.bipush X0.here hx rfl (hb hby d1_23) ?_
  refine st2 _ ?_
  refine XS.iconst X2.here hx rfl (hb hby d1_26) ?_
  show Steps p.tables e below (T2.setTop (mkF m 27 #[.val (.ref o1), .val (.int p1), .unset, .unset, .unset, .unset, .unset] [(.int (1 : Int32))])) _
  refine XS.istoreN X2.here hx rfl (hb hby d1_27) rfl (l' := #[.val (.ref o1), .val (.int p1), .val (.int (1 : Int32)), .unset, .unset, .unset, .unset]) rfl ?_
  refine XS.goto X2.here hx rfl (pc0 := 28) (pc' := 33) rfl (hb hby d1_28) (by decide) (by decide) ?_
  refine XS.iloadN X2.here hx rfl (hb hby d1_33) rfl ?_
  refine XS.ifYes X2.here hx rfl (pc0 := 34) (pc' := 41) rfl (hb hby d1_34) rfl ((if0 _ _).trans (flt hp0).2.1) (by decide) (by decide) ?_
  refine XS.iloadN X2.here hx rfl (hb hby d1_41) rfl ?_
  refine XS.ineg X2.here hx rfl (hb hby d1_42) rfl ?_
  refine XS.istoreN X2.here hx rfl (hb hby d1_43) rfl (l' := #[.val (.ref o1), .val (.int p1), .val (.int (1 : Int32)), .val (.int (-p1)), .unset, .unset, .unset]) rfl ?_
  refine XS.iloadN X2.here hx rfl (hb hby d1_44) rfl ?_
  refine XS.iconst X2.here hx rfl (hb hby d1_45) ?_
  refine XS.iadd X2.here hx rfl (hb hby d1_46) rfl ?_
  show Steps p.tables e below (T2.setTop (mkF m 47 #[.val (.ref o1), .val (.int p1), .val (.int (1 : Int32)), .val (.int (-p1)), .unset, .unset, .unset] [(.int ((1 : Int32) + (4 : Int32)))])) _
  rw [lf_0]
  show Steps p.tables e below (T2.setTop (mkF m 47 #[.val (.ref o1), .val (.int p1), .val (.int (1 : Int32)), .val (.int (-p1)), .unset, .unset, .unset] [(.int (5 : Int32))])) _
  refine XS.istore X2.here hx rfl (hb hby d1_47) rfl (l' := #[.val (.ref o1), .val (.int p1), .val (.int (1 : Int32)), .val (.int (-p1)), .val (.int (5 : Int32)), .unset, .unset]) rfl ?_
  refine XS.iloadN X2.here hx rfl (hb hby d1_49) rfl ?_
  refine XS.sipush X2.here hx rfl (hb hby d1_50) ?_
  refine XS.idiv X2.here hx rfl (hb hby d1_53) rfl (by decide : ¬ ((10000 : Int32) = (0 : Int32))) ?_
  refine XS.istore X2.here hx rfl (hb hby d1_54) rfl (l' := #[.val (.ref o1), .val (.int p1), .val (.int (1 : Int32)), .val (.int (-p1)), .val (.int (5 : Int32)), .val (.int ((-p1) / (10000 : Int32))), .unset]) rfl ?_
  show Steps p.tables e below (T2.setTop (mkF m 56 #[.val (.ref o1), .val (.int p1), .val (.int (1 : Int32)), .val (.int (-p1)), .val (.int (5 : Int32)), .val (.int ((-p1) / (10000 : Int32))), .unset] [])) _
  refine st3 _ ?_
  show Steps p.tables e below (T3.setTop (mkF m 56 #[.val (.ref o1), .val (.int p1), .val (.int (1 : Int32)), .val (.int (-p1)), .val (.int ((5 : Int32) + (1 : Int32))), .val (.int (((-p1) / (10000 : Int32)) / (10 : Int32))), .unset] [])) _
  rw [lf_12]
  show Steps p.tables e below (T3.setTop (mkF m 56 #[.val (.ref o1), .val (.int p1), .val (.int (1 : Int32)), .val (.int (-p1)), .val (.int (6 : Int32)), .val (.int (((-p1) / (10000 : Int32)) / (10 : Int32))), .unset] [])) _
  refine st4 _ ?_
  show Steps p.tables e below (T4.setTop (mkF m 56 #[.val (.ref o1), .val (.int p1), .val (.int (1 : Int32)), .val (.int (-p1)), .val (.int ((6 : Int32) + (1 : Int32))), .val (.int ((((-p1) / (10000 : Int32)) / (10 : Int32)) / (10 : Int32))), .unset] [])) _
  rw [lf_19]
  refine XS.iload X4.here hx rfl (hb hby d1_56) rfl ?_
  refine XS.ifYes X4.here hx rfl (pc0 := 58) (pc' := 74) rfl (hb hby d1_58) rfl ((if0 _ _).trans (teq hp4).1) (by decide) (by decide) ?_
  refine XS.iloadN X4.here hx rfl (hb hby d1_74) rfl ?_
  refine XS.istore X4.here hx rfl (hb hby d1_75) rfl (l' := #[.val (.ref o1), .val (.int p1), .val (.int (1 : Int32)), .val (.int (-p1)), .val (.int (7 : Int32)), .val (.int (-p1)), .unset]) rfl ?_
  refine XS.iload X4.here hx rfl (hb hby d1_77) rfl ?_
  refine XS.iconst X4.here hx rfl (hb hby d1_79) ?_
  refine XS.isub X4.here hx rfl (hb hby d1_80) rfl ?_
  show Steps p.tables e below (T4.setTop (mkF m 81 #[.val (.ref o1), .val (.int p1), .val (.int (1 : Int32)), .val (.int (-p1)), .val (.int (7 : Int32)), .val (.int (-p1)), .unset] [(.int ((7 : Int32) - (1 : Int32)))])) _
  rw [lf_20]
  refine XS.istore X4.here hx rfl (hb hby d1_81) rfl (l' := #[.val (.ref o1), .val (.int p1), .val (.int (1 : Int32)), .val (.int (-p1)), .val (.int (7 : Int32)), .val (.int (-p1)), .val (.int (6 : Int32))]) rfl ?_
  show Steps p.tables e below (T4.setTop (mkF m 83 #[.val (.ref o1), .val (.int p1), .val (.int (1 : Int32)), .val (.int (-p1)), .val (.int (7 : Int32)), .val (.int (-p1)), .val (.int (6 : Int32))] [])) _
  refine st5 _ ?_
  show Steps p.tables e below (T5.setTop (mkF m 83 #[.val (.ref o1), .val (.int p1), .val (.int (1 : Int32)), .val (.int (-p1)), .val (.int (7 : Int32)), .val (.int z5_5), .val (.int ((6 : Int32) + (-1 : Int32)))] [])) _
  rw [lf_21]
  show Steps p.tables e below (T5.setTop (mkF m 83 #[.val (.ref o1), .val (.int p1), .val (.int (1 : Int32)), .val (.int (-p1)), .val (.int (7 : Int32)), .val (.int z5_5), .val (.int (5 : Int32))] [])) _
  refine st6 _ ?_
  show Steps p.tables e below (T6.setTop (mkF m 83 #[.val (.ref o1), .val (.int p1), .val (.int (1 : Int32)), .val (.int (-p1)), .val (.int (7 : Int32)), .val (.int z5_6), .val (.int ((5 : Int32) + (-1 : Int32)))] [])) _
  rw [lf_14]
  show Steps p.tables e below (T6.setTop (mkF m 83 #[.val (.ref o1), .val (.int p1), .val (.int (1 : Int32)), .val (.int (-p1)), .val (.int (7 : Int32)), .val (.int z5_6), .val (.int (4 : Int32))] [])) _
  refine st7 _ ?_
  show Steps p.tables e below (T7.setTop (mkF m 83 #[.val (.ref o1), .val (.int p1), .val (.int (1 : Int32)), .val (.int (-p1)), .val (.int (7 : Int32)), .val (.int z5_7), .val (.int ((4 : Int32) + (-1 : Int32)))] [])) _
  rw [lf_2]
  show Steps p.tables e below (T7.setTop (mkF m 83 #[.val (.ref o1), .val (.int p1), .val (.int (1 : Int32)), .val (.int (-p1)), .val (.int (7 : Int32)), .val (.int z5_7), .val (.int (3 : Int32))] [])) _
  refine st8 _ ?_
  show Steps p.tables e below (T8.setTop (mkF m 83 #[.val (.ref o1), .val (.int p1), .val (.int (1 : Int32)), .val (.int (-p1)), .val (.int (7 : Int32)), .val (.int z5_8), .val (.int ((3 : Int32) + (-1 : Int32)))] [])) _
  rw [lf_3]
  show Steps p.tables e below (T8.setTop (mkF m 83 #[.val (.ref o1), .val (.int p1), .val (.int (1 : Int32)), .val (.int (-p1)), .val (.int (7 : Int32)), .val (.int z5_8), .val (.int (2 : Int32))] [])) _
  refine st9 _ ?_
  show Steps p.tables e below (T9.setTop (mkF m 83 #[.val (.ref o1), .val (.int p1), .val (.int (1 : Int32)), .val (.int (-p1)), .val (.int (7 : Int32)), .val (.int z5_9), .val (.int ((2 : Int32) + (-1 : Int32)))] [])) _
  rw [lf_4]
  show Steps p.tables e below (T9.setTop (mkF m 83 #[.val (.ref o1), .val (.int p1), .val (.int (1 : Int32)), .val (.int (-p1)), .val (.int (7 : Int32)), .val (.int z5_9), .val (.int (1 : Int32))] [])) _
  refine st10 _ ?_
  show Steps p.tables e below (T10.setTop (mkF m 83 #[.val (.ref o1), .val (.int p1), .val (.int (1 : Int32)), .val (.int (-p1)), .val (.int (7 : Int32)), .val (.int z5_10), .val (.int ((1 : Int32) + (-1 : Int32)))] [])) _
  rw [lf_5]
  refine XS.iload X10.here hx rfl (hb hby d1_83) rfl ?_
  refine XS.iloadN X10.here hx rfl (hb hby d1_85) rfl ?_
  refine XS.icmpYes X10.here hx rfl (pc0 := 86) (pc' := 115) rfl (hb hby d1_86) rfl (tlt (by decide : (0 : Int32) < (1 : Int32))).1 (by decide) (by decide) ?_
  refine XS.iload X10.here hx rfl (hb hby d1_115) rfl ?_
  show Steps p.tables e below (T10.setTop (mkF m 117 #[.val (.ref o1), .val (.int p1), .val (.int (1 : Int32)), .val (.int (-p1)), .val (.int (7 : Int32)), .val (.int z5_10), .val (.int (0 : Int32))] [(.int (7 : Int32))])) _
  exact retI X10 hx hret (hb hby d1_117) hr
set_option maxRecDepth 65536 in
set_option maxHeartbeats 40000000 in
theorem rm_105 (l : Launch) (Z : State) (a0 : Array Value) (hw : ∀ d ∈ tables_1, d.before a0 Z = true) (w : Nat → Addr) (kk : Nat → ClassId) (iw : Nat → Int32) (vw : Nat → Value) (hN : Wd Z w kk iw vw) (ws : List Jvm.Cond) (p0 : Int32) (h0 : Heap) (O0 : Old Z Z.heap.size h0) (hp0 : ¬ (p0 < (0 : Int32))) (hp1 : (9999 : Int32) < p0) (hp2 : ¬ (((-p0) / (10000 : Int32)) = (0 : Int32))) (hp3 : ¬ ((((-p0) / (10000 : Int32)) / (10 : Int32)) = (0 : Int32))) (hp4 : ((((-p0) / (10000 : Int32)) / (10 : Int32)) / (10 : Int32)) = (0 : Int32)) :
    Met l Z (⟨s_1, "yearText", s_4⟩ : MethodName) (Jvm.Cond.code (⟨s_1, "yearText", s_4⟩ : MethodName) prog_22_method_4_code 2 (some (.object s_0))) ws (Rm 6 3 22 101) #[(.int p0)] h0 (Qd_14 Z w kk iw vw p0 h0 Z.heap.size) := by
  have hN' := hN
  obtain ⟨hS0, hE0, hS1, hE1, hS2, hE2, hI0, hJ0, hR0, hRr0, hEq0⟩ := hN'
  refine own_body (plainFor_of_name pn_0) hisR ?_
  intro p e s m below meth c s₁ hx hby hml hown hnm hret X0 hZ e0
  have N0 := Fr.nil Z.heap.size
  have K0 : Keep h0 h0 [] := Keep.refl _ _
  obtain ⟨T1, h1, k1, X1, e1, E1, A1, AE1, st1⟩ := newPE X0 hx hZ (W hw 4 rfl) e0 (g := (mkF m 2 #[.val (.int p0), .unset] [(.int (11 : Int32))])) rfl (hb hby d0_2) rfl (by decide) (cap := 11) (by decide) (by decide) (by decide) (by decide) (ad := "[B") rfl
  obtain ⟨b1, g1⟩ : ∃ z, z = h0.size := ⟨_, rfl⟩
  rw [← g1] at A1 st1 AE1
  have gn_b1 : Z.heap.size ≤ b1 := Nat.le_trans O0.2.1 (Nat.le_of_eq g1.symm)
  have sz_b1 : h0.size ≤ b1 := Nat.le_trans K0.1 (Nat.le_of_eq g1.symm)
  have O1 := O0.ext E1
  have K1 := K0.ext E1
  have E_b1_v1 := AE1
  have V_b1_v1 : Arv Z h1 b1 k1 .byte (11 : Int32) [] (.int (0 : Int32)) := Arv.new A1 (by decide)
  obtain ⟨_, _, ⟨T2, L2, k2, n2⟩, -, X2, ⟨Lc2, hQ2, l2, y2, z2⟩, st2⟩ := Jvm.LawKit.callS X1 hx (y := (⟨s_1, "writeYear", "([BI)I"⟩ : MethodName)) hown (mvT hZ (W hw 5 rfl)) (mvT hZ (W hw 6 rfl)) (mvT hZ (W hw 2 rfl)) (mvT hZ (W hw 7 rfl)) (by decide) (backOf (W := 1) (rm_104 l Z a0 hw w kk iw vw hN [] b1 p0 k1 h1 O1 gn_b1 E_b1_v1.lt E_b1_v1 V_b1_v1 hp0 hp1 hp2 hp3 hp4) hZ (W hw 7 rfl) (W hw 2 rfl) (by decide) (by decide)) (g := (mkF m 8 #[.val (.int p0), .val (.ref b1)] [(.int p0), (.ref b1), (.ref b1)])) rfl (by rw [hml]; rfl) (argsL := [(.ref b1), (.int p0)]) (rest := [(.ref b1)]) (lenOf pd_0 rfl) rfl (by show 2 * 0 + _ ≤ _; exact Nat.le_of_eq rfl) (hb hby d0_8) (fun _ _ => ⟨rfl, e1, (by decide : 1 + 0 ≤ _), (by decide : 11 + 0 ≤ _)⟩)
  dsimp only [Pt.U, Pt.locs, Pt.cells, Pt.slots] at X2 l2 y2 z2 st2 hQ2
  subst l2 y2 z2
  obtain ⟨vl2_0, rfl, N2q, Kq2, tk2_0, tk2_1⟩ := hQ2
  have N2 := Fr.app N0 N2q
  have E_b1_v2 := E_b1_v1.keep Kq2
  have O2 := O1.keep Kq2 (allS gn_b1 all0)
  have K2 : Keep h0 T2.heap [] := K1.trans Kq2 (allS (Or.inr sz_b1) all0)
  obtain ⟨_, _, ⟨T3, L3, k3, n3⟩, -, X3, ⟨Lc3, hQ3, l3, y3, z3⟩, st3⟩ := Jvm.LawKit.callS X2 hx (y := (⟨s_1, "string", s_9⟩ : MethodName)) hown (mvT hZ (W hw 8 rfl)) (mvT hZ (W hw 9 rfl)) (mvT hZ (W hw 2 rfl)) (mvT hZ (W hw 10 rfl)) (by decide) (backOf (W := 0) (rm_42 l Z a0 hw w kk iw vw hN [] b1 vl2_0 k1 T2.heap O2 gn_b1 tk2_0.lt tk2_0 tk2_1) hZ (W hw 10 rfl) (W hw 2 rfl) (by decide) (by decide)) (g := (mkF m 11 #[.val (.int p0), .val (.ref b1)] [(.int (7 : Int32)), (.ref b1)])) rfl (by rw [hml]; rfl) (argsL := [(.ref b1), (.int (7 : Int32))]) (rest := []) (lenOf pd_9 rfl) rfl (by show 2 * 0 + _ ≤ _; exact Nat.le_of_eq rfl) (hb hby d0_11) (fun _ _ => ⟨rfl, rfl, (by decide : 1 + 2 ≤ _), (by decide : 11 + 11 ≤ _)⟩)
  dsimp only [Pt.U, Pt.locs, Pt.cells, Pt.slots] at X3 l3 y3 z3 st3 hQ3
  subst l3 y3 z3
  obtain ⟨b3_0, b3_1, kb3_0, vl3_0, rfl, N3q, Kq3, tk3_0, tk3_1, tk3_2, tk3_3, tk3_4, tk3_5, tk3_6, tk3_7⟩ := hQ3
  have N3 := Fr.app N2 N3q
  have gn_b3_0 : Z.heap.size ≤ b3_0 := Nat.le_trans O2.2.1 tk3_0
  have sz_b3_0 : h0.size ≤ b3_0 := Nat.le_trans K2.1 tk3_0
  have ne_b1_b3_0 : b1 ≠ b3_0 := Nat.ne_of_lt (Nat.lt_of_lt_of_le tk2_0.lt tk3_0)
  have gn_b3_1 : Z.heap.size ≤ b3_1 := Nat.le_trans O2.2.1 tk3_1
  have sz_b3_1 : h0.size ≤ b3_1 := Nat.le_trans K2.1 tk3_1
  have ne_b1_b3_1 : b1 ≠ b3_1 := Nat.ne_of_lt (Nat.lt_of_lt_of_le tk2_0.lt tk3_1)
  have tk2_0_v3 := tk2_0.keep Kq3
  have tk2_1_v3 := tk2_1.keep Kq3 nin0
  have O3 := O2.keep Kq3 all0
  have K3 : Keep h0 T3.heap [] := K2.trans Kq3 all0
  refine ⟨T3, some (.ref b3_0), _, _, _, by decide, by decide, X3, nofun, ⟨b3_0, b3_1, kb3_0, vl3_0, rfl, N3, K3, sz_b3_0, sz_b3_1, tk3_2, tk3_3, tk3_4, tk3_5, tk3_6, tk3_7⟩, fun fs hr => castTop (ef_10 m (.int p0) rfl) ?_⟩
  show Steps p.tables e below (s₁.setTop (mkF m 0 #[.val (.int p0), .unset] [])) _
  refine XS.bipush X0.here hx rfl (hb hby d0_0) ?_
  refine st1 _ ?_
  refine XS.astoreN X1.here hx rfl (hb hby d0_4) rfl rfl (l' := #[.val (.int p0), .val (.ref b1)]) rfl ?_
  refine XS.aloadN X1.here hx rfl (hb hby d0_5) rfl rfl ?_
  refine XS.aloadN X1.here hx rfl (hb hby d0_6) rfl rfl ?_
  refine XS.iloadN X1.here hx rfl (hb hby d0_7) rfl ?_
  refine st2 _ ?_
  refine st3 _ ?_
  show Steps p.tables e below (T3.setTop (mkF m 14 #[.val (.int p0), .val (.ref b1)] [(.ref b3_0)])) _
  exact retOut X3 hx hret rfl (Or.inr (Or.inr (Or.inr (Or.inr ⟨rfl, rfl, rfl⟩)))) (hb hby d0_14) hr
set_option maxRecDepth 65536 in
set_option maxHeartbeats 40000000 in
theorem law_106 (l : Launch) (Z : State) (a0 : Array Value) (hw : ∀ d ∈ tables_1, d.before a0 Z = true) (w : Nat → Addr) (kk : Nat → ClassId) (iw : Nat → Int32) (vw : Nat → Value) (hN : Wd Z w kk iw vw) (ws : List Jvm.Cond) (p0 : Int32) (h0 : Heap) (O0 : Old Z Z.heap.size h0) (hp0 : ¬ (p0 < (0 : Int32))) (hp1 : (9999 : Int32) < p0) (hp2 : ¬ (((-p0) / (10000 : Int32)) = (0 : Int32))) (hp3 : ¬ ((((-p0) / (10000 : Int32)) / (10 : Int32)) = (0 : Int32))) (hp4 : ((((-p0) / (10000 : Int32)) / (10 : Int32)) / (10 : Int32)) = (0 : Int32)) (hp5 : ¬ (p0 < (1000 : Int32))) :
    MetFree l x (head1 (Jvm.Cond.code x code maxLocals ret :: ws) room_1) (fun a U => a = #[(.int p0)] ∧ Z.Warmed39 U.vm ∧ U.heap = h0) (fun _ _ _ _ _ => True) (fun _ U o U' => ∃ v L, o = .returned v ∧ OL (some (.int (1 : Int32))) Z.heap.size v U'.heap L ∧ FrameEnd U o U' L 16 128) := by
  have hN' := hN
  obtain ⟨hS0, hE0, hS1, hE1, hS2, hE2, hI0, hJ0, hR0, hRr0, hEq0⟩ := hN'
  refine MetFree.of_bodySF (plainFor_of_name pn_5) hisR ?_
  intro p e s m args below meth c s₁ Bd hml0 hP hK
  obtain ⟨rfl, hZ, hh⟩ := hP
  have hx := Bd.exec
  have hby := Bd.bytes
  have hml : c.maxLocals = 3 := hml0
  have hown : s.vm.findClass s_3 = some m.cls := findClass_of_methodNamed Bd.named
  have hnm := (name_of_methodNamed Bd.named Bd.method).1
  have X0 : Stand p l e room_1 s m #[(.int p0)] below meth c s₁ [] 0 0 := Stand.of_body Bd
  have e0 : s₁.heap = h0 := by rw [← hh, Bd.state]; rfl
  have N0 := Fr.nil Z.heap.size
  obtain ⟨_, _, ⟨T1, L1, k1, n1⟩, -, X1, ⟨Lc1, hQ1, l1, y1, z1⟩, st1⟩ := Jvm.LawKit.callS X0 hx (y := (⟨s_1, "yearText", s_4⟩ : MethodName)) hown (mvT hZ (W hw 0 rfl)) (mvT hZ (W hw 1 rfl)) (mvT hZ (W hw 2 rfl)) (mvT hZ (W hw 3 rfl)) (by decide) (backOf (W := 0) (rm_105 l Z a0 hw w kk iw vw hN [] p0 h0 O0 hp0 hp1 hp2 hp3 hp4) hZ (W hw 3 rfl) (W hw 2 rfl) (by decide) (by decide)) (g := (mkF m 1 #[.val (.int p0), .unset, .unset] [(.int p0)])) rfl (by rw [hml]; rfl) (argsL := [(.int p0)]) (rest := []) (lenOf pd_10 rfl) rfl (by show 2 * 0 + _ ≤ _; exact Nat.le_of_eq rfl) (hb hby at_1) (fun _ _ => ⟨rfl, e0, (by decide : 0 + 3 ≤ _), (by decide : 0 + 22 ≤ _)⟩)
  dsimp only [Pt.U, Pt.locs, Pt.cells, Pt.slots] at X1 l1 y1 z1 st1 hQ1
  subst l1 y1 z1
  obtain ⟨b1_0, b1_1, kb1_0, vl1_0, rfl, N1q, Kq1, tk1_0, tk1_1, tk1_2, tk1_3, tk1_4, tk1_5, tk1_6, tk1_7⟩ := hQ1
  have N1 := Fr.app N0 N1q
  have gn_b1_0 : Z.heap.size ≤ b1_0 := Nat.le_trans O0.2.1 tk1_0
  have gn_b1_1 : Z.heap.size ≤ b1_1 := Nat.le_trans O0.2.1 tk1_1
  have O1 := O0.keep Kq1 all0
  obtain ⟨cq2, kq2, q2a, q2b, q2c⟩ := isOf hZ rfl tk1_3
  obtain ⟨_, _, ⟨T2, L2, k2, n2⟩, -, X2, ⟨Lc2, hQ2, l2, y2, z2⟩, st2⟩ := X1.virtualBack hx (y := (⟨s_0, "length", "()I"⟩ : MethodName)) (z := (⟨s_0, "length", "()I"⟩ : MethodName)) hown (mvT hZ (W hw 67 rfl)) (mvT hZ (W hw 68 rfl)) (notFace_of_selects (args := #[]) (mvT hZ (W hw 70 rfl))) (mvT hZ (W hw 70 rfl)) (mvT hZ (W hw 69 rfl)) (by decide) (backOf (W := 0) (rm_45 l Z a0 hw w kk iw vw hN [] b1_0 b1_1 vl1_0 kb1_0 T1.heap O1 gn_b1_0 tk1_3.lt tk1_3 gn_b1_1 tk1_6.lt tk1_4 tk1_5 tk1_6 tk1_7 tk1_2) hZ (W hw 71 rfl) (W hw 13 rfl) (by decide) (by decide)) q2a q2c (g := (mkF m 6 #[.val (.int p0), .val (.ref b1_0), .unset] [(.ref b1_0)])) rfl (by rw [hml]; rfl) (Steps.refl _) (argsL := []) (rest := []) (lenOf pd_12 rfl) rfl (by show 2 * 0 + _ ≤ _; exact Nat.le_of_eq rfl) (hb hby at_6) (fun _ _ => ⟨rfl, rfl, (by decide : 3 + 0 ≤ _), (by decide : 22 + 0 ≤ _)⟩)
  dsimp only [Pt.U, Pt.locs, Pt.cells, Pt.slots] at X2 l2 y2 z2 st2 hQ2
  subst l2 y2 z2
  obtain ⟨rfl, N2q, e2⟩ := hQ2
  have N2 := Fr.app N1 N2q
  obtain ⟨_, _, ⟨T3, L3, k3, n3⟩, -, X3, ⟨Lc3, hQ3, l3, y3, z3⟩, st3⟩ := Jvm.LawKit.callS X2 hx (y := (⟨s_1, s_15, "(I)Z"⟩ : MethodName)) hown (mvT hZ (W hw 97 rfl)) (mvT hZ (W hw 98 rfl)) (mvT hZ (W hw 2 rfl)) (mvT hZ (W hw 99 rfl)) (by decide) (backOf (W := 0) (rm_102 l Z a0 hw w kk iw vw hN [] p0 T1.heap O1 hp5 hp1) hZ (W hw 99 rfl) (W hw 2 rfl) (by decide) (by decide)) (g := (mkF m 30 #[.val (.int p0), .val (.ref b1_0), .val (.int (0 : Int32))] [(.int p0)])) rfl (by rw [hml]; rfl) (argsL := [(.int p0)]) (rest := []) (lenOf pd_13 rfl) rfl (by show 2 * 0 + _ ≤ _; exact Nat.le_of_eq rfl) (hb hby at_30) (fun _ _ => ⟨rfl, e2, (by decide : 3 + 0 ≤ _), (by decide : 22 + 0 ≤ _)⟩)
  dsimp only [Pt.U, Pt.locs, Pt.cells, Pt.slots] at X3 l3 y3 z3 st3 hQ3
  subst l3 y3 z3
  obtain ⟨rfl, N3q, e3⟩ := hQ3
  have N3 := Fr.app N2 N3q
  obtain ⟨fs, hr, hrun, hended, hW, hsame⟩ := X3.leave (v := some (.int (1 : Int32))) (fun h => by rw [Bd.returns] at h; cases h)
  refine ⟨_, _, castTop (ef_12 m (.int p0) rfl) ?_, hrun, hended, _, _, rfl, ?_, ⟨_, rfl⟩, hW, hsame.mono (by decide) (by decide)⟩
  · show Steps p.tables e below (s₁.setTop (mkF m 0 #[.val (.int p0), .unset, .unset] [])) _
    refine XS.iloadN X0.here hx rfl (hb hby at_0) rfl ?_
    refine st1 _ ?_
    refine XS.astoreN X1.here hx rfl (hb hby at_4) rfl rfl (l' := #[.val (.int p0), .val (.ref b1_0), .unset]) rfl ?_
    refine XS.aloadN X1.here hx rfl (hb hby at_5) rfl rfl ?_
    refine st2.trans ?_
    refine XS.iconst X2.here hx rfl (hb hby at_9) ?_
    refine XS.icmpYes X2.here hx rfl (pc0 := 10) (pc' := 27) rfl (hb hby at_10) rfl (feq (by decide : ¬ ((7 : Int32) = (4 : Int32)))).2 (by decide) (by decide) ?_
    refine XS.iconst X2.here hx rfl (hb hby at_27) ?_
    refine XS.istoreN X2.here hx rfl (hb hby at_28) rfl (l' := #[.val (.int p0), .val (.ref b1_0), .val (.int (0 : Int32))]) rfl ?_
    refine XS.iloadN X2.here hx rfl (hb hby at_29) rfl ?_
    show Steps p.tables e below (T2.setTop (mkF m 30 #[.val (.int p0), .val (.ref b1_0), .val (.int (0 : Int32))] [(.int p0)])) _
    refine st3 _ ?_
    refine XS.iloadN X3.here hx rfl (hb hby at_33) rfl ?_
    refine XS.icmpNo X3.here hx rfl (hb hby at_34) rfl (teq (by decide : (0 : Int32) = (0 : Int32))).2 ?_
    refine XS.iconst X3.here hx rfl (hb hby at_37) ?_
    refine XS.goto X3.here hx rfl (pc0 := 38) (pc' := 42) rfl (hb hby at_38) (by decide) (by decide) ?_
    show Steps p.tables e below (T3.setTop (mkF m 42 #[.val (.int p0), .val (.ref b1_0), .val (.int (0 : Int32))] [(.int (1 : Int32))])) _
    exact retN X3 hx (t := .boolean) Bd.returns (by simp) (hb hby at_42) hr
  · show OL (some (.int (1 : Int32))) Z.heap.size _ T3.heap _
    exact ⟨rfl, N3⟩
set_option maxRecDepth 65536 in
set_option maxHeartbeats 40000000 in
theorem rm_107 (l : Launch) (Z : State) (a0 : Array Value) (hw : ∀ d ∈ tables_1, d.before a0 Z = true) (w : Nat → Addr) (kk : Nat → ClassId) (iw : Nat → Int32) (vw : Nat → Value) (hN : Wd Z w kk iw vw) (ws : List Jvm.Cond) (o1 : Addr) (p1 : Int32) (kc_o1 : ClassId) (h0 : Heap) (O0 : Old Z Z.heap.size h0) (gn_o1 : Z.heap.size ≤ o1) (lt_o1 : o1 < h0.size) (E_o1 : Exa Z h0 o1 "[B") (V_o1 : Arv Z h0 o1 kc_o1 .byte (11 : Int32) [] (.int (0 : Int32))) (hp0 : ¬ (p1 < (0 : Int32))) (hp1 : (9999 : Int32) < p1) (hp2 : ¬ (((-p1) / (10000 : Int32)) = (0 : Int32))) (hp3 : ¬ ((((-p1) / (10000 : Int32)) / (10 : Int32)) = (0 : Int32))) (hp4 : ¬ (((((-p1) / (10000 : Int32)) / (10 : Int32)) / (10 : Int32)) = (0 : Int32))) (hp5 : (((((-p1) / (10000 : Int32)) / (10 : Int32)) / (10 : Int32)) / (10 : Int32)) = (0 : Int32)) :
    Met l Z (⟨s_1, "writeYear", "([BI)I"⟩ : MethodName) (Jvm.Cond.code (⟨s_1, "writeYear", "([BI)I"⟩ : MethodName) prog_22_method_7_code 7 (some .int)) ws (Rm 0 0 0 0) #[(.ref o1), (.int p1)] h0 (Qd_15 Z w kk iw vw o1 p1 kc_o1 h0 Z.heap.size) := by
  have hN' := hN
  obtain ⟨hS0, hE0, hS1, hE1, hS2, hE2, hI0, hJ0, hR0, hRr0, hEq0⟩ := hN'
  refine own_body (plainFor_of_name pn_0) hisR ?_
  intro p e s m below meth c s₁ hx hby hml hown hnm hret X0 hZ e0
  have N0 := Fr.nil Z.heap.size
  have K0 : Keep h0 h0 [o1] := Keep.refl _ _
  have Vc1 := V_o1
  obtain ⟨cl1, Ar1, q1, Sz1, Ng1, Hv1, Gv1⟩ := Vc1
  have hin1 : ¬ ((0 : Int32) < 0 ∨ cl1.slots.size ≤ ((0 : Int32)).toNatClampNeg) := inb_of Sz1 ⟨(by decide : ¬ ((0 : Int32) < (0 : Int32))), (by decide : (0 : Int32) < (11 : Int32))⟩
  obtain ⟨T2, h2, X2, e2, W2, st2⟩ := stB X0 hx hZ e0 Ar1 (j := (0 : Int32)) hin1 (g := (mkF m 25 #[.val (.ref o1), .val (.int p1), .unset, .unset, .unset, .unset, .unset] [(.int (43 : Int32)), (.int (0 : Int32)), (.ref o1)])) rfl rfl (hb hby d1_25)
  obtain ⟨vl2, V_o1_v2⟩ := own_store V_o1 W2 (fits_nar_byte _) ⟨(by decide : ¬ ((0 : Int32) < (0 : Int32))), (by decide : (0 : Int32) < (11 : Int32))⟩
  have N2 := Fr.snoc X2 N0 gn_o1
  have E_o1_v2 := E_o1.wr W2
  have O2 := O0.wr W2 gn_o1
  have K2 : Keep h0 h2 [o1] := K0.wr W2 (Or.inl (List.mem_of_getElem? (i := 0) rfl))
  obtain ⟨T3, L3, X3, st3, N3, e3⟩ := sg_18 w kk iw vw hN o1 p1 (1 : Int32) (-p1) (5 : Int32) ((-p1) / (10000 : Int32)) vl2 kc_o1 X2 hx hZ hw hby hml hown e2 O2 N2 gn_o1 E_o1_v2.lt E_o1_v2 V_o1_v2 hp2
  obtain ⟨T4, L4, X4, st4, N4, e4⟩ := sg_18 w kk iw vw hN o1 p1 (1 : Int32) (-p1) (6 : Int32) (((-p1) / (10000 : Int32)) / (10 : Int32)) vl2 kc_o1 X3 hx hZ hw hby hml hown e3 O2 N3 gn_o1 E_o1_v2.lt E_o1_v2 V_o1_v2 hp3
  obtain ⟨T5, L5, X5, st5, N5, e5⟩ := sg_18 w kk iw vw hN o1 p1 (1 : Int32) (-p1) (7 : Int32) ((((-p1) / (10000 : Int32)) / (10 : Int32)) / (10 : Int32)) vl2 kc_o1 X4 hx hZ hw hby hml hown e4 O2 N4 gn_o1 E_o1_v2.lt E_o1_v2 V_o1_v2 hp4
  obtain ⟨T6, L6, vl6_0, z5_6, X6, st6, N6, Kq6, tk6_0, tk6_1⟩ := sg_1 w kk iw vw hN o1 p1 (1 : Int32) (-p1) (8 : Int32) (-p1) (7 : Int32) vl2 kc_o1 X5 hx hZ hw hby hml hown e5 O2 N5 gn_o1 E_o1_v2.lt E_o1_v2 V_o1_v2 (by decide : ¬ ((7 : Int32) < (1 : Int32))) (by decide : ¬ ((7 : Int32) < (0 : Int32))) (by decide : (7 : Int32) < (11 : Int32))
  have E_o1_v6 := E_o1_v2.keep Kq6
  have O6 := O2.keep Kq6 (allS gn_o1 all0)
  have K6 : Keep h0 T6.heap [o1] := K2.trans Kq6 (allS (Or.inl (List.mem_of_getElem? (i := 0) rfl)) all0)
  obtain ⟨T7, L7, vl7_0, z5_7, X7, st7, N7, Kq7, tk7_0, tk7_1⟩ := sg_1 w kk iw vw hN o1 p1 (1 : Int32) (-p1) (8 : Int32) z5_6 (6 : Int32) vl6_0 kc_o1 X6 hx hZ hw hby hml hown rfl O6 N6 gn_o1 tk6_0.lt tk6_0 tk6_1 (by decide : ¬ ((6 : Int32) < (1 : Int32))) (by decide : ¬ ((6 : Int32) < (0 : Int32))) (by decide : (6 : Int32) < (11 : Int32))
  have tk6_0_v7 := tk6_0.keep Kq7
  have O7 := O6.keep Kq7 (allS gn_o1 all0)
  have K7 : Keep h0 T7.heap [o1] := K6.trans Kq7 (allS (Or.inl (List.mem_of_getElem? (i := 0) rfl)) all0)
  obtain ⟨T8, L8, vl8_0, z5_8, X8, st8, N8, Kq8, tk8_0, tk8_1⟩ := sg_1 w kk iw vw hN o1 p1 (1 : Int32) (-p1) (8 : Int32) z5_7 (5 : Int32) vl7_0 kc_o1 X7 hx hZ hw hby hml hown rfl O7 N7 gn_o1 tk7_0.lt tk7_0 tk7_1 (by decide : ¬ ((5 : Int32) < (1 : Int32))) (by decide : ¬ ((5 : Int32) < (0 : Int32))) (by decide : (5 : Int32) < (11 : Int32))
  have tk7_0_v8 := tk7_0.keep Kq8
  have O8 := O7.keep Kq8 (allS gn_o1 all0)
  have K8 : Keep h0 T8.heap [o1] := K7.trans Kq8 (allS (Or.inl (List.mem_of_getElem? (i := 0) rfl)) all0)
  obtain ⟨T9, L9, vl9_0, z5_9, X9, st9, N9, Kq9, tk9_0, tk9_1⟩ := sg_1 w kk iw vw hN o1 p1 (1 : Int32) (-p1) (8 : Int32) z5_8 (4 : Int32) vl8_0 kc_o1 X8 hx hZ hw hby hml hown rfl O8 N8 gn_o1 tk8_0.lt tk8_0 tk8_1 (by decide : ¬ ((4 : Int32) < (1 : Int32))) (by decide : ¬ ((4 : Int32) < (0 : Int32))) (by decide : (4 : Int32) < (11 : Int32))
  have tk8_0_v9 := tk8_0.keep Kq9
  have O9 := O8.keep Kq9 (allS gn_o1 all0)
  have K9 : Keep h0 T9.heap [o1] := K8.trans Kq9 (allS (Or.inl (List.mem_of_getElem? (i := 0) rfl)) all0)
  obtain ⟨T10, L10, vl10_0, z5_10, X10, st10, N10, Kq10, tk10_0, tk10_1⟩ := sg_1 w kk iw vw hN o1 p1 (1 : Int32) (-p1) (8 : Int32) z5_9 (3 : Int32) vl9_0 kc_o1 X9 hx hZ hw hby hml hown rfl O9 N9 gn_o1 tk9_0.lt tk9_0 tk9_1 (by decide : ¬ ((3 : Int32) < (1 : Int32))) (by decide : ¬ ((3 : Int32) < (0 : Int32))) (by decide : (3 : Int32) < (11 : Int32))
  have tk9_0_v10 := tk9_0.keep Kq10
  have O10 := O9.keep Kq10 (allS gn_o1 all0)
  have K10 : Keep h0 T10.heap [o1] := K9.trans Kq10 (allS (Or.inl (List.mem_of_getElem? (i := 0) rfl)) all0)
  obtain ⟨T11, L11, vl11_0, z5_11, X11, st11, N11, Kq11, tk11_0, tk11_1⟩ := sg_1 w kk iw vw hN o1 p1 (1 : Int32) (-p1) (8 : Int32) z5_10 (2 : Int32) vl10_0 kc_o1 X10 hx hZ hw hby hml hown rfl O10 N10 gn_o1 tk10_0.lt tk10_0 tk10_1 (by decide : ¬ ((2 : Int32) < (1 : Int32))) (by decide : ¬ ((2 : Int32) < (0 : Int32))) (by decide : (2 : Int32) < (11 : Int32))
  have tk10_0_v11 := tk10_0.keep Kq11
  have O11 := O10.keep Kq11 (allS gn_o1 all0)
  have K11 : Keep h0 T11.heap [o1] := K10.trans Kq11 (allS (Or.inl (List.mem_of_getElem? (i := 0) rfl)) all0)
  obtain ⟨T12, L12, vl12_0, z5_12, X12, st12, N12, Kq12, tk12_0, tk12_1⟩ := sg_1 w kk iw vw hN o1 p1 (1 : Int32) (-p1) (8 : Int32) z5_11 (1 : Int32) vl11_0 kc_o1 X11 hx hZ hw hby hml hown rfl O11 N11 gn_o1 tk11_0.lt tk11_0 tk11_1 (by decide : ¬ ((1 : Int32) < (1 : Int32))) (by decide : ¬ ((1 : Int32) < (0 : Int32))) (by decide : (1 : Int32) < (11 : Int32))
  have tk11_0_v12 := tk11_0.keep Kq12
  have O12 := O11.keep Kq12 (allS gn_o1 all0)
  have K12 : Keep h0 T12.heap [o1] := K11.trans Kq12 (allS (Or.inl (List.mem_of_getElem? (i := 0) rfl)) all0)
  refine ⟨T12, some (.int (8 : Int32)), _, _, _, by decide, by decide, X12, nofun, ⟨vl12_0, rfl, N12, K12, tk12_0, tk12_1⟩, fun fs hr => castTop (ef_0 m (.ref o1) rfl (.int p1) rfl) ?_⟩
  show Steps p.tables e below (s₁.setTop (mkF m 0 #[.val (.ref o1), .val (.int p1), .unset, .unset, .unset, .unset, .unset] [])) _
  refine XS.iloadN X0.here hx rfl (hb hby d1_0) rfl ?_
  refine XS.ifYes X0.here hx rfl (pc0 := 1) (pc' := 14) rfl (hb hby d1_1) rfl ((if0 _ _).trans (flt hp0).2.1) (by decide) (by decide) ?_
  refine XS.iloadN X0.here hx rfl (hb hby d1_14) rfl ?_
  refine XS.sipush X0.here hx rfl (hb hby d1_15) ?_
  refine XS.icmpNo X0.here hx rfl (hb hby d1_18) rfl (tlt hp1).2.2.2 ?_
  refine XS.aloadN X0.here hx rfl (hb hby d1_21) rfl rfl ?_
  refine XS.iconst X0.here hx rfl (hb hby d1_22) ?_
  refine XS.bipush X0.here hx rfl (hb hby d1_23) ?_
  refine st2 _ ?_
  refine XS.iconst X2.here hx rfl (hb hby d1_26) ?_
  show Steps p.tables e below (T2.setTop (mkF m 27 #[.val (.ref o1), .val (.int p1), .unset, .unset, .unset, .unset, .unset] [(.int (1 : Int32))])) _
  refine XS.istoreN X2.here hx rfl (hb hby d1_27) rfl (l' := #[.val (.ref o1), .val (.int p1), .val (.int (1 : Int32)), .unset, .unset, .unset, .unset]) rfl ?_
  refine XS.goto X2.here hx rfl (pc0 := 28) (pc' := 33) rfl (hb hby d1_28) (by decide) (by decide) ?_
  refine XS.iloadN X2.here hx rfl (hb hby d1_33) rfl ?_
  refine XS.ifYes X2.here hx rfl (pc0 := 34) (pc' := 41) rfl (hb hby d1_34) rfl ((if0 _ _).trans (flt hp0).2.1) (by decide) (by decide) ?_
  refine XS.iloadN X2.here hx rfl (hb hby d1_41) rfl ?_
  refine XS.ineg X2.here hx rfl (hb hby d1_42) rfl ?_
  refine XS.istoreN X2.here hx rfl (hb hby d1_43) rfl (l' := #[.val (.ref o1), .val (.int p1), .val (.int (1 : Int32)), .val (.int (-p1)), .unset, .unset, .unset]) rfl ?_
  refine XS.iloadN X2.here hx rfl (hb hby d1_44) rfl ?_
  refine XS.iconst X2.here hx rfl (hb hby d1_45) ?_
  refine XS.iadd X2.here hx rfl (hb hby d1_46) rfl ?_
  show Steps p.tables e below (T2.setTop (mkF m 47 #[.val (.ref o1), .val (.int p1), .val (.int (1 : Int32)), .val (.int (-p1)), .unset, .unset, .unset] [(.int ((1 : Int32) + (4 : Int32)))])) _
  rw [lf_0]
  show Steps p.tables e below (T2.setTop (mkF m 47 #[.val (.ref o1), .val (.int p1), .val (.int (1 : Int32)), .val (.int (-p1)), .unset, .unset, .unset] [(.int (5 : Int32))])) _
  refine XS.istore X2.here hx rfl (hb hby d1_47) rfl (l' := #[.val (.ref o1), .val (.int p1), .val (.int (1 : Int32)), .val (.int (-p1)), .val (.int (5 : Int32)), .unset, .unset]) rfl ?_
  refine XS.iloadN X2.here hx rfl (hb hby d1_49) rfl ?_
  refine XS.sipush X2.here hx rfl (hb hby d1_50) ?_
  refine XS.idiv X2.here hx rfl (hb hby d1_53) rfl (by decide : ¬ ((10000 : Int32) = (0 : Int32))) ?_
  refine XS.istore X2.here hx rfl (hb hby d1_54) rfl (l' := #[.val (.ref o1), .val (.int p1), .val (.int (1 : Int32)), .val (.int (-p1)), .val (.int (5 : Int32)), .val (.int ((-p1) / (10000 : Int32))), .unset]) rfl ?_
  show Steps p.tables e below (T2.setTop (mkF m 56 #[.val (.ref o1), .val (.int p1), .val (.int (1 : Int32)), .val (.int (-p1)), .val (.int (5 : Int32)), .val (.int ((-p1) / (10000 : Int32))), .unset] [])) _
  refine st3 _ ?_
  show Steps p.tables e below (T3.setTop (mkF m 56 #[.val (.ref o1), .val (.int p1), .val (.int (1 : Int32)), .val (.int (-p1)), .val (.int ((5 : Int32) + (1 : Int32))), .val (.int (((-p1) / (10000 : Int32)) / (10 : Int32))), .unset] [])) _
  rw [lf_12]
  show Steps p.tables e below (T3.setTop (mkF m 56 #[.val (.ref o1), .val (.int p1), .val (.int (1 : Int32)), .val (.int (-p1)), .val (.int (6 : Int32)), .val (.int (((-p1) / (10000 : Int32)) / (10 : Int32))), .unset] [])) _
  refine st4 _ ?_
  show Steps p.tables e below (T4.setTop (mkF m 56 #[.val (.ref o1), .val (.int p1), .val (.int (1 : Int32)), .val (.int (-p1)), .val (.int ((6 : Int32) + (1 : Int32))), .val (.int ((((-p1) / (10000 : Int32)) / (10 : Int32)) / (10 : Int32))), .unset] [])) _
  rw [lf_19]
  show Steps p.tables e below (T4.setTop (mkF m 56 #[.val (.ref o1), .val (.int p1), .val (.int (1 : Int32)), .val (.int (-p1)), .val (.int (7 : Int32)), .val (.int ((((-p1) / (10000 : Int32)) / (10 : Int32)) / (10 : Int32))), .unset] [])) _
  refine st5 _ ?_
  show Steps p.tables e below (T5.setTop (mkF m 56 #[.val (.ref o1), .val (.int p1), .val (.int (1 : Int32)), .val (.int (-p1)), .val (.int ((7 : Int32) + (1 : Int32))), .val (.int (((((-p1) / (10000 : Int32)) / (10 : Int32)) / (10 : Int32)) / (10 : Int32))), .unset] [])) _
  rw [lf_26]
  refine XS.iload X5.here hx rfl (hb hby d1_56) rfl ?_
  refine XS.ifYes X5.here hx rfl (pc0 := 58) (pc' := 74) rfl (hb hby d1_58) rfl ((if0 _ _).trans (teq hp5).1) (by decide) (by decide) ?_
  refine XS.iloadN X5.here hx rfl (hb hby d1_74) rfl ?_
  refine XS.istore X5.here hx rfl (hb hby d1_75) rfl (l' := #[.val (.ref o1), .val (.int p1), .val (.int (1 : Int32)), .val (.int (-p1)), .val (.int (8 : Int32)), .val (.int (-p1)), .unset]) rfl ?_
  refine XS.iload X5.here hx rfl (hb hby d1_77) rfl ?_
  refine XS.iconst X5.here hx rfl (hb hby d1_79) ?_
  refine XS.isub X5.here hx rfl (hb hby d1_80) rfl ?_
  show Steps p.tables e below (T5.setTop (mkF m 81 #[.val (.ref o1), .val (.int p1), .val (.int (1 : Int32)), .val (.int (-p1)), .val (.int (8 : Int32)), .val (.int (-p1)), .unset] [(.int ((8 : Int32) - (1 : Int32)))])) _
  rw [lf_27]
  refine XS.istore X5.here hx rfl (hb hby d1_81) rfl (l' := #[.val (.ref o1), .val (.int p1), .val (.int (1 : Int32)), .val (.int (-p1)), .val (.int (8 : Int32)), .val (.int (-p1)), .val (.int (7 : Int32))]) rfl ?_
  show Steps p.tables e below (T5.setTop (mkF m 83 #[.val (.ref o1), .val (.int p1), .val (.int (1 : Int32)), .val (.int (-p1)), .val (.int (8 : Int32)), .val (.int (-p1)), .val (.int (7 : Int32))] [])) _
  refine st6 _ ?_
  show Steps p.tables e below (T6.setTop (mkF m 83 #[.val (.ref o1), .val (.int p1), .val (.int (1 : Int32)), .val (.int (-p1)), .val (.int (8 : Int32)), .val (.int z5_6), .val (.int ((7 : Int32) + (-1 : Int32)))] [])) _
  rw [lf_28]
  show Steps p.tables e below (T6.setTop (mkF m 83 #[.val (.ref o1), .val (.int p1), .val (.int (1 : Int32)), .val (.int (-p1)), .val (.int (8 : Int32)), .val (.int z5_6), .val (.int (6 : Int32))] [])) _
  refine st7 _ ?_
  show Steps p.tables e below (T7.setTop (mkF m 83 #[.val (.ref o1), .val (.int p1), .val (.int (1 : Int32)), .val (.int (-p1)), .val (.int (8 : Int32)), .val (.int z5_7), .val (.int ((6 : Int32) + (-1 : Int32)))] [])) _
  rw [lf_21]
  show Steps p.tables e below (T7.setTop (mkF m 83 #[.val (.ref o1), .val (.int p1), .val (.int (1 : Int32)), .val (.int (-p1)), .val (.int (8 : Int32)), .val (.int z5_7), .val (.int (5 : Int32))] [])) _
  refine st8 _ ?_
  show Steps p.tables e below (T8.setTop (mkF m 83 #[.val (.ref o1), .val (.int p1), .val (.int (1 : Int32)), .val (.int (-p1)), .val (.int (8 : Int32)), .val (.int z5_8), .val (.int ((5 : Int32) + (-1 : Int32)))] [])) _
  rw [lf_14]
  show Steps p.tables e below (T8.setTop (mkF m 83 #[.val (.ref o1), .val (.int p1), .val (.int (1 : Int32)), .val (.int (-p1)), .val (.int (8 : Int32)), .val (.int z5_8), .val (.int (4 : Int32))] [])) _
  refine st9 _ ?_
  show Steps p.tables e below (T9.setTop (mkF m 83 #[.val (.ref o1), .val (.int p1), .val (.int (1 : Int32)), .val (.int (-p1)), .val (.int (8 : Int32)), .val (.int z5_9), .val (.int ((4 : Int32) + (-1 : Int32)))] [])) _
  rw [lf_2]
  show Steps p.tables e below (T9.setTop (mkF m 83 #[.val (.ref o1), .val (.int p1), .val (.int (1 : Int32)), .val (.int (-p1)), .val (.int (8 : Int32)), .val (.int z5_9), .val (.int (3 : Int32))] [])) _
  refine st10 _ ?_
  show Steps p.tables e below (T10.setTop (mkF m 83 #[.val (.ref o1), .val (.int p1), .val (.int (1 : Int32)), .val (.int (-p1)), .val (.int (8 : Int32)), .val (.int z5_10), .val (.int ((3 : Int32) + (-1 : Int32)))] [])) _
  rw [lf_3]
  show Steps p.tables e below (T10.setTop (mkF m 83 #[.val (.ref o1), .val (.int p1), .val (.int (1 : Int32)), .val (.int (-p1)), .val (.int (8 : Int32)), .val (.int z5_10), .val (.int (2 : Int32))] [])) _
  refine st11 _ ?_
  show Steps p.tables e below (T11.setTop (mkF m 83 #[.val (.ref o1), .val (.int p1), .val (.int (1 : Int32)), .val (.int (-p1)), .val (.int (8 : Int32)), .val (.int z5_11), .val (.int ((2 : Int32) + (-1 : Int32)))] [])) _
  rw [lf_4]
  show Steps p.tables e below (T11.setTop (mkF m 83 #[.val (.ref o1), .val (.int p1), .val (.int (1 : Int32)), .val (.int (-p1)), .val (.int (8 : Int32)), .val (.int z5_11), .val (.int (1 : Int32))] [])) _
  refine st12 _ ?_
  show Steps p.tables e below (T12.setTop (mkF m 83 #[.val (.ref o1), .val (.int p1), .val (.int (1 : Int32)), .val (.int (-p1)), .val (.int (8 : Int32)), .val (.int z5_12), .val (.int ((1 : Int32) + (-1 : Int32)))] [])) _
  rw [lf_5]
  refine XS.iload X12.here hx rfl (hb hby d1_83) rfl ?_
  refine XS.iloadN X12.here hx rfl (hb hby d1_85) rfl ?_
  refine XS.icmpYes X12.here hx rfl (pc0 := 86) (pc' := 115) rfl (hb hby d1_86) rfl (tlt (by decide : (0 : Int32) < (1 : Int32))).1 (by decide) (by decide) ?_
  refine XS.iload X12.here hx rfl (hb hby d1_115) rfl ?_
  show Steps p.tables e below (T12.setTop (mkF m 117 #[.val (.ref o1), .val (.int p1), .val (.int (1 : Int32)), .val (.int (-p1)), .val (.int (8 : Int32)), .val (.int z5_12), .val (.int (0 : Int32))] [(.int (8 : Int32))])) _
  exact retI X12 hx hret (hb hby d1_117) hr
set_option maxRecDepth 65536 in
set_option maxHeartbeats 40000000 in
theorem rm_108 (l : Launch) (Z : State) (a0 : Array Value) (hw : ∀ d ∈ tables_1, d.before a0 Z = true) (w : Nat → Addr) (kk : Nat → ClassId) (iw : Nat → Int32) (vw : Nat → Value) (hN : Wd Z w kk iw vw) (ws : List Jvm.Cond) (p0 : Int32) (h0 : Heap) (O0 : Old Z Z.heap.size h0) (hp0 : ¬ (p0 < (0 : Int32))) (hp1 : (9999 : Int32) < p0) (hp2 : ¬ (((-p0) / (10000 : Int32)) = (0 : Int32))) (hp3 : ¬ ((((-p0) / (10000 : Int32)) / (10 : Int32)) = (0 : Int32))) (hp4 : ¬ (((((-p0) / (10000 : Int32)) / (10 : Int32)) / (10 : Int32)) = (0 : Int32))) (hp5 : (((((-p0) / (10000 : Int32)) / (10 : Int32)) / (10 : Int32)) / (10 : Int32)) = (0 : Int32)) :
    Met l Z (⟨s_1, "yearText", s_4⟩ : MethodName) (Jvm.Cond.code (⟨s_1, "yearText", s_4⟩ : MethodName) prog_22_method_4_code 2 (some (.object s_0))) ws (Rm 6 3 23 101) #[(.int p0)] h0 (Qd_19 Z w kk iw vw p0 h0 Z.heap.size) := by
  have hN' := hN
  obtain ⟨hS0, hE0, hS1, hE1, hS2, hE2, hI0, hJ0, hR0, hRr0, hEq0⟩ := hN'
  refine own_body (plainFor_of_name pn_0) hisR ?_
  intro p e s m below meth c s₁ hx hby hml hown hnm hret X0 hZ e0
  have N0 := Fr.nil Z.heap.size
  have K0 : Keep h0 h0 [] := Keep.refl _ _
  obtain ⟨T1, h1, k1, X1, e1, E1, A1, AE1, st1⟩ := newPE X0 hx hZ (W hw 4 rfl) e0 (g := (mkF m 2 #[.val (.int p0), .unset] [(.int (11 : Int32))])) rfl (hb hby d0_2) rfl (by decide) (cap := 11) (by decide) (by decide) (by decide) (by decide) (ad := "[B") rfl
  obtain ⟨b1, g1⟩ : ∃ z, z = h0.size := ⟨_, rfl⟩
  rw [← g1] at A1 st1 AE1
  have gn_b1 : Z.heap.size ≤ b1 := Nat.le_trans O0.2.1 (Nat.le_of_eq g1.symm)
  have sz_b1 : h0.size ≤ b1 := Nat.le_trans K0.1 (Nat.le_of_eq g1.symm)
  have O1 := O0.ext E1
  have K1 := K0.ext E1
  have E_b1_v1 := AE1
  have V_b1_v1 : Arv Z h1 b1 k1 .byte (11 : Int32) [] (.int (0 : Int32)) := Arv.new A1 (by decide)
  obtain ⟨_, _, ⟨T2, L2, k2, n2⟩, -, X2, ⟨Lc2, hQ2, l2, y2, z2⟩, st2⟩ := Jvm.LawKit.callS X1 hx (y := (⟨s_1, "writeYear", "([BI)I"⟩ : MethodName)) hown (mvT hZ (W hw 5 rfl)) (mvT hZ (W hw 6 rfl)) (mvT hZ (W hw 2 rfl)) (mvT hZ (W hw 7 rfl)) (by decide) (backOf (W := 1) (rm_107 l Z a0 hw w kk iw vw hN [] b1 p0 k1 h1 O1 gn_b1 E_b1_v1.lt E_b1_v1 V_b1_v1 hp0 hp1 hp2 hp3 hp4 hp5) hZ (W hw 7 rfl) (W hw 2 rfl) (by decide) (by decide)) (g := (mkF m 8 #[.val (.int p0), .val (.ref b1)] [(.int p0), (.ref b1), (.ref b1)])) rfl (by rw [hml]; rfl) (argsL := [(.ref b1), (.int p0)]) (rest := [(.ref b1)]) (lenOf pd_0 rfl) rfl (by show 2 * 0 + _ ≤ _; exact Nat.le_of_eq rfl) (hb hby d0_8) (fun _ _ => ⟨rfl, e1, (by decide : 1 + 0 ≤ _), (by decide : 11 + 0 ≤ _)⟩)
  dsimp only [Pt.U, Pt.locs, Pt.cells, Pt.slots] at X2 l2 y2 z2 st2 hQ2
  subst l2 y2 z2
  obtain ⟨vl2_0, rfl, N2q, Kq2, tk2_0, tk2_1⟩ := hQ2
  have N2 := Fr.app N0 N2q
  have E_b1_v2 := E_b1_v1.keep Kq2
  have O2 := O1.keep Kq2 (allS gn_b1 all0)
  have K2 : Keep h0 T2.heap [] := K1.trans Kq2 (allS (Or.inr sz_b1) all0)
  obtain ⟨_, _, ⟨T3, L3, k3, n3⟩, -, X3, ⟨Lc3, hQ3, l3, y3, z3⟩, st3⟩ := Jvm.LawKit.callS X2 hx (y := (⟨s_1, "string", s_9⟩ : MethodName)) hown (mvT hZ (W hw 8 rfl)) (mvT hZ (W hw 9 rfl)) (mvT hZ (W hw 2 rfl)) (mvT hZ (W hw 10 rfl)) (by decide) (backOf (W := 0) (rm_56 l Z a0 hw w kk iw vw hN [] b1 vl2_0 k1 T2.heap O2 gn_b1 tk2_0.lt tk2_0 tk2_1) hZ (W hw 10 rfl) (W hw 2 rfl) (by decide) (by decide)) (g := (mkF m 11 #[.val (.int p0), .val (.ref b1)] [(.int (8 : Int32)), (.ref b1)])) rfl (by rw [hml]; rfl) (argsL := [(.ref b1), (.int (8 : Int32))]) (rest := []) (lenOf pd_9 rfl) rfl (by show 2 * 0 + _ ≤ _; exact Nat.le_of_eq rfl) (hb hby d0_11) (fun _ _ => ⟨rfl, rfl, (by decide : 1 + 2 ≤ _), (by decide : 11 + 12 ≤ _)⟩)
  dsimp only [Pt.U, Pt.locs, Pt.cells, Pt.slots] at X3 l3 y3 z3 st3 hQ3
  subst l3 y3 z3
  obtain ⟨b3_0, b3_1, kb3_0, vl3_0, rfl, N3q, Kq3, tk3_0, tk3_1, tk3_2, tk3_3, tk3_4, tk3_5, tk3_6, tk3_7⟩ := hQ3
  have N3 := Fr.app N2 N3q
  have gn_b3_0 : Z.heap.size ≤ b3_0 := Nat.le_trans O2.2.1 tk3_0
  have sz_b3_0 : h0.size ≤ b3_0 := Nat.le_trans K2.1 tk3_0
  have ne_b1_b3_0 : b1 ≠ b3_0 := Nat.ne_of_lt (Nat.lt_of_lt_of_le tk2_0.lt tk3_0)
  have gn_b3_1 : Z.heap.size ≤ b3_1 := Nat.le_trans O2.2.1 tk3_1
  have sz_b3_1 : h0.size ≤ b3_1 := Nat.le_trans K2.1 tk3_1
  have ne_b1_b3_1 : b1 ≠ b3_1 := Nat.ne_of_lt (Nat.lt_of_lt_of_le tk2_0.lt tk3_1)
  have tk2_0_v3 := tk2_0.keep Kq3
  have tk2_1_v3 := tk2_1.keep Kq3 nin0
  have O3 := O2.keep Kq3 all0
  have K3 : Keep h0 T3.heap [] := K2.trans Kq3 all0
  refine ⟨T3, some (.ref b3_0), _, _, _, by decide, by decide, X3, nofun, ⟨b3_0, b3_1, kb3_0, vl3_0, rfl, N3, K3, sz_b3_0, sz_b3_1, tk3_2, tk3_3, tk3_4, tk3_5, tk3_6, tk3_7⟩, fun fs hr => castTop (ef_10 m (.int p0) rfl) ?_⟩
  show Steps p.tables e below (s₁.setTop (mkF m 0 #[.val (.int p0), .unset] [])) _
  refine XS.bipush X0.here hx rfl (hb hby d0_0) ?_
  refine st1 _ ?_
  refine XS.astoreN X1.here hx rfl (hb hby d0_4) rfl rfl (l' := #[.val (.int p0), .val (.ref b1)]) rfl ?_
  refine XS.aloadN X1.here hx rfl (hb hby d0_5) rfl rfl ?_
  refine XS.aloadN X1.here hx rfl (hb hby d0_6) rfl rfl ?_
  refine XS.iloadN X1.here hx rfl (hb hby d0_7) rfl ?_
  refine st2 _ ?_
  refine st3 _ ?_
  show Steps p.tables e below (T3.setTop (mkF m 14 #[.val (.int p0), .val (.ref b1)] [(.ref b3_0)])) _
  exact retOut X3 hx hret rfl (Or.inr (Or.inr (Or.inr (Or.inr ⟨rfl, rfl, rfl⟩)))) (hb hby d0_14) hr
set_option maxRecDepth 65536 in
set_option maxHeartbeats 40000000 in
theorem law_109 (l : Launch) (Z : State) (a0 : Array Value) (hw : ∀ d ∈ tables_1, d.before a0 Z = true) (w : Nat → Addr) (kk : Nat → ClassId) (iw : Nat → Int32) (vw : Nat → Value) (hN : Wd Z w kk iw vw) (ws : List Jvm.Cond) (p0 : Int32) (h0 : Heap) (O0 : Old Z Z.heap.size h0) (hp0 : ¬ (p0 < (0 : Int32))) (hp1 : (9999 : Int32) < p0) (hp2 : ¬ (((-p0) / (10000 : Int32)) = (0 : Int32))) (hp3 : ¬ ((((-p0) / (10000 : Int32)) / (10 : Int32)) = (0 : Int32))) (hp4 : ¬ (((((-p0) / (10000 : Int32)) / (10 : Int32)) / (10 : Int32)) = (0 : Int32))) (hp5 : (((((-p0) / (10000 : Int32)) / (10 : Int32)) / (10 : Int32)) / (10 : Int32)) = (0 : Int32)) (hp6 : ¬ (p0 < (1000 : Int32))) :
    MetFree l x (head1 (Jvm.Cond.code x code maxLocals ret :: ws) room_1) (fun a U => a = #[(.int p0)] ∧ Z.Warmed39 U.vm ∧ U.heap = h0) (fun _ _ _ _ _ => True) (fun _ U o U' => ∃ v L, o = .returned v ∧ OL (some (.int (1 : Int32))) Z.heap.size v U'.heap L ∧ FrameEnd U o U' L 16 128) := by
  have hN' := hN
  obtain ⟨hS0, hE0, hS1, hE1, hS2, hE2, hI0, hJ0, hR0, hRr0, hEq0⟩ := hN'
  refine MetFree.of_bodySF (plainFor_of_name pn_5) hisR ?_
  intro p e s m args below meth c s₁ Bd hml0 hP hK
  obtain ⟨rfl, hZ, hh⟩ := hP
  have hx := Bd.exec
  have hby := Bd.bytes
  have hml : c.maxLocals = 3 := hml0
  have hown : s.vm.findClass s_3 = some m.cls := findClass_of_methodNamed Bd.named
  have hnm := (name_of_methodNamed Bd.named Bd.method).1
  have X0 : Stand p l e room_1 s m #[(.int p0)] below meth c s₁ [] 0 0 := Stand.of_body Bd
  have e0 : s₁.heap = h0 := by rw [← hh, Bd.state]; rfl
  have N0 := Fr.nil Z.heap.size
  obtain ⟨_, _, ⟨T1, L1, k1, n1⟩, -, X1, ⟨Lc1, hQ1, l1, y1, z1⟩, st1⟩ := Jvm.LawKit.callS X0 hx (y := (⟨s_1, "yearText", s_4⟩ : MethodName)) hown (mvT hZ (W hw 0 rfl)) (mvT hZ (W hw 1 rfl)) (mvT hZ (W hw 2 rfl)) (mvT hZ (W hw 3 rfl)) (by decide) (backOf (W := 0) (rm_108 l Z a0 hw w kk iw vw hN [] p0 h0 O0 hp0 hp1 hp2 hp3 hp4 hp5) hZ (W hw 3 rfl) (W hw 2 rfl) (by decide) (by decide)) (g := (mkF m 1 #[.val (.int p0), .unset, .unset] [(.int p0)])) rfl (by rw [hml]; rfl) (argsL := [(.int p0)]) (rest := []) (lenOf pd_10 rfl) rfl (by show 2 * 0 + _ ≤ _; exact Nat.le_of_eq rfl) (hb hby at_1) (fun _ _ => ⟨rfl, e0, (by decide : 0 + 3 ≤ _), (by decide : 0 + 23 ≤ _)⟩)
  dsimp only [Pt.U, Pt.locs, Pt.cells, Pt.slots] at X1 l1 y1 z1 st1 hQ1
  subst l1 y1 z1
  obtain ⟨b1_0, b1_1, kb1_0, vl1_0, rfl, N1q, Kq1, tk1_0, tk1_1, tk1_2, tk1_3, tk1_4, tk1_5, tk1_6, tk1_7⟩ := hQ1
  have N1 := Fr.app N0 N1q
  have gn_b1_0 : Z.heap.size ≤ b1_0 := Nat.le_trans O0.2.1 tk1_0
  have gn_b1_1 : Z.heap.size ≤ b1_1 := Nat.le_trans O0.2.1 tk1_1
  have O1 := O0.keep Kq1 all0
  obtain ⟨cq2, kq2, q2a, q2b, q2c⟩ := isOf hZ rfl tk1_3
  obtain ⟨_, _, ⟨T2, L2, k2, n2⟩, -, X2, ⟨Lc2, hQ2, l2, y2, z2⟩, st2⟩ := X1.virtualBack hx (y := (⟨s_0, "length", "()I"⟩ : MethodName)) (z := (⟨s_0, "length", "()I"⟩ : MethodName)) hown (mvT hZ (W hw 67 rfl)) (mvT hZ (W hw 68 rfl)) (notFace_of_selects (args := #[]) (mvT hZ (W hw 70 rfl))) (mvT hZ (W hw 70 rfl)) (mvT hZ (W hw 69 rfl)) (by decide) (backOf (W := 0) (rm_59 l Z a0 hw w kk iw vw hN [] b1_0 b1_1 vl1_0 kb1_0 T1.heap O1 gn_b1_0 tk1_3.lt tk1_3 gn_b1_1 tk1_6.lt tk1_4 tk1_5 tk1_6 tk1_7 tk1_2) hZ (W hw 71 rfl) (W hw 13 rfl) (by decide) (by decide)) q2a q2c (g := (mkF m 6 #[.val (.int p0), .val (.ref b1_0), .unset] [(.ref b1_0)])) rfl (by rw [hml]; rfl) (Steps.refl _) (argsL := []) (rest := []) (lenOf pd_12 rfl) rfl (by show 2 * 0 + _ ≤ _; exact Nat.le_of_eq rfl) (hb hby at_6) (fun _ _ => ⟨rfl, rfl, (by decide : 3 + 0 ≤ _), (by decide : 23 + 0 ≤ _)⟩)
  dsimp only [Pt.U, Pt.locs, Pt.cells, Pt.slots] at X2 l2 y2 z2 st2 hQ2
  subst l2 y2 z2
  obtain ⟨rfl, N2q, e2⟩ := hQ2
  have N2 := Fr.app N1 N2q
  obtain ⟨_, _, ⟨T3, L3, k3, n3⟩, -, X3, ⟨Lc3, hQ3, l3, y3, z3⟩, st3⟩ := Jvm.LawKit.callS X2 hx (y := (⟨s_1, s_15, "(I)Z"⟩ : MethodName)) hown (mvT hZ (W hw 97 rfl)) (mvT hZ (W hw 98 rfl)) (mvT hZ (W hw 2 rfl)) (mvT hZ (W hw 99 rfl)) (by decide) (backOf (W := 0) (rm_102 l Z a0 hw w kk iw vw hN [] p0 T1.heap O1 hp6 hp1) hZ (W hw 99 rfl) (W hw 2 rfl) (by decide) (by decide)) (g := (mkF m 30 #[.val (.int p0), .val (.ref b1_0), .val (.int (0 : Int32))] [(.int p0)])) rfl (by rw [hml]; rfl) (argsL := [(.int p0)]) (rest := []) (lenOf pd_13 rfl) rfl (by show 2 * 0 + _ ≤ _; exact Nat.le_of_eq rfl) (hb hby at_30) (fun _ _ => ⟨rfl, e2, (by decide : 3 + 0 ≤ _), (by decide : 23 + 0 ≤ _)⟩)
  dsimp only [Pt.U, Pt.locs, Pt.cells, Pt.slots] at X3 l3 y3 z3 st3 hQ3
  subst l3 y3 z3
  obtain ⟨rfl, N3q, e3⟩ := hQ3
  have N3 := Fr.app N2 N3q
  obtain ⟨fs, hr, hrun, hended, hW, hsame⟩ := X3.leave (v := some (.int (1 : Int32))) (fun h => by rw [Bd.returns] at h; cases h)
  refine ⟨_, _, castTop (ef_12 m (.int p0) rfl) ?_, hrun, hended, _, _, rfl, ?_, ⟨_, rfl⟩, hW, hsame.mono (by decide) (by decide)⟩
  · show Steps p.tables e below (s₁.setTop (mkF m 0 #[.val (.int p0), .unset, .unset] [])) _
    refine XS.iloadN X0.here hx rfl (hb hby at_0) rfl ?_
    refine st1 _ ?_
    refine XS.astoreN X1.here hx rfl (hb hby at_4) rfl rfl (l' := #[.val (.int p0), .val (.ref b1_0), .unset]) rfl ?_
    refine XS.aloadN X1.here hx rfl (hb hby at_5) rfl rfl ?_
    refine st2.trans ?_
    refine XS.iconst X2.here hx rfl (hb hby at_9) ?_
    refine XS.icmpYes X2.here hx rfl (pc0 := 10) (pc' := 27) rfl (hb hby at_10) rfl (feq (by decide : ¬ ((8 : Int32) = (4 : Int32)))).2 (by decide) (by decide) ?_
    refine XS.iconst X2.here hx rfl (hb hby at_27) ?_
    refine XS.istoreN X2.here hx rfl (hb hby at_28) rfl (l' := #[.val (.int p0), .val (.ref b1_0), .val (.int (0 : Int32))]) rfl ?_
    refine XS.iloadN X2.here hx rfl (hb hby at_29) rfl ?_
    show Steps p.tables e below (T2.setTop (mkF m 30 #[.val (.int p0), .val (.ref b1_0), .val (.int (0 : Int32))] [(.int p0)])) _
    refine st3 _ ?_
    refine XS.iloadN X3.here hx rfl (hb hby at_33) rfl ?_
    refine XS.icmpNo X3.here hx rfl (hb hby at_34) rfl (teq (by decide : (0 : Int32) = (0 : Int32))).2 ?_
    refine XS.iconst X3.here hx rfl (hb hby at_37) ?_
    refine XS.goto X3.here hx rfl (pc0 := 38) (pc' := 42) rfl (hb hby at_38) (by decide) (by decide) ?_
    show Steps p.tables e below (T3.setTop (mkF m 42 #[.val (.int p0), .val (.ref b1_0), .val (.int (0 : Int32))] [(.int (1 : Int32))])) _
    exact retN X3 hx (t := .boolean) Bd.returns (by simp) (hb hby at_42) hr
  · show OL (some (.int (1 : Int32))) Z.heap.size _ T3.heap _
    exact ⟨rfl, N3⟩
set_option maxRecDepth 65536 in
set_option maxHeartbeats 40000000 in
theorem rm_110 (l : Launch) (Z : State) (a0 : Array Value) (hw : ∀ d ∈ tables_1, d.before a0 Z = true) (w : Nat → Addr) (kk : Nat → ClassId) (iw : Nat → Int32) (vw : Nat → Value) (hN : Wd Z w kk iw vw) (ws : List Jvm.Cond) (o1 : Addr) (p1 : Int32) (kc_o1 : ClassId) (h0 : Heap) (O0 : Old Z Z.heap.size h0) (gn_o1 : Z.heap.size ≤ o1) (lt_o1 : o1 < h0.size) (E_o1 : Exa Z h0 o1 "[B") (V_o1 : Arv Z h0 o1 kc_o1 .byte (11 : Int32) [] (.int (0 : Int32))) (hp0 : ¬ (p1 < (0 : Int32))) (hp1 : (9999 : Int32) < p1) (hp2 : ¬ (((-p1) / (10000 : Int32)) = (0 : Int32))) (hp3 : ¬ ((((-p1) / (10000 : Int32)) / (10 : Int32)) = (0 : Int32))) (hp4 : ¬ (((((-p1) / (10000 : Int32)) / (10 : Int32)) / (10 : Int32)) = (0 : Int32))) (hp5 : ¬ ((((((-p1) / (10000 : Int32)) / (10 : Int32)) / (10 : Int32)) / (10 : Int32)) = (0 : Int32))) (hp6 : ((((((-p1) / (10000 : Int32)) / (10 : Int32)) / (10 : Int32)) / (10 : Int32)) / (10 : Int32)) = (0 : Int32)) :
    Met l Z (⟨s_1, "writeYear", "([BI)I"⟩ : MethodName) (Jvm.Cond.code (⟨s_1, "writeYear", "([BI)I"⟩ : MethodName) prog_22_method_7_code 7 (some .int)) ws (Rm 0 0 0 0) #[(.ref o1), (.int p1)] h0 (Qd_20 Z w kk iw vw o1 p1 kc_o1 h0 Z.heap.size) := by
  have hN' := hN
  obtain ⟨hS0, hE0, hS1, hE1, hS2, hE2, hI0, hJ0, hR0, hRr0, hEq0⟩ := hN'
  refine own_body (plainFor_of_name pn_0) hisR ?_
  intro p e s m below meth c s₁ hx hby hml hown hnm hret X0 hZ e0
  have N0 := Fr.nil Z.heap.size
  have K0 : Keep h0 h0 [o1] := Keep.refl _ _
  have Vc1 := V_o1
  obtain ⟨cl1, Ar1, q1, Sz1, Ng1, Hv1, Gv1⟩ := Vc1
  have hin1 : ¬ ((0 : Int32) < 0 ∨ cl1.slots.size ≤ ((0 : Int32)).toNatClampNeg) := inb_of Sz1 ⟨(by decide : ¬ ((0 : Int32) < (0 : Int32))), (by decide : (0 : Int32) < (11 : Int32))⟩
  obtain ⟨T2, h2, X2, e2, W2, st2⟩ := stB X0 hx hZ e0 Ar1 (j := (0 : Int32)) hin1 (g := (mkF m 25 #[.val (.ref o1), .val (.int p1), .unset, .unset, .unset, .unset, .unset] [(.int (43 : Int32)), (.int (0 : Int32)), (.ref o1)])) rfl rfl (hb hby d1_25)
  obtain ⟨vl2, V_o1_v2⟩ := own_store V_o1 W2 (fits_nar_byte _) ⟨(by decide : ¬ ((0 : Int32) < (0 : Int32))), (by decide : (0 : Int32) < (11 : Int32))⟩
  have N2 := Fr.snoc X2 N0 gn_o1
  have E_o1_v2 := E_o1.wr W2
  have O2 := O0.wr W2 gn_o1
  have K2 : Keep h0 h2 [o1] := K0.wr W2 (Or.inl (List.mem_of_getElem? (i := 0) rfl))
  obtain ⟨T3, L3, X3, st3, N3, e3⟩ := sg_18 w kk iw vw hN o1 p1 (1 : Int32) (-p1) (5 : Int32) ((-p1) / (10000 : Int32)) vl2 kc_o1 X2 hx hZ hw hby hml hown e2 O2 N2 gn_o1 E_o1_v2.lt E_o1_v2 V_o1_v2 hp2
  obtain ⟨T4, L4, X4, st4, N4, e4⟩ := sg_18 w kk iw vw hN o1 p1 (1 : Int32) (-p1) (6 : Int32) (((-p1) / (10000 : Int32)) / (10 : Int32)) vl2 kc_o1 X3 hx hZ hw hby hml hown e3 O2 N3 gn_o1 E_o1_v2.lt E_o1_v2 V_o1_v2 hp3
  obtain ⟨T5, L5, X5, st5, N5, e5⟩ := sg_18 w kk iw vw hN o1 p1 (1 : Int32) (-p1) (7 : Int32) ((((-p1) / (10000 : Int32)) / (10 : Int32)) / (10 : Int32)) vl2 kc_o1 X4 hx hZ hw hby hml hown e4 O2 N4 gn_o1 E_o1_v2.lt E_o1_v2 V_o1_v2 hp4
  obtain ⟨T6, L6, X6, st6, N6, e6⟩ := sg_18 w kk iw vw hN o1 p1 (1 : Int32) (-p1) (8 : Int32) (((((-p1) / (10000 : Int32)) / (10 : Int32)) / (10 : Int32)) / (10 : Int32)) vl2 kc_o1 X5 hx hZ hw hby hml hown e5 O2 N5 gn_o1 E_o1_v2.lt E_o1_v2 V_o1_v2 hp5
  obtain ⟨T7, L7, vl7_0, z5_7, X7, st7, N7, Kq7, tk7_0, tk7_1⟩ := sg_1 w kk iw vw hN o1 p1 (1 : Int32) (-p1) (9 : Int32) (-p1) (8 : Int32) vl2 kc_o1 X6 hx hZ hw hby hml hown e6 O2 N6 gn_o1 E_o1_v2.lt E_o1_v2 V_o1_v2 (by decide : ¬ ((8 : Int32) < (1 : Int32))) (by decide : ¬ ((8 : Int32) < (0 : Int32))) (by decide : (8 : Int32) < (11 : Int32))
  have E_o1_v7 := E_o1_v2.keep Kq7
  have O7 := O2.keep Kq7 (allS gn_o1 all0)
  have K7 : Keep h0 T7.heap [o1] := K2.trans Kq7 (allS (Or.inl (List.mem_of_getElem? (i := 0) rfl)) all0)
  obtain ⟨T8, L8, vl8_0, z5_8, X8, st8, N8, Kq8, tk8_0, tk8_1⟩ := sg_1 w kk iw vw hN o1 p1 (1 : Int32) (-p1) (9 : Int32) z5_7 (7 : Int32) vl7_0 kc_o1 X7 hx hZ hw hby hml hown rfl O7 N7 gn_o1 tk7_0.lt tk7_0 tk7_1 (by decide : ¬ ((7 : Int32) < (1 : Int32))) (by decide : ¬ ((7 : Int32) < (0 : Int32))) (by decide : (7 : Int32) < (11 : Int32))
  have tk7_0_v8 := tk7_0.keep Kq8
  have O8 := O7.keep Kq8 (allS gn_o1 all0)
  have K8 : Keep h0 T8.heap [o1] := K7.trans Kq8 (allS (Or.inl (List.mem_of_getElem? (i := 0) rfl)) all0)
  obtain ⟨T9, L9, vl9_0, z5_9, X9, st9, N9, Kq9, tk9_0, tk9_1⟩ := sg_1 w kk iw vw hN o1 p1 (1 : Int32) (-p1) (9 : Int32) z5_8 (6 : Int32) vl8_0 kc_o1 X8 hx hZ hw hby hml hown rfl O8 N8 gn_o1 tk8_0.lt tk8_0 tk8_1 (by decide : ¬ ((6 : Int32) < (1 : Int32))) (by decide : ¬ ((6 : Int32) < (0 : Int32))) (by decide : (6 : Int32) < (11 : Int32))
  have tk8_0_v9 := tk8_0.keep Kq9
  have O9 := O8.keep Kq9 (allS gn_o1 all0)
  have K9 : Keep h0 T9.heap [o1] := K8.trans Kq9 (allS (Or.inl (List.mem_of_getElem? (i := 0) rfl)) all0)
  obtain ⟨T10, L10, vl10_0, z5_10, X10, st10, N10, Kq10, tk10_0, tk10_1⟩ := sg_1 w kk iw vw hN o1 p1 (1 : Int32) (-p1) (9 : Int32) z5_9 (5 : Int32) vl9_0 kc_o1 X9 hx hZ hw hby hml hown rfl O9 N9 gn_o1 tk9_0.lt tk9_0 tk9_1 (by decide : ¬ ((5 : Int32) < (1 : Int32))) (by decide : ¬ ((5 : Int32) < (0 : Int32))) (by decide : (5 : Int32) < (11 : Int32))
  have tk9_0_v10 := tk9_0.keep Kq10
  have O10 := O9.keep Kq10 (allS gn_o1 all0)
  have K10 : Keep h0 T10.heap [o1] := K9.trans Kq10 (allS (Or.inl (List.mem_of_getElem? (i := 0) rfl)) all0)
  obtain ⟨T11, L11, vl11_0, z5_11, X11, st11, N11, Kq11, tk11_0, tk11_1⟩ := sg_1 w kk iw vw hN o1 p1 (1 : Int32) (-p1) (9 : Int32) z5_10 (4 : Int32) vl10_0 kc_o1 X10 hx hZ hw hby hml hown rfl O10 N10 gn_o1 tk10_0.lt tk10_0 tk10_1 (by decide : ¬ ((4 : Int32) < (1 : Int32))) (by decide : ¬ ((4 : Int32) < (0 : Int32))) (by decide : (4 : Int32) < (11 : Int32))
  have tk10_0_v11 := tk10_0.keep Kq11
  have O11 := O10.keep Kq11 (allS gn_o1 all0)
  have K11 : Keep h0 T11.heap [o1] := K10.trans Kq11 (allS (Or.inl (List.mem_of_getElem? (i := 0) rfl)) all0)
  obtain ⟨T12, L12, vl12_0, z5_12, X12, st12, N12, Kq12, tk12_0, tk12_1⟩ := sg_1 w kk iw vw hN o1 p1 (1 : Int32) (-p1) (9 : Int32) z5_11 (3 : Int32) vl11_0 kc_o1 X11 hx hZ hw hby hml hown rfl O11 N11 gn_o1 tk11_0.lt tk11_0 tk11_1 (by decide : ¬ ((3 : Int32) < (1 : Int32))) (by decide : ¬ ((3 : Int32) < (0 : Int32))) (by decide : (3 : Int32) < (11 : Int32))
  have tk11_0_v12 := tk11_0.keep Kq12
  have O12 := O11.keep Kq12 (allS gn_o1 all0)
  have K12 : Keep h0 T12.heap [o1] := K11.trans Kq12 (allS (Or.inl (List.mem_of_getElem? (i := 0) rfl)) all0)
  obtain ⟨T13, L13, vl13_0, z5_13, X13, st13, N13, Kq13, tk13_0, tk13_1⟩ := sg_1 w kk iw vw hN o1 p1 (1 : Int32) (-p1) (9 : Int32) z5_12 (2 : Int32) vl12_0 kc_o1 X12 hx hZ hw hby hml hown rfl O12 N12 gn_o1 tk12_0.lt tk12_0 tk12_1 (by decide : ¬ ((2 : Int32) < (1 : Int32))) (by decide : ¬ ((2 : Int32) < (0 : Int32))) (by decide : (2 : Int32) < (11 : Int32))
  have tk12_0_v13 := tk12_0.keep Kq13
  have O13 := O12.keep Kq13 (allS gn_o1 all0)
  have K13 : Keep h0 T13.heap [o1] := K12.trans Kq13 (allS (Or.inl (List.mem_of_getElem? (i := 0) rfl)) all0)
  obtain ⟨T14, L14, vl14_0, z5_14, X14, st14, N14, Kq14, tk14_0, tk14_1⟩ := sg_1 w kk iw vw hN o1 p1 (1 : Int32) (-p1) (9 : Int32) z5_13 (1 : Int32) vl13_0 kc_o1 X13 hx hZ hw hby hml hown rfl O13 N13 gn_o1 tk13_0.lt tk13_0 tk13_1 (by decide : ¬ ((1 : Int32) < (1 : Int32))) (by decide : ¬ ((1 : Int32) < (0 : Int32))) (by decide : (1 : Int32) < (11 : Int32))
  have tk13_0_v14 := tk13_0.keep Kq14
  have O14 := O13.keep Kq14 (allS gn_o1 all0)
  have K14 : Keep h0 T14.heap [o1] := K13.trans Kq14 (allS (Or.inl (List.mem_of_getElem? (i := 0) rfl)) all0)
  refine ⟨T14, some (.int (9 : Int32)), _, _, _, by decide, by decide, X14, nofun, ⟨vl14_0, rfl, N14, K14, tk14_0, tk14_1⟩, fun fs hr => castTop (ef_0 m (.ref o1) rfl (.int p1) rfl) ?_⟩
  show Steps p.tables e below (s₁.setTop (mkF m 0 #[.val (.ref o1), .val (.int p1), .unset, .unset, .unset, .unset, .unset] [])) _
  refine XS.iloadN X0.here hx rfl (hb hby d1_0) rfl ?_
  refine XS.ifYes X0.here hx rfl (pc0 := 1) (pc' := 14) rfl (hb hby d1_1) rfl ((if0 _ _).trans (flt hp0).2.1) (by decide) (by decide) ?_
  refine XS.iloadN X0.here hx rfl (hb hby d1_14) rfl ?_
  refine XS.sipush X0.here hx rfl (hb hby d1_15) ?_
  refine XS.icmpNo X0.here hx rfl (hb hby d1_18) rfl (tlt hp1).2.2.2 ?_
  refine XS.aloadN X0.here hx rfl (hb hby d1_21) rfl rfl ?_
  refine XS.iconst X0.here hx rfl (hb hby d1_22) ?_
  refine XS.bipush X0.here hx rfl (hb hby d1_23) ?_
  refine st2 _ ?_
  refine XS.iconst X2.here hx rfl (hb hby d1_26) ?_
  show Steps p.tables e below (T2.setTop (mkF m 27 #[.val (.ref o1), .val (.int p1), .unset, .unset, .unset, .unset, .unset] [(.int (1 : Int32))])) _
  refine XS.istoreN X2.here hx rfl (hb hby d1_27) rfl (l' := #[.val (.ref o1), .val (.int p1), .val (.int (1 : Int32)), .unset, .unset, .unset, .unset]) rfl ?_
  refine XS.goto X2.here hx rfl (pc0 := 28) (pc' := 33) rfl (hb hby d1_28) (by decide) (by decide) ?_
  refine XS.iloadN X2.here hx rfl (hb hby d1_33) rfl ?_
  refine XS.ifYes X2.here hx rfl (pc0 := 34) (pc' := 41) rfl (hb hby d1_34) rfl ((if0 _ _).trans (flt hp0).2.1) (by decide) (by decide) ?_
  refine XS.iloadN X2.here hx rfl (hb hby d1_41) rfl ?_
  refine XS.ineg X2.here hx rfl (hb hby d1_42) rfl ?_
  refine XS.istoreN X2.here hx rfl (hb hby d1_43) rfl (l' := #[.val (.ref o1), .val (.int p1), .val (.int (1 : Int32)), .val (.int (-p1)), .unset, .unset, .unset]) rfl ?_
  refine XS.iloadN X2.here hx rfl (hb hby d1_44) rfl ?_
  refine XS.iconst X2.here hx rfl (hb hby d1_45) ?_
  refine XS.iadd X2.here hx rfl (hb hby d1_46) rfl ?_
  show Steps p.tables e below (T2.setTop (mkF m 47 #[.val (.ref o1), .val (.int p1), .val (.int (1 : Int32)), .val (.int (-p1)), .unset, .unset, .unset] [(.int ((1 : Int32) + (4 : Int32)))])) _
  rw [lf_0]
  show Steps p.tables e below (T2.setTop (mkF m 47 #[.val (.ref o1), .val (.int p1), .val (.int (1 : Int32)), .val (.int (-p1)), .unset, .unset, .unset] [(.int (5 : Int32))])) _
  refine XS.istore X2.here hx rfl (hb hby d1_47) rfl (l' := #[.val (.ref o1), .val (.int p1), .val (.int (1 : Int32)), .val (.int (-p1)), .val (.int (5 : Int32)), .unset, .unset]) rfl ?_
  refine XS.iloadN X2.here hx rfl (hb hby d1_49) rfl ?_
  refine XS.sipush X2.here hx rfl (hb hby d1_50) ?_
  refine XS.idiv X2.here hx rfl (hb hby d1_53) rfl (by decide : ¬ ((10000 : Int32) = (0 : Int32))) ?_
  refine XS.istore X2.here hx rfl (hb hby d1_54) rfl (l' := #[.val (.ref o1), .val (.int p1), .val (.int (1 : Int32)), .val (.int (-p1)), .val (.int (5 : Int32)), .val (.int ((-p1) / (10000 : Int32))), .unset]) rfl ?_
  show Steps p.tables e below (T2.setTop (mkF m 56 #[.val (.ref o1), .val (.int p1), .val (.int (1 : Int32)), .val (.int (-p1)), .val (.int (5 : Int32)), .val (.int ((-p1) / (10000 : Int32))), .unset] [])) _
  refine st3 _ ?_
  show Steps p.tables e below (T3.setTop (mkF m 56 #[.val (.ref o1), .val (.int p1), .val (.int (1 : Int32)), .val (.int (-p1)), .val (.int ((5 : Int32) + (1 : Int32))), .val (.int (((-p1) / (10000 : Int32)) / (10 : Int32))), .unset] [])) _
  rw [lf_12]
  show Steps p.tables e below (T3.setTop (mkF m 56 #[.val (.ref o1), .val (.int p1), .val (.int (1 : Int32)), .val (.int (-p1)), .val (.int (6 : Int32)), .val (.int (((-p1) / (10000 : Int32)) / (10 : Int32))), .unset] [])) _
  refine st4 _ ?_
  show Steps p.tables e below (T4.setTop (mkF m 56 #[.val (.ref o1), .val (.int p1), .val (.int (1 : Int32)), .val (.int (-p1)), .val (.int ((6 : Int32) + (1 : Int32))), .val (.int ((((-p1) / (10000 : Int32)) / (10 : Int32)) / (10 : Int32))), .unset] [])) _
  rw [lf_19]
  show Steps p.tables e below (T4.setTop (mkF m 56 #[.val (.ref o1), .val (.int p1), .val (.int (1 : Int32)), .val (.int (-p1)), .val (.int (7 : Int32)), .val (.int ((((-p1) / (10000 : Int32)) / (10 : Int32)) / (10 : Int32))), .unset] [])) _
  refine st5 _ ?_
  show Steps p.tables e below (T5.setTop (mkF m 56 #[.val (.ref o1), .val (.int p1), .val (.int (1 : Int32)), .val (.int (-p1)), .val (.int ((7 : Int32) + (1 : Int32))), .val (.int (((((-p1) / (10000 : Int32)) / (10 : Int32)) / (10 : Int32)) / (10 : Int32))), .unset] [])) _
  rw [lf_26]
  show Steps p.tables e below (T5.setTop (mkF m 56 #[.val (.ref o1), .val (.int p1), .val (.int (1 : Int32)), .val (.int (-p1)), .val (.int (8 : Int32)), .val (.int (((((-p1) / (10000 : Int32)) / (10 : Int32)) / (10 : Int32)) / (10 : Int32))), .unset] [])) _
  refine st6 _ ?_
  show Steps p.tables e below (T6.setTop (mkF m 56 #[.val (.ref o1), .val (.int p1), .val (.int (1 : Int32)), .val (.int (-p1)), .val (.int ((8 : Int32) + (1 : Int32))), .val (.int ((((((-p1) / (10000 : Int32)) / (10 : Int32)) / (10 : Int32)) / (10 : Int32)) / (10 : Int32))), .unset] [])) _
  rw [lf_33]
  refine XS.iload X6.here hx rfl (hb hby d1_56) rfl ?_
  refine XS.ifYes X6.here hx rfl (pc0 := 58) (pc' := 74) rfl (hb hby d1_58) rfl ((if0 _ _).trans (teq hp6).1) (by decide) (by decide) ?_
  refine XS.iloadN X6.here hx rfl (hb hby d1_74) rfl ?_
  refine XS.istore X6.here hx rfl (hb hby d1_75) rfl (l' := #[.val (.ref o1), .val (.int p1), .val (.int (1 : Int32)), .val (.int (-p1)), .val (.int (9 : Int32)), .val (.int (-p1)), .unset]) rfl ?_
  refine XS.iload X6.here hx rfl (hb hby d1_77) rfl ?_
  refine XS.iconst X6.here hx rfl (hb hby d1_79) ?_
  refine XS.isub X6.here hx rfl (hb hby d1_80) rfl ?_
  show Steps p.tables e below (T6.setTop (mkF m 81 #[.val (.ref o1), .val (.int p1), .val (.int (1 : Int32)), .val (.int (-p1)), .val (.int (9 : Int32)), .val (.int (-p1)), .unset] [(.int ((9 : Int32) - (1 : Int32)))])) _
  rw [lf_34]
  refine XS.istore X6.here hx rfl (hb hby d1_81) rfl (l' := #[.val (.ref o1), .val (.int p1), .val (.int (1 : Int32)), .val (.int (-p1)), .val (.int (9 : Int32)), .val (.int (-p1)), .val (.int (8 : Int32))]) rfl ?_
  show Steps p.tables e below (T6.setTop (mkF m 83 #[.val (.ref o1), .val (.int p1), .val (.int (1 : Int32)), .val (.int (-p1)), .val (.int (9 : Int32)), .val (.int (-p1)), .val (.int (8 : Int32))] [])) _
  refine st7 _ ?_
  show Steps p.tables e below (T7.setTop (mkF m 83 #[.val (.ref o1), .val (.int p1), .val (.int (1 : Int32)), .val (.int (-p1)), .val (.int (9 : Int32)), .val (.int z5_7), .val (.int ((8 : Int32) + (-1 : Int32)))] [])) _
  rw [lf_35]
  show Steps p.tables e below (T7.setTop (mkF m 83 #[.val (.ref o1), .val (.int p1), .val (.int (1 : Int32)), .val (.int (-p1)), .val (.int (9 : Int32)), .val (.int z5_7), .val (.int (7 : Int32))] [])) _
  refine st8 _ ?_
  show Steps p.tables e below (T8.setTop (mkF m 83 #[.val (.ref o1), .val (.int p1), .val (.int (1 : Int32)), .val (.int (-p1)), .val (.int (9 : Int32)), .val (.int z5_8), .val (.int ((7 : Int32) + (-1 : Int32)))] [])) _
  rw [lf_28]
  show Steps p.tables e below (T8.setTop (mkF m 83 #[.val (.ref o1), .val (.int p1), .val (.int (1 : Int32)), .val (.int (-p1)), .val (.int (9 : Int32)), .val (.int z5_8), .val (.int (6 : Int32))] [])) _
  refine st9 _ ?_
  show Steps p.tables e below (T9.setTop (mkF m 83 #[.val (.ref o1), .val (.int p1), .val (.int (1 : Int32)), .val (.int (-p1)), .val (.int (9 : Int32)), .val (.int z5_9), .val (.int ((6 : Int32) + (-1 : Int32)))] [])) _
  rw [lf_21]
  show Steps p.tables e below (T9.setTop (mkF m 83 #[.val (.ref o1), .val (.int p1), .val (.int (1 : Int32)), .val (.int (-p1)), .val (.int (9 : Int32)), .val (.int z5_9), .val (.int (5 : Int32))] [])) _
  refine st10 _ ?_
  show Steps p.tables e below (T10.setTop (mkF m 83 #[.val (.ref o1), .val (.int p1), .val (.int (1 : Int32)), .val (.int (-p1)), .val (.int (9 : Int32)), .val (.int z5_10), .val (.int ((5 : Int32) + (-1 : Int32)))] [])) _
  rw [lf_14]
  show Steps p.tables e below (T10.setTop (mkF m 83 #[.val (.ref o1), .val (.int p1), .val (.int (1 : Int32)), .val (.int (-p1)), .val (.int (9 : Int32)), .val (.int z5_10), .val (.int (4 : Int32))] [])) _
  refine st11 _ ?_
  show Steps p.tables e below (T11.setTop (mkF m 83 #[.val (.ref o1), .val (.int p1), .val (.int (1 : Int32)), .val (.int (-p1)), .val (.int (9 : Int32)), .val (.int z5_11), .val (.int ((4 : Int32) + (-1 : Int32)))] [])) _
  rw [lf_2]
  show Steps p.tables e below (T11.setTop (mkF m 83 #[.val (.ref o1), .val (.int p1), .val (.int (1 : Int32)), .val (.int (-p1)), .val (.int (9 : Int32)), .val (.int z5_11), .val (.int (3 : Int32))] [])) _
  refine st12 _ ?_
  show Steps p.tables e below (T12.setTop (mkF m 83 #[.val (.ref o1), .val (.int p1), .val (.int (1 : Int32)), .val (.int (-p1)), .val (.int (9 : Int32)), .val (.int z5_12), .val (.int ((3 : Int32) + (-1 : Int32)))] [])) _
  rw [lf_3]
  show Steps p.tables e below (T12.setTop (mkF m 83 #[.val (.ref o1), .val (.int p1), .val (.int (1 : Int32)), .val (.int (-p1)), .val (.int (9 : Int32)), .val (.int z5_12), .val (.int (2 : Int32))] [])) _
  refine st13 _ ?_
  show Steps p.tables e below (T13.setTop (mkF m 83 #[.val (.ref o1), .val (.int p1), .val (.int (1 : Int32)), .val (.int (-p1)), .val (.int (9 : Int32)), .val (.int z5_13), .val (.int ((2 : Int32) + (-1 : Int32)))] [])) _
  rw [lf_4]
  show Steps p.tables e below (T13.setTop (mkF m 83 #[.val (.ref o1), .val (.int p1), .val (.int (1 : Int32)), .val (.int (-p1)), .val (.int (9 : Int32)), .val (.int z5_13), .val (.int (1 : Int32))] [])) _
  refine st14 _ ?_
  show Steps p.tables e below (T14.setTop (mkF m 83 #[.val (.ref o1), .val (.int p1), .val (.int (1 : Int32)), .val (.int (-p1)), .val (.int (9 : Int32)), .val (.int z5_14), .val (.int ((1 : Int32) + (-1 : Int32)))] [])) _
  rw [lf_5]
  refine XS.iload X14.here hx rfl (hb hby d1_83) rfl ?_
  refine XS.iloadN X14.here hx rfl (hb hby d1_85) rfl ?_
  refine XS.icmpYes X14.here hx rfl (pc0 := 86) (pc' := 115) rfl (hb hby d1_86) rfl (tlt (by decide : (0 : Int32) < (1 : Int32))).1 (by decide) (by decide) ?_
  refine XS.iload X14.here hx rfl (hb hby d1_115) rfl ?_
  show Steps p.tables e below (T14.setTop (mkF m 117 #[.val (.ref o1), .val (.int p1), .val (.int (1 : Int32)), .val (.int (-p1)), .val (.int (9 : Int32)), .val (.int z5_14), .val (.int (0 : Int32))] [(.int (9 : Int32))])) _
  exact retI X14 hx hret (hb hby d1_117) hr
set_option maxRecDepth 65536 in
set_option maxHeartbeats 40000000 in
theorem rm_111 (l : Launch) (Z : State) (a0 : Array Value) (hw : ∀ d ∈ tables_1, d.before a0 Z = true) (w : Nat → Addr) (kk : Nat → ClassId) (iw : Nat → Int32) (vw : Nat → Value) (hN : Wd Z w kk iw vw) (ws : List Jvm.Cond) (p0 : Int32) (h0 : Heap) (O0 : Old Z Z.heap.size h0) (hp0 : ¬ (p0 < (0 : Int32))) (hp1 : (9999 : Int32) < p0) (hp2 : ¬ (((-p0) / (10000 : Int32)) = (0 : Int32))) (hp3 : ¬ ((((-p0) / (10000 : Int32)) / (10 : Int32)) = (0 : Int32))) (hp4 : ¬ (((((-p0) / (10000 : Int32)) / (10 : Int32)) / (10 : Int32)) = (0 : Int32))) (hp5 : ¬ ((((((-p0) / (10000 : Int32)) / (10 : Int32)) / (10 : Int32)) / (10 : Int32)) = (0 : Int32))) (hp6 : ((((((-p0) / (10000 : Int32)) / (10 : Int32)) / (10 : Int32)) / (10 : Int32)) / (10 : Int32)) = (0 : Int32)) :
    Met l Z (⟨s_1, "yearText", s_4⟩ : MethodName) (Jvm.Cond.code (⟨s_1, "yearText", s_4⟩ : MethodName) prog_22_method_4_code 2 (some (.object s_0))) ws (Rm 6 3 24 101) #[(.int p0)] h0 (Qd_24 Z w kk iw vw p0 h0 Z.heap.size) := by
  have hN' := hN
  obtain ⟨hS0, hE0, hS1, hE1, hS2, hE2, hI0, hJ0, hR0, hRr0, hEq0⟩ := hN'
  refine own_body (plainFor_of_name pn_0) hisR ?_
  intro p e s m below meth c s₁ hx hby hml hown hnm hret X0 hZ e0
  have N0 := Fr.nil Z.heap.size
  have K0 : Keep h0 h0 [] := Keep.refl _ _
  obtain ⟨T1, h1, k1, X1, e1, E1, A1, AE1, st1⟩ := newPE X0 hx hZ (W hw 4 rfl) e0 (g := (mkF m 2 #[.val (.int p0), .unset] [(.int (11 : Int32))])) rfl (hb hby d0_2) rfl (by decide) (cap := 11) (by decide) (by decide) (by decide) (by decide) (ad := "[B") rfl
  obtain ⟨b1, g1⟩ : ∃ z, z = h0.size := ⟨_, rfl⟩
  rw [← g1] at A1 st1 AE1
  have gn_b1 : Z.heap.size ≤ b1 := Nat.le_trans O0.2.1 (Nat.le_of_eq g1.symm)
  have sz_b1 : h0.size ≤ b1 := Nat.le_trans K0.1 (Nat.le_of_eq g1.symm)
  have O1 := O0.ext E1
  have K1 := K0.ext E1
  have E_b1_v1 := AE1
  have V_b1_v1 : Arv Z h1 b1 k1 .byte (11 : Int32) [] (.int (0 : Int32)) := Arv.new A1 (by decide)
  obtain ⟨_, _, ⟨T2, L2, k2, n2⟩, -, X2, ⟨Lc2, hQ2, l2, y2, z2⟩, st2⟩ := Jvm.LawKit.callS X1 hx (y := (⟨s_1, "writeYear", "([BI)I"⟩ : MethodName)) hown (mvT hZ (W hw 5 rfl)) (mvT hZ (W hw 6 rfl)) (mvT hZ (W hw 2 rfl)) (mvT hZ (W hw 7 rfl)) (by decide) (backOf (W := 1) (rm_110 l Z a0 hw w kk iw vw hN [] b1 p0 k1 h1 O1 gn_b1 E_b1_v1.lt E_b1_v1 V_b1_v1 hp0 hp1 hp2 hp3 hp4 hp5 hp6) hZ (W hw 7 rfl) (W hw 2 rfl) (by decide) (by decide)) (g := (mkF m 8 #[.val (.int p0), .val (.ref b1)] [(.int p0), (.ref b1), (.ref b1)])) rfl (by rw [hml]; rfl) (argsL := [(.ref b1), (.int p0)]) (rest := [(.ref b1)]) (lenOf pd_0 rfl) rfl (by show 2 * 0 + _ ≤ _; exact Nat.le_of_eq rfl) (hb hby d0_8) (fun _ _ => ⟨rfl, e1, (by decide : 1 + 0 ≤ _), (by decide : 11 + 0 ≤ _)⟩)
  dsimp only [Pt.U, Pt.locs, Pt.cells, Pt.slots] at X2 l2 y2 z2 st2 hQ2
  subst l2 y2 z2
  obtain ⟨vl2_0, rfl, N2q, Kq2, tk2_0, tk2_1⟩ := hQ2
  have N2 := Fr.app N0 N2q
  have E_b1_v2 := E_b1_v1.keep Kq2
  have O2 := O1.keep Kq2 (allS gn_b1 all0)
  have K2 : Keep h0 T2.heap [] := K1.trans Kq2 (allS (Or.inr sz_b1) all0)
  obtain ⟨_, _, ⟨T3, L3, k3, n3⟩, -, X3, ⟨Lc3, hQ3, l3, y3, z3⟩, st3⟩ := Jvm.LawKit.callS X2 hx (y := (⟨s_1, "string", s_9⟩ : MethodName)) hown (mvT hZ (W hw 8 rfl)) (mvT hZ (W hw 9 rfl)) (mvT hZ (W hw 2 rfl)) (mvT hZ (W hw 10 rfl)) (by decide) (backOf (W := 0) (rm_70 l Z a0 hw w kk iw vw hN [] b1 vl2_0 k1 T2.heap O2 gn_b1 tk2_0.lt tk2_0 tk2_1) hZ (W hw 10 rfl) (W hw 2 rfl) (by decide) (by decide)) (g := (mkF m 11 #[.val (.int p0), .val (.ref b1)] [(.int (9 : Int32)), (.ref b1)])) rfl (by rw [hml]; rfl) (argsL := [(.ref b1), (.int (9 : Int32))]) (rest := []) (lenOf pd_9 rfl) rfl (by show 2 * 0 + _ ≤ _; exact Nat.le_of_eq rfl) (hb hby d0_11) (fun _ _ => ⟨rfl, rfl, (by decide : 1 + 2 ≤ _), (by decide : 11 + 13 ≤ _)⟩)
  dsimp only [Pt.U, Pt.locs, Pt.cells, Pt.slots] at X3 l3 y3 z3 st3 hQ3
  subst l3 y3 z3
  obtain ⟨b3_0, b3_1, kb3_0, vl3_0, rfl, N3q, Kq3, tk3_0, tk3_1, tk3_2, tk3_3, tk3_4, tk3_5, tk3_6, tk3_7⟩ := hQ3
  have N3 := Fr.app N2 N3q
  have gn_b3_0 : Z.heap.size ≤ b3_0 := Nat.le_trans O2.2.1 tk3_0
  have sz_b3_0 : h0.size ≤ b3_0 := Nat.le_trans K2.1 tk3_0
  have ne_b1_b3_0 : b1 ≠ b3_0 := Nat.ne_of_lt (Nat.lt_of_lt_of_le tk2_0.lt tk3_0)
  have gn_b3_1 : Z.heap.size ≤ b3_1 := Nat.le_trans O2.2.1 tk3_1
  have sz_b3_1 : h0.size ≤ b3_1 := Nat.le_trans K2.1 tk3_1
  have ne_b1_b3_1 : b1 ≠ b3_1 := Nat.ne_of_lt (Nat.lt_of_lt_of_le tk2_0.lt tk3_1)
  have tk2_0_v3 := tk2_0.keep Kq3
  have tk2_1_v3 := tk2_1.keep Kq3 nin0
  have O3 := O2.keep Kq3 all0
  have K3 : Keep h0 T3.heap [] := K2.trans Kq3 all0
  refine ⟨T3, some (.ref b3_0), _, _, _, by decide, by decide, X3, nofun, ⟨b3_0, b3_1, kb3_0, vl3_0, rfl, N3, K3, sz_b3_0, sz_b3_1, tk3_2, tk3_3, tk3_4, tk3_5, tk3_6, tk3_7⟩, fun fs hr => castTop (ef_10 m (.int p0) rfl) ?_⟩
  show Steps p.tables e below (s₁.setTop (mkF m 0 #[.val (.int p0), .unset] [])) _
  refine XS.bipush X0.here hx rfl (hb hby d0_0) ?_
  refine st1 _ ?_
  refine XS.astoreN X1.here hx rfl (hb hby d0_4) rfl rfl (l' := #[.val (.int p0), .val (.ref b1)]) rfl ?_
  refine XS.aloadN X1.here hx rfl (hb hby d0_5) rfl rfl ?_
  refine XS.aloadN X1.here hx rfl (hb hby d0_6) rfl rfl ?_
  refine XS.iloadN X1.here hx rfl (hb hby d0_7) rfl ?_
  refine st2 _ ?_
  refine st3 _ ?_
  show Steps p.tables e below (T3.setTop (mkF m 14 #[.val (.int p0), .val (.ref b1)] [(.ref b3_0)])) _
  exact retOut X3 hx hret rfl (Or.inr (Or.inr (Or.inr (Or.inr ⟨rfl, rfl, rfl⟩)))) (hb hby d0_14) hr
set_option maxRecDepth 65536 in
set_option maxHeartbeats 40000000 in
theorem law_112 (l : Launch) (Z : State) (a0 : Array Value) (hw : ∀ d ∈ tables_1, d.before a0 Z = true) (w : Nat → Addr) (kk : Nat → ClassId) (iw : Nat → Int32) (vw : Nat → Value) (hN : Wd Z w kk iw vw) (ws : List Jvm.Cond) (p0 : Int32) (h0 : Heap) (O0 : Old Z Z.heap.size h0) (hp0 : ¬ (p0 < (0 : Int32))) (hp1 : (9999 : Int32) < p0) (hp2 : ¬ (((-p0) / (10000 : Int32)) = (0 : Int32))) (hp3 : ¬ ((((-p0) / (10000 : Int32)) / (10 : Int32)) = (0 : Int32))) (hp4 : ¬ (((((-p0) / (10000 : Int32)) / (10 : Int32)) / (10 : Int32)) = (0 : Int32))) (hp5 : ¬ ((((((-p0) / (10000 : Int32)) / (10 : Int32)) / (10 : Int32)) / (10 : Int32)) = (0 : Int32))) (hp6 : ((((((-p0) / (10000 : Int32)) / (10 : Int32)) / (10 : Int32)) / (10 : Int32)) / (10 : Int32)) = (0 : Int32)) (hp7 : ¬ (p0 < (1000 : Int32))) :
    MetFree l x (head1 (Jvm.Cond.code x code maxLocals ret :: ws) room_1) (fun a U => a = #[(.int p0)] ∧ Z.Warmed39 U.vm ∧ U.heap = h0) (fun _ _ _ _ _ => True) (fun _ U o U' => ∃ v L, o = .returned v ∧ OL (some (.int (1 : Int32))) Z.heap.size v U'.heap L ∧ FrameEnd U o U' L 16 128) := by
  have hN' := hN
  obtain ⟨hS0, hE0, hS1, hE1, hS2, hE2, hI0, hJ0, hR0, hRr0, hEq0⟩ := hN'
  refine MetFree.of_bodySF (plainFor_of_name pn_5) hisR ?_
  intro p e s m args below meth c s₁ Bd hml0 hP hK
  obtain ⟨rfl, hZ, hh⟩ := hP
  have hx := Bd.exec
  have hby := Bd.bytes
  have hml : c.maxLocals = 3 := hml0
  have hown : s.vm.findClass s_3 = some m.cls := findClass_of_methodNamed Bd.named
  have hnm := (name_of_methodNamed Bd.named Bd.method).1
  have X0 : Stand p l e room_1 s m #[(.int p0)] below meth c s₁ [] 0 0 := Stand.of_body Bd
  have e0 : s₁.heap = h0 := by rw [← hh, Bd.state]; rfl
  have N0 := Fr.nil Z.heap.size
  obtain ⟨_, _, ⟨T1, L1, k1, n1⟩, -, X1, ⟨Lc1, hQ1, l1, y1, z1⟩, st1⟩ := Jvm.LawKit.callS X0 hx (y := (⟨s_1, "yearText", s_4⟩ : MethodName)) hown (mvT hZ (W hw 0 rfl)) (mvT hZ (W hw 1 rfl)) (mvT hZ (W hw 2 rfl)) (mvT hZ (W hw 3 rfl)) (by decide) (backOf (W := 0) (rm_111 l Z a0 hw w kk iw vw hN [] p0 h0 O0 hp0 hp1 hp2 hp3 hp4 hp5 hp6) hZ (W hw 3 rfl) (W hw 2 rfl) (by decide) (by decide)) (g := (mkF m 1 #[.val (.int p0), .unset, .unset] [(.int p0)])) rfl (by rw [hml]; rfl) (argsL := [(.int p0)]) (rest := []) (lenOf pd_10 rfl) rfl (by show 2 * 0 + _ ≤ _; exact Nat.le_of_eq rfl) (hb hby at_1) (fun _ _ => ⟨rfl, e0, (by decide : 0 + 3 ≤ _), (by decide : 0 + 24 ≤ _)⟩)
  dsimp only [Pt.U, Pt.locs, Pt.cells, Pt.slots] at X1 l1 y1 z1 st1 hQ1
  subst l1 y1 z1
  obtain ⟨b1_0, b1_1, kb1_0, vl1_0, rfl, N1q, Kq1, tk1_0, tk1_1, tk1_2, tk1_3, tk1_4, tk1_5, tk1_6, tk1_7⟩ := hQ1
  have N1 := Fr.app N0 N1q
  have gn_b1_0 : Z.heap.size ≤ b1_0 := Nat.le_trans O0.2.1 tk1_0
  have gn_b1_1 : Z.heap.size ≤ b1_1 := Nat.le_trans O0.2.1 tk1_1
  have O1 := O0.keep Kq1 all0
  obtain ⟨cq2, kq2, q2a, q2b, q2c⟩ := isOf hZ rfl tk1_3
  obtain ⟨_, _, ⟨T2, L2, k2, n2⟩, -, X2, ⟨Lc2, hQ2, l2, y2, z2⟩, st2⟩ := X1.virtualBack hx (y := (⟨s_0, "length", "()I"⟩ : MethodName)) (z := (⟨s_0, "length", "()I"⟩ : MethodName)) hown (mvT hZ (W hw 67 rfl)) (mvT hZ (W hw 68 rfl)) (notFace_of_selects (args := #[]) (mvT hZ (W hw 70 rfl))) (mvT hZ (W hw 70 rfl)) (mvT hZ (W hw 69 rfl)) (by decide) (backOf (W := 0) (rm_73 l Z a0 hw w kk iw vw hN [] b1_0 b1_1 vl1_0 kb1_0 T1.heap O1 gn_b1_0 tk1_3.lt tk1_3 gn_b1_1 tk1_6.lt tk1_4 tk1_5 tk1_6 tk1_7 tk1_2) hZ (W hw 71 rfl) (W hw 13 rfl) (by decide) (by decide)) q2a q2c (g := (mkF m 6 #[.val (.int p0), .val (.ref b1_0), .unset] [(.ref b1_0)])) rfl (by rw [hml]; rfl) (Steps.refl _) (argsL := []) (rest := []) (lenOf pd_12 rfl) rfl (by show 2 * 0 + _ ≤ _; exact Nat.le_of_eq rfl) (hb hby at_6) (fun _ _ => ⟨rfl, rfl, (by decide : 3 + 0 ≤ _), (by decide : 24 + 0 ≤ _)⟩)
  dsimp only [Pt.U, Pt.locs, Pt.cells, Pt.slots] at X2 l2 y2 z2 st2 hQ2
  subst l2 y2 z2
  obtain ⟨rfl, N2q, e2⟩ := hQ2
  have N2 := Fr.app N1 N2q
  obtain ⟨_, _, ⟨T3, L3, k3, n3⟩, -, X3, ⟨Lc3, hQ3, l3, y3, z3⟩, st3⟩ := Jvm.LawKit.callS X2 hx (y := (⟨s_1, s_15, "(I)Z"⟩ : MethodName)) hown (mvT hZ (W hw 97 rfl)) (mvT hZ (W hw 98 rfl)) (mvT hZ (W hw 2 rfl)) (mvT hZ (W hw 99 rfl)) (by decide) (backOf (W := 0) (rm_102 l Z a0 hw w kk iw vw hN [] p0 T1.heap O1 hp7 hp1) hZ (W hw 99 rfl) (W hw 2 rfl) (by decide) (by decide)) (g := (mkF m 30 #[.val (.int p0), .val (.ref b1_0), .val (.int (0 : Int32))] [(.int p0)])) rfl (by rw [hml]; rfl) (argsL := [(.int p0)]) (rest := []) (lenOf pd_13 rfl) rfl (by show 2 * 0 + _ ≤ _; exact Nat.le_of_eq rfl) (hb hby at_30) (fun _ _ => ⟨rfl, e2, (by decide : 3 + 0 ≤ _), (by decide : 24 + 0 ≤ _)⟩)
  dsimp only [Pt.U, Pt.locs, Pt.cells, Pt.slots] at X3 l3 y3 z3 st3 hQ3
  subst l3 y3 z3
  obtain ⟨rfl, N3q, e3⟩ := hQ3
  have N3 := Fr.app N2 N3q
  obtain ⟨fs, hr, hrun, hended, hW, hsame⟩ := X3.leave (v := some (.int (1 : Int32))) (fun h => by rw [Bd.returns] at h; cases h)
  refine ⟨_, _, castTop (ef_12 m (.int p0) rfl) ?_, hrun, hended, _, _, rfl, ?_, ⟨_, rfl⟩, hW, hsame.mono (by decide) (by decide)⟩
  · show Steps p.tables e below (s₁.setTop (mkF m 0 #[.val (.int p0), .unset, .unset] [])) _
    refine XS.iloadN X0.here hx rfl (hb hby at_0) rfl ?_
    refine st1 _ ?_
    refine XS.astoreN X1.here hx rfl (hb hby at_4) rfl rfl (l' := #[.val (.int p0), .val (.ref b1_0), .unset]) rfl ?_
    refine XS.aloadN X1.here hx rfl (hb hby at_5) rfl rfl ?_
    refine st2.trans ?_
    refine XS.iconst X2.here hx rfl (hb hby at_9) ?_
    refine XS.icmpYes X2.here hx rfl (pc0 := 10) (pc' := 27) rfl (hb hby at_10) rfl (feq (by decide : ¬ ((9 : Int32) = (4 : Int32)))).2 (by decide) (by decide) ?_
    refine XS.iconst X2.here hx rfl (hb hby at_27) ?_
    refine XS.istoreN X2.here hx rfl (hb hby at_28) rfl (l' := #[.val (.int p0), .val (.ref b1_0), .val (.int (0 : Int32))]) rfl ?_
    refine XS.iloadN X2.here hx rfl (hb hby at_29) rfl ?_
    show Steps p.tables e below (T2.setTop (mkF m 30 #[.val (.int p0), .val (.ref b1_0), .val (.int (0 : Int32))] [(.int p0)])) _
    refine st3 _ ?_
    refine XS.iloadN X3.here hx rfl (hb hby at_33) rfl ?_
    refine XS.icmpNo X3.here hx rfl (hb hby at_34) rfl (teq (by decide : (0 : Int32) = (0 : Int32))).2 ?_
    refine XS.iconst X3.here hx rfl (hb hby at_37) ?_
    refine XS.goto X3.here hx rfl (pc0 := 38) (pc' := 42) rfl (hb hby at_38) (by decide) (by decide) ?_
    show Steps p.tables e below (T3.setTop (mkF m 42 #[.val (.int p0), .val (.ref b1_0), .val (.int (0 : Int32))] [(.int (1 : Int32))])) _
    exact retN X3 hx (t := .boolean) Bd.returns (by simp) (hb hby at_42) hr
  · show OL (some (.int (1 : Int32))) Z.heap.size _ T3.heap _
    exact ⟨rfl, N3⟩
set_option maxRecDepth 65536 in
set_option maxHeartbeats 40000000 in
theorem rm_113 (l : Launch) (Z : State) (a0 : Array Value) (hw : ∀ d ∈ tables_1, d.before a0 Z = true) (w : Nat → Addr) (kk : Nat → ClassId) (iw : Nat → Int32) (vw : Nat → Value) (hN : Wd Z w kk iw vw) (ws : List Jvm.Cond) (o1 : Addr) (p1 : Int32) (kc_o1 : ClassId) (h0 : Heap) (O0 : Old Z Z.heap.size h0) (gn_o1 : Z.heap.size ≤ o1) (lt_o1 : o1 < h0.size) (E_o1 : Exa Z h0 o1 "[B") (V_o1 : Arv Z h0 o1 kc_o1 .byte (11 : Int32) [] (.int (0 : Int32))) (hp0 : ¬ (p1 < (0 : Int32))) (hp1 : (9999 : Int32) < p1) (hp2 : ¬ (((-p1) / (10000 : Int32)) = (0 : Int32))) (hp3 : ¬ ((((-p1) / (10000 : Int32)) / (10 : Int32)) = (0 : Int32))) (hp4 : ¬ (((((-p1) / (10000 : Int32)) / (10 : Int32)) / (10 : Int32)) = (0 : Int32))) (hp5 : ¬ ((((((-p1) / (10000 : Int32)) / (10 : Int32)) / (10 : Int32)) / (10 : Int32)) = (0 : Int32))) (hp6 : ¬ (((((((-p1) / (10000 : Int32)) / (10 : Int32)) / (10 : Int32)) / (10 : Int32)) / (10 : Int32)) = (0 : Int32))) (hp7 : (((((((-p1) / (10000 : Int32)) / (10 : Int32)) / (10 : Int32)) / (10 : Int32)) / (10 : Int32)) / (10 : Int32)) = (0 : Int32)) :
    Met l Z (⟨s_1, "writeYear", "([BI)I"⟩ : MethodName) (Jvm.Cond.code (⟨s_1, "writeYear", "([BI)I"⟩ : MethodName) prog_22_method_7_code 7 (some .int)) ws (Rm 0 0 0 0) #[(.ref o1), (.int p1)] h0 (Qd_25 Z w kk iw vw o1 p1 kc_o1 h0 Z.heap.size) := by
  have hN' := hN
  obtain ⟨hS0, hE0, hS1, hE1, hS2, hE2, hI0, hJ0, hR0, hRr0, hEq0⟩ := hN'
  refine own_body (plainFor_of_name pn_0) hisR ?_
  intro p e s m below meth c s₁ hx hby hml hown hnm hret X0 hZ e0
  have N0 := Fr.nil Z.heap.size
  have K0 : Keep h0 h0 [o1] := Keep.refl _ _
  have Vc1 := V_o1
  obtain ⟨cl1, Ar1, q1, Sz1, Ng1, Hv1, Gv1⟩ := Vc1
  have hin1 : ¬ ((0 : Int32) < 0 ∨ cl1.slots.size ≤ ((0 : Int32)).toNatClampNeg) := inb_of Sz1 ⟨(by decide : ¬ ((0 : Int32) < (0 : Int32))), (by decide : (0 : Int32) < (11 : Int32))⟩
  obtain ⟨T2, h2, X2, e2, W2, st2⟩ := stB X0 hx hZ e0 Ar1 (j := (0 : Int32)) hin1 (g := (mkF m 25 #[.val (.ref o1), .val (.int p1), .unset, .unset, .unset, .unset, .unset] [(.int (43 : Int32)), (.int (0 : Int32)), (.ref o1)])) rfl rfl (hb hby d1_25)
  obtain ⟨vl2, V_o1_v2⟩ := own_store V_o1 W2 (fits_nar_byte _) ⟨(by decide : ¬ ((0 : Int32) < (0 : Int32))), (by decide : (0 : Int32) < (11 : Int32))⟩
  have N2 := Fr.snoc X2 N0 gn_o1
  have E_o1_v2 := E_o1.wr W2
  have O2 := O0.wr W2 gn_o1
  have K2 : Keep h0 h2 [o1] := K0.wr W2 (Or.inl (List.mem_of_getElem? (i := 0) rfl))
  obtain ⟨T3, L3, X3, st3, N3, e3⟩ := sg_18 w kk iw vw hN o1 p1 (1 : Int32) (-p1) (5 : Int32) ((-p1) / (10000 : Int32)) vl2 kc_o1 X2 hx hZ hw hby hml hown e2 O2 N2 gn_o1 E_o1_v2.lt E_o1_v2 V_o1_v2 hp2
  obtain ⟨T4, L4, X4, st4, N4, e4⟩ := sg_18 w kk iw vw hN o1 p1 (1 : Int32) (-p1) (6 : Int32) (((-p1) / (10000 : Int32)) / (10 : Int32)) vl2 kc_o1 X3 hx hZ hw hby hml hown e3 O2 N3 gn_o1 E_o1_v2.lt E_o1_v2 V_o1_v2 hp3
  obtain ⟨T5, L5, X5, st5, N5, e5⟩ := sg_18 w kk iw vw hN o1 p1 (1 : Int32) (-p1) (7 : Int32) ((((-p1) / (10000 : Int32)) / (10 : Int32)) / (10 : Int32)) vl2 kc_o1 X4 hx hZ hw hby hml hown e4 O2 N4 gn_o1 E_o1_v2.lt E_o1_v2 V_o1_v2 hp4
  obtain ⟨T6, L6, X6, st6, N6, e6⟩ := sg_18 w kk iw vw hN o1 p1 (1 : Int32) (-p1) (8 : Int32) (((((-p1) / (10000 : Int32)) / (10 : Int32)) / (10 : Int32)) / (10 : Int32)) vl2 kc_o1 X5 hx hZ hw hby hml hown e5 O2 N5 gn_o1 E_o1_v2.lt E_o1_v2 V_o1_v2 hp5
  obtain ⟨T7, L7, X7, st7, N7, e7⟩ := sg_18 w kk iw vw hN o1 p1 (1 : Int32) (-p1) (9 : Int32) ((((((-p1) / (10000 : Int32)) / (10 : Int32)) / (10 : Int32)) / (10 : Int32)) / (10 : Int32)) vl2 kc_o1 X6 hx hZ hw hby hml hown e6 O2 N6 gn_o1 E_o1_v2.lt E_o1_v2 V_o1_v2 hp6
  obtain ⟨T8, L8, vl8_0, z5_8, X8, st8, N8, Kq8, tk8_0, tk8_1⟩ := sg_1 w kk iw vw hN o1 p1 (1 : Int32) (-p1) (10 : Int32) (-p1) (9 : Int32) vl2 kc_o1 X7 hx hZ hw hby hml hown e7 O2 N7 gn_o1 E_o1_v2.lt E_o1_v2 V_o1_v2 (by decide : ¬ ((9 : Int32) < (1 : Int32))) (by decide : ¬ ((9 : Int32) < (0 : Int32))) (by decide : (9 : Int32) < (11 : Int32))
  have E_o1_v8 := E_o1_v2.keep Kq8
  have O8 := O2.keep Kq8 (allS gn_o1 all0)
  have K8 : Keep h0 T8.heap [o1] := K2.trans Kq8 (allS (Or.inl (List.mem_of_getElem? (i := 0) rfl)) all0)
  obtain ⟨T9, L9, vl9_0, z5_9, X9, st9, N9, Kq9, tk9_0, tk9_1⟩ := sg_1 w kk iw vw hN o1 p1 (1 : Int32) (-p1) (10 : Int32) z5_8 (8 : Int32) vl8_0 kc_o1 X8 hx hZ hw hby hml hown rfl O8 N8 gn_o1 tk8_0.lt tk8_0 tk8_1 (by decide : ¬ ((8 : Int32) < (1 : Int32))) (by decide : ¬ ((8 : Int32) < (0 : Int32))) (by decide : (8 : Int32) < (11 : Int32))
  have tk8_0_v9 := tk8_0.keep Kq9
  have O9 := O8.keep Kq9 (allS gn_o1 all0)
  have K9 : Keep h0 T9.heap [o1] := K8.trans Kq9 (allS (Or.inl (List.mem_of_getElem? (i := 0) rfl)) all0)
  obtain ⟨T10, L10, vl10_0, z5_10, X10, st10, N10, Kq10, tk10_0, tk10_1⟩ := sg_1 w kk iw vw hN o1 p1 (1 : Int32) (-p1) (10 : Int32) z5_9 (7 : Int32) vl9_0 kc_o1 X9 hx hZ hw hby hml hown rfl O9 N9 gn_o1 tk9_0.lt tk9_0 tk9_1 (by decide : ¬ ((7 : Int32) < (1 : Int32))) (by decide : ¬ ((7 : Int32) < (0 : Int32))) (by decide : (7 : Int32) < (11 : Int32))
  have tk9_0_v10 := tk9_0.keep Kq10
  have O10 := O9.keep Kq10 (allS gn_o1 all0)
  have K10 : Keep h0 T10.heap [o1] := K9.trans Kq10 (allS (Or.inl (List.mem_of_getElem? (i := 0) rfl)) all0)
  obtain ⟨T11, L11, vl11_0, z5_11, X11, st11, N11, Kq11, tk11_0, tk11_1⟩ := sg_1 w kk iw vw hN o1 p1 (1 : Int32) (-p1) (10 : Int32) z5_10 (6 : Int32) vl10_0 kc_o1 X10 hx hZ hw hby hml hown rfl O10 N10 gn_o1 tk10_0.lt tk10_0 tk10_1 (by decide : ¬ ((6 : Int32) < (1 : Int32))) (by decide : ¬ ((6 : Int32) < (0 : Int32))) (by decide : (6 : Int32) < (11 : Int32))
  have tk10_0_v11 := tk10_0.keep Kq11
  have O11 := O10.keep Kq11 (allS gn_o1 all0)
  have K11 : Keep h0 T11.heap [o1] := K10.trans Kq11 (allS (Or.inl (List.mem_of_getElem? (i := 0) rfl)) all0)
  obtain ⟨T12, L12, vl12_0, z5_12, X12, st12, N12, Kq12, tk12_0, tk12_1⟩ := sg_1 w kk iw vw hN o1 p1 (1 : Int32) (-p1) (10 : Int32) z5_11 (5 : Int32) vl11_0 kc_o1 X11 hx hZ hw hby hml hown rfl O11 N11 gn_o1 tk11_0.lt tk11_0 tk11_1 (by decide : ¬ ((5 : Int32) < (1 : Int32))) (by decide : ¬ ((5 : Int32) < (0 : Int32))) (by decide : (5 : Int32) < (11 : Int32))
  have tk11_0_v12 := tk11_0.keep Kq12
  have O12 := O11.keep Kq12 (allS gn_o1 all0)
  have K12 : Keep h0 T12.heap [o1] := K11.trans Kq12 (allS (Or.inl (List.mem_of_getElem? (i := 0) rfl)) all0)
  obtain ⟨T13, L13, vl13_0, z5_13, X13, st13, N13, Kq13, tk13_0, tk13_1⟩ := sg_1 w kk iw vw hN o1 p1 (1 : Int32) (-p1) (10 : Int32) z5_12 (4 : Int32) vl12_0 kc_o1 X12 hx hZ hw hby hml hown rfl O12 N12 gn_o1 tk12_0.lt tk12_0 tk12_1 (by decide : ¬ ((4 : Int32) < (1 : Int32))) (by decide : ¬ ((4 : Int32) < (0 : Int32))) (by decide : (4 : Int32) < (11 : Int32))
  have tk12_0_v13 := tk12_0.keep Kq13
  have O13 := O12.keep Kq13 (allS gn_o1 all0)
  have K13 : Keep h0 T13.heap [o1] := K12.trans Kq13 (allS (Or.inl (List.mem_of_getElem? (i := 0) rfl)) all0)
  obtain ⟨T14, L14, vl14_0, z5_14, X14, st14, N14, Kq14, tk14_0, tk14_1⟩ := sg_1 w kk iw vw hN o1 p1 (1 : Int32) (-p1) (10 : Int32) z5_13 (3 : Int32) vl13_0 kc_o1 X13 hx hZ hw hby hml hown rfl O13 N13 gn_o1 tk13_0.lt tk13_0 tk13_1 (by decide : ¬ ((3 : Int32) < (1 : Int32))) (by decide : ¬ ((3 : Int32) < (0 : Int32))) (by decide : (3 : Int32) < (11 : Int32))
  have tk13_0_v14 := tk13_0.keep Kq14
  have O14 := O13.keep Kq14 (allS gn_o1 all0)
  have K14 : Keep h0 T14.heap [o1] := K13.trans Kq14 (allS (Or.inl (List.mem_of_getElem? (i := 0) rfl)) all0)
  obtain ⟨T15, L15, vl15_0, z5_15, X15, st15, N15, Kq15, tk15_0, tk15_1⟩ := sg_1 w kk iw vw hN o1 p1 (1 : Int32) (-p1) (10 : Int32) z5_14 (2 : Int32) vl14_0 kc_o1 X14 hx hZ hw hby hml hown rfl O14 N14 gn_o1 tk14_0.lt tk14_0 tk14_1 (by decide : ¬ ((2 : Int32) < (1 : Int32))) (by decide : ¬ ((2 : Int32) < (0 : Int32))) (by decide : (2 : Int32) < (11 : Int32))
  have tk14_0_v15 := tk14_0.keep Kq15
  have O15 := O14.keep Kq15 (allS gn_o1 all0)
  have K15 : Keep h0 T15.heap [o1] := K14.trans Kq15 (allS (Or.inl (List.mem_of_getElem? (i := 0) rfl)) all0)
  obtain ⟨T16, L16, vl16_0, z5_16, X16, st16, N16, Kq16, tk16_0, tk16_1⟩ := sg_1 w kk iw vw hN o1 p1 (1 : Int32) (-p1) (10 : Int32) z5_15 (1 : Int32) vl15_0 kc_o1 X15 hx hZ hw hby hml hown rfl O15 N15 gn_o1 tk15_0.lt tk15_0 tk15_1 (by decide : ¬ ((1 : Int32) < (1 : Int32))) (by decide : ¬ ((1 : Int32) < (0 : Int32))) (by decide : (1 : Int32) < (11 : Int32))
  have tk15_0_v16 := tk15_0.keep Kq16
  have O16 := O15.keep Kq16 (allS gn_o1 all0)
  have K16 : Keep h0 T16.heap [o1] := K15.trans Kq16 (allS (Or.inl (List.mem_of_getElem? (i := 0) rfl)) all0)
  refine ⟨T16, some (.int (10 : Int32)), _, _, _, by decide, by decide, X16, nofun, ⟨vl16_0, rfl, N16, K16, tk16_0, tk16_1⟩, fun fs hr => castTop (ef_0 m (.ref o1) rfl (.int p1) rfl) ?_⟩
  show Steps p.tables e below (s₁.setTop (mkF m 0 #[.val (.ref o1), .val (.int p1), .unset, .unset, .unset, .unset, .unset] [])) _
  refine XS.iloadN X0.here hx rfl (hb hby d1_0) rfl ?_
  refine XS.ifYes X0.here hx rfl (pc0 := 1) (pc' := 14) rfl (hb hby d1_1) rfl ((if0 _ _).trans (flt hp0).2.1) (by decide) (by decide) ?_
  refine XS.iloadN X0.here hx rfl (hb hby d1_14) rfl ?_
  refine XS.sipush X0.here hx rfl (hb hby d1_15) ?_
  refine XS.icmpNo X0.here hx rfl (hb hby d1_18) rfl (tlt hp1).2.2.2 ?_
  refine XS.aloadN X0.here hx rfl (hb hby d1_21) rfl rfl ?_
  refine XS.iconst X0.here hx rfl (hb hby d1_22) ?_
  refine XS.bipush X0.here hx rfl (hb hby d1_23) ?_
  refine st2 _ ?_
  refine XS.iconst X2.here hx rfl (hb hby d1_26) ?_
  show Steps p.tables e below (T2.setTop (mkF m 27 #[.val (.ref o1), .val (.int p1), .unset, .unset, .unset, .unset, .unset] [(.int (1 : Int32))])) _
  refine XS.istoreN X2.here hx rfl (hb hby d1_27) rfl (l' := #[.val (.ref o1), .val (.int p1), .val (.int (1 : Int32)), .unset, .unset, .unset, .unset]) rfl ?_
  refine XS.goto X2.here hx rfl (pc0 := 28) (pc' := 33) rfl (hb hby d1_28) (by decide) (by decide) ?_
  refine XS.iloadN X2.here hx rfl (hb hby d1_33) rfl ?_
  refine XS.ifYes X2.here hx rfl (pc0 := 34) (pc' := 41) rfl (hb hby d1_34) rfl ((if0 _ _).trans (flt hp0).2.1) (by decide) (by decide) ?_
  refine XS.iloadN X2.here hx rfl (hb hby d1_41) rfl ?_
  refine XS.ineg X2.here hx rfl (hb hby d1_42) rfl ?_
  refine XS.istoreN X2.here hx rfl (hb hby d1_43) rfl (l' := #[.val (.ref o1), .val (.int p1), .val (.int (1 : Int32)), .val (.int (-p1)), .unset, .unset, .unset]) rfl ?_
  refine XS.iloadN X2.here hx rfl (hb hby d1_44) rfl ?_
  refine XS.iconst X2.here hx rfl (hb hby d1_45) ?_
  refine XS.iadd X2.here hx rfl (hb hby d1_46) rfl ?_
  show Steps p.tables e below (T2.setTop (mkF m 47 #[.val (.ref o1), .val (.int p1), .val (.int (1 : Int32)), .val (.int (-p1)), .unset, .unset, .unset] [(.int ((1 : Int32) + (4 : Int32)))])) _
  rw [lf_0]
  show Steps p.tables e below (T2.setTop (mkF m 47 #[.val (.ref o1), .val (.int p1), .val (.int (1 : Int32)), .val (.int (-p1)), .unset, .unset, .unset] [(.int (5 : Int32))])) _
  refine XS.istore X2.here hx rfl (hb hby d1_47) rfl (l' := #[.val (.ref o1), .val (.int p1), .val (.int (1 : Int32)), .val (.int (-p1)), .val (.int (5 : Int32)), .unset, .unset]) rfl ?_
  refine XS.iloadN X2.here hx rfl (hb hby d1_49) rfl ?_
  refine XS.sipush X2.here hx rfl (hb hby d1_50) ?_
  refine XS.idiv X2.here hx rfl (hb hby d1_53) rfl (by decide : ¬ ((10000 : Int32) = (0 : Int32))) ?_
  refine XS.istore X2.here hx rfl (hb hby d1_54) rfl (l' := #[.val (.ref o1), .val (.int p1), .val (.int (1 : Int32)), .val (.int (-p1)), .val (.int (5 : Int32)), .val (.int ((-p1) / (10000 : Int32))), .unset]) rfl ?_
  show Steps p.tables e below (T2.setTop (mkF m 56 #[.val (.ref o1), .val (.int p1), .val (.int (1 : Int32)), .val (.int (-p1)), .val (.int (5 : Int32)), .val (.int ((-p1) / (10000 : Int32))), .unset] [])) _
  refine st3 _ ?_
  show Steps p.tables e below (T3.setTop (mkF m 56 #[.val (.ref o1), .val (.int p1), .val (.int (1 : Int32)), .val (.int (-p1)), .val (.int ((5 : Int32) + (1 : Int32))), .val (.int (((-p1) / (10000 : Int32)) / (10 : Int32))), .unset] [])) _
  rw [lf_12]
  show Steps p.tables e below (T3.setTop (mkF m 56 #[.val (.ref o1), .val (.int p1), .val (.int (1 : Int32)), .val (.int (-p1)), .val (.int (6 : Int32)), .val (.int (((-p1) / (10000 : Int32)) / (10 : Int32))), .unset] [])) _
  refine st4 _ ?_
  show Steps p.tables e below (T4.setTop (mkF m 56 #[.val (.ref o1), .val (.int p1), .val (.int (1 : Int32)), .val (.int (-p1)), .val (.int ((6 : Int32) + (1 : Int32))), .val (.int ((((-p1) / (10000 : Int32)) / (10 : Int32)) / (10 : Int32))), .unset] [])) _
  rw [lf_19]
  show Steps p.tables e below (T4.setTop (mkF m 56 #[.val (.ref o1), .val (.int p1), .val (.int (1 : Int32)), .val (.int (-p1)), .val (.int (7 : Int32)), .val (.int ((((-p1) / (10000 : Int32)) / (10 : Int32)) / (10 : Int32))), .unset] [])) _
  refine st5 _ ?_
  show Steps p.tables e below (T5.setTop (mkF m 56 #[.val (.ref o1), .val (.int p1), .val (.int (1 : Int32)), .val (.int (-p1)), .val (.int ((7 : Int32) + (1 : Int32))), .val (.int (((((-p1) / (10000 : Int32)) / (10 : Int32)) / (10 : Int32)) / (10 : Int32))), .unset] [])) _
  rw [lf_26]
  show Steps p.tables e below (T5.setTop (mkF m 56 #[.val (.ref o1), .val (.int p1), .val (.int (1 : Int32)), .val (.int (-p1)), .val (.int (8 : Int32)), .val (.int (((((-p1) / (10000 : Int32)) / (10 : Int32)) / (10 : Int32)) / (10 : Int32))), .unset] [])) _
  refine st6 _ ?_
  show Steps p.tables e below (T6.setTop (mkF m 56 #[.val (.ref o1), .val (.int p1), .val (.int (1 : Int32)), .val (.int (-p1)), .val (.int ((8 : Int32) + (1 : Int32))), .val (.int ((((((-p1) / (10000 : Int32)) / (10 : Int32)) / (10 : Int32)) / (10 : Int32)) / (10 : Int32))), .unset] [])) _
  rw [lf_33]
  show Steps p.tables e below (T6.setTop (mkF m 56 #[.val (.ref o1), .val (.int p1), .val (.int (1 : Int32)), .val (.int (-p1)), .val (.int (9 : Int32)), .val (.int ((((((-p1) / (10000 : Int32)) / (10 : Int32)) / (10 : Int32)) / (10 : Int32)) / (10 : Int32))), .unset] [])) _
  refine st7 _ ?_
  show Steps p.tables e below (T7.setTop (mkF m 56 #[.val (.ref o1), .val (.int p1), .val (.int (1 : Int32)), .val (.int (-p1)), .val (.int ((9 : Int32) + (1 : Int32))), .val (.int (((((((-p1) / (10000 : Int32)) / (10 : Int32)) / (10 : Int32)) / (10 : Int32)) / (10 : Int32)) / (10 : Int32))), .unset] [])) _
  rw [lf_40]
  refine XS.iload X7.here hx rfl (hb hby d1_56) rfl ?_
  refine XS.ifYes X7.here hx rfl (pc0 := 58) (pc' := 74) rfl (hb hby d1_58) rfl ((if0 _ _).trans (teq hp7).1) (by decide) (by decide) ?_
  refine XS.iloadN X7.here hx rfl (hb hby d1_74) rfl ?_
  refine XS.istore X7.here hx rfl (hb hby d1_75) rfl (l' := #[.val (.ref o1), .val (.int p1), .val (.int (1 : Int32)), .val (.int (-p1)), .val (.int (10 : Int32)), .val (.int (-p1)), .unset]) rfl ?_
  refine XS.iload X7.here hx rfl (hb hby d1_77) rfl ?_
  refine XS.iconst X7.here hx rfl (hb hby d1_79) ?_
  refine XS.isub X7.here hx rfl (hb hby d1_80) rfl ?_
  show Steps p.tables e below (T7.setTop (mkF m 81 #[.val (.ref o1), .val (.int p1), .val (.int (1 : Int32)), .val (.int (-p1)), .val (.int (10 : Int32)), .val (.int (-p1)), .unset] [(.int ((10 : Int32) - (1 : Int32)))])) _
  rw [lf_41]
  refine XS.istore X7.here hx rfl (hb hby d1_81) rfl (l' := #[.val (.ref o1), .val (.int p1), .val (.int (1 : Int32)), .val (.int (-p1)), .val (.int (10 : Int32)), .val (.int (-p1)), .val (.int (9 : Int32))]) rfl ?_
  show Steps p.tables e below (T7.setTop (mkF m 83 #[.val (.ref o1), .val (.int p1), .val (.int (1 : Int32)), .val (.int (-p1)), .val (.int (10 : Int32)), .val (.int (-p1)), .val (.int (9 : Int32))] [])) _
  refine st8 _ ?_
  show Steps p.tables e below (T8.setTop (mkF m 83 #[.val (.ref o1), .val (.int p1), .val (.int (1 : Int32)), .val (.int (-p1)), .val (.int (10 : Int32)), .val (.int z5_8), .val (.int ((9 : Int32) + (-1 : Int32)))] [])) _
  rw [lf_42]
  show Steps p.tables e below (T8.setTop (mkF m 83 #[.val (.ref o1), .val (.int p1), .val (.int (1 : Int32)), .val (.int (-p1)), .val (.int (10 : Int32)), .val (.int z5_8), .val (.int (8 : Int32))] [])) _
  refine st9 _ ?_
  show Steps p.tables e below (T9.setTop (mkF m 83 #[.val (.ref o1), .val (.int p1), .val (.int (1 : Int32)), .val (.int (-p1)), .val (.int (10 : Int32)), .val (.int z5_9), .val (.int ((8 : Int32) + (-1 : Int32)))] [])) _
  rw [lf_35]
  show Steps p.tables e below (T9.setTop (mkF m 83 #[.val (.ref o1), .val (.int p1), .val (.int (1 : Int32)), .val (.int (-p1)), .val (.int (10 : Int32)), .val (.int z5_9), .val (.int (7 : Int32))] [])) _
  refine st10 _ ?_
  show Steps p.tables e below (T10.setTop (mkF m 83 #[.val (.ref o1), .val (.int p1), .val (.int (1 : Int32)), .val (.int (-p1)), .val (.int (10 : Int32)), .val (.int z5_10), .val (.int ((7 : Int32) + (-1 : Int32)))] [])) _
  rw [lf_28]
  show Steps p.tables e below (T10.setTop (mkF m 83 #[.val (.ref o1), .val (.int p1), .val (.int (1 : Int32)), .val (.int (-p1)), .val (.int (10 : Int32)), .val (.int z5_10), .val (.int (6 : Int32))] [])) _
  refine st11 _ ?_
  show Steps p.tables e below (T11.setTop (mkF m 83 #[.val (.ref o1), .val (.int p1), .val (.int (1 : Int32)), .val (.int (-p1)), .val (.int (10 : Int32)), .val (.int z5_11), .val (.int ((6 : Int32) + (-1 : Int32)))] [])) _
  rw [lf_21]
  show Steps p.tables e below (T11.setTop (mkF m 83 #[.val (.ref o1), .val (.int p1), .val (.int (1 : Int32)), .val (.int (-p1)), .val (.int (10 : Int32)), .val (.int z5_11), .val (.int (5 : Int32))] [])) _
  refine st12 _ ?_
  show Steps p.tables e below (T12.setTop (mkF m 83 #[.val (.ref o1), .val (.int p1), .val (.int (1 : Int32)), .val (.int (-p1)), .val (.int (10 : Int32)), .val (.int z5_12), .val (.int ((5 : Int32) + (-1 : Int32)))] [])) _
  rw [lf_14]
  show Steps p.tables e below (T12.setTop (mkF m 83 #[.val (.ref o1), .val (.int p1), .val (.int (1 : Int32)), .val (.int (-p1)), .val (.int (10 : Int32)), .val (.int z5_12), .val (.int (4 : Int32))] [])) _
  refine st13 _ ?_
  show Steps p.tables e below (T13.setTop (mkF m 83 #[.val (.ref o1), .val (.int p1), .val (.int (1 : Int32)), .val (.int (-p1)), .val (.int (10 : Int32)), .val (.int z5_13), .val (.int ((4 : Int32) + (-1 : Int32)))] [])) _
  rw [lf_2]
  show Steps p.tables e below (T13.setTop (mkF m 83 #[.val (.ref o1), .val (.int p1), .val (.int (1 : Int32)), .val (.int (-p1)), .val (.int (10 : Int32)), .val (.int z5_13), .val (.int (3 : Int32))] [])) _
  refine st14 _ ?_
  show Steps p.tables e below (T14.setTop (mkF m 83 #[.val (.ref o1), .val (.int p1), .val (.int (1 : Int32)), .val (.int (-p1)), .val (.int (10 : Int32)), .val (.int z5_14), .val (.int ((3 : Int32) + (-1 : Int32)))] [])) _
  rw [lf_3]
  show Steps p.tables e below (T14.setTop (mkF m 83 #[.val (.ref o1), .val (.int p1), .val (.int (1 : Int32)), .val (.int (-p1)), .val (.int (10 : Int32)), .val (.int z5_14), .val (.int (2 : Int32))] [])) _
  refine st15 _ ?_
  show Steps p.tables e below (T15.setTop (mkF m 83 #[.val (.ref o1), .val (.int p1), .val (.int (1 : Int32)), .val (.int (-p1)), .val (.int (10 : Int32)), .val (.int z5_15), .val (.int ((2 : Int32) + (-1 : Int32)))] [])) _
  rw [lf_4]
  show Steps p.tables e below (T15.setTop (mkF m 83 #[.val (.ref o1), .val (.int p1), .val (.int (1 : Int32)), .val (.int (-p1)), .val (.int (10 : Int32)), .val (.int z5_15), .val (.int (1 : Int32))] [])) _
  refine st16 _ ?_
  show Steps p.tables e below (T16.setTop (mkF m 83 #[.val (.ref o1), .val (.int p1), .val (.int (1 : Int32)), .val (.int (-p1)), .val (.int (10 : Int32)), .val (.int z5_16), .val (.int ((1 : Int32) + (-1 : Int32)))] [])) _
  rw [lf_5]
  refine XS.iload X16.here hx rfl (hb hby d1_83) rfl ?_
  refine XS.iloadN X16.here hx rfl (hb hby d1_85) rfl ?_
  refine XS.icmpYes X16.here hx rfl (pc0 := 86) (pc' := 115) rfl (hb hby d1_86) rfl (tlt (by decide : (0 : Int32) < (1 : Int32))).1 (by decide) (by decide) ?_
  refine XS.iload X16.here hx rfl (hb hby d1_115) rfl ?_
  show Steps p.tables e below (T16.setTop (mkF m 117 #[.val (.ref o1), .val (.int p1), .val (.int (1 : Int32)), .val (.int (-p1)), .val (.int (10 : Int32)), .val (.int z5_16), .val (.int (0 : Int32))] [(.int (10 : Int32))])) _
  exact retI X16 hx hret (hb hby d1_117) hr
set_option maxRecDepth 65536 in
set_option maxHeartbeats 40000000 in
theorem rm_114 (l : Launch) (Z : State) (a0 : Array Value) (hw : ∀ d ∈ tables_1, d.before a0 Z = true) (w : Nat → Addr) (kk : Nat → ClassId) (iw : Nat → Int32) (vw : Nat → Value) (hN : Wd Z w kk iw vw) (ws : List Jvm.Cond) (p0 : Int32) (h0 : Heap) (O0 : Old Z Z.heap.size h0) (hp0 : ¬ (p0 < (0 : Int32))) (hp1 : (9999 : Int32) < p0) (hp2 : ¬ (((-p0) / (10000 : Int32)) = (0 : Int32))) (hp3 : ¬ ((((-p0) / (10000 : Int32)) / (10 : Int32)) = (0 : Int32))) (hp4 : ¬ (((((-p0) / (10000 : Int32)) / (10 : Int32)) / (10 : Int32)) = (0 : Int32))) (hp5 : ¬ ((((((-p0) / (10000 : Int32)) / (10 : Int32)) / (10 : Int32)) / (10 : Int32)) = (0 : Int32))) (hp6 : ¬ (((((((-p0) / (10000 : Int32)) / (10 : Int32)) / (10 : Int32)) / (10 : Int32)) / (10 : Int32)) = (0 : Int32))) (hp7 : (((((((-p0) / (10000 : Int32)) / (10 : Int32)) / (10 : Int32)) / (10 : Int32)) / (10 : Int32)) / (10 : Int32)) = (0 : Int32)) :
    Met l Z (⟨s_1, "yearText", s_4⟩ : MethodName) (Jvm.Cond.code (⟨s_1, "yearText", s_4⟩ : MethodName) prog_22_method_4_code 2 (some (.object s_0))) ws (Rm 6 3 25 101) #[(.int p0)] h0 (Qd_29 Z w kk iw vw p0 h0 Z.heap.size) := by
  have hN' := hN
  obtain ⟨hS0, hE0, hS1, hE1, hS2, hE2, hI0, hJ0, hR0, hRr0, hEq0⟩ := hN'
  refine own_body (plainFor_of_name pn_0) hisR ?_
  intro p e s m below meth c s₁ hx hby hml hown hnm hret X0 hZ e0
  have N0 := Fr.nil Z.heap.size
  have K0 : Keep h0 h0 [] := Keep.refl _ _
  obtain ⟨T1, h1, k1, X1, e1, E1, A1, AE1, st1⟩ := newPE X0 hx hZ (W hw 4 rfl) e0 (g := (mkF m 2 #[.val (.int p0), .unset] [(.int (11 : Int32))])) rfl (hb hby d0_2) rfl (by decide) (cap := 11) (by decide) (by decide) (by decide) (by decide) (ad := "[B") rfl
  obtain ⟨b1, g1⟩ : ∃ z, z = h0.size := ⟨_, rfl⟩
  rw [← g1] at A1 st1 AE1
  have gn_b1 : Z.heap.size ≤ b1 := Nat.le_trans O0.2.1 (Nat.le_of_eq g1.symm)
  have sz_b1 : h0.size ≤ b1 := Nat.le_trans K0.1 (Nat.le_of_eq g1.symm)
  have O1 := O0.ext E1
  have K1 := K0.ext E1
  have E_b1_v1 := AE1
  have V_b1_v1 : Arv Z h1 b1 k1 .byte (11 : Int32) [] (.int (0 : Int32)) := Arv.new A1 (by decide)
  obtain ⟨_, _, ⟨T2, L2, k2, n2⟩, -, X2, ⟨Lc2, hQ2, l2, y2, z2⟩, st2⟩ := Jvm.LawKit.callS X1 hx (y := (⟨s_1, "writeYear", "([BI)I"⟩ : MethodName)) hown (mvT hZ (W hw 5 rfl)) (mvT hZ (W hw 6 rfl)) (mvT hZ (W hw 2 rfl)) (mvT hZ (W hw 7 rfl)) (by decide) (backOf (W := 1) (rm_113 l Z a0 hw w kk iw vw hN [] b1 p0 k1 h1 O1 gn_b1 E_b1_v1.lt E_b1_v1 V_b1_v1 hp0 hp1 hp2 hp3 hp4 hp5 hp6 hp7) hZ (W hw 7 rfl) (W hw 2 rfl) (by decide) (by decide)) (g := (mkF m 8 #[.val (.int p0), .val (.ref b1)] [(.int p0), (.ref b1), (.ref b1)])) rfl (by rw [hml]; rfl) (argsL := [(.ref b1), (.int p0)]) (rest := [(.ref b1)]) (lenOf pd_0 rfl) rfl (by show 2 * 0 + _ ≤ _; exact Nat.le_of_eq rfl) (hb hby d0_8) (fun _ _ => ⟨rfl, e1, (by decide : 1 + 0 ≤ _), (by decide : 11 + 0 ≤ _)⟩)
  dsimp only [Pt.U, Pt.locs, Pt.cells, Pt.slots] at X2 l2 y2 z2 st2 hQ2
  subst l2 y2 z2
  obtain ⟨vl2_0, rfl, N2q, Kq2, tk2_0, tk2_1⟩ := hQ2
  have N2 := Fr.app N0 N2q
  have E_b1_v2 := E_b1_v1.keep Kq2
  have O2 := O1.keep Kq2 (allS gn_b1 all0)
  have K2 : Keep h0 T2.heap [] := K1.trans Kq2 (allS (Or.inr sz_b1) all0)
  obtain ⟨_, _, ⟨T3, L3, k3, n3⟩, -, X3, ⟨Lc3, hQ3, l3, y3, z3⟩, st3⟩ := Jvm.LawKit.callS X2 hx (y := (⟨s_1, "string", s_9⟩ : MethodName)) hown (mvT hZ (W hw 8 rfl)) (mvT hZ (W hw 9 rfl)) (mvT hZ (W hw 2 rfl)) (mvT hZ (W hw 10 rfl)) (by decide) (backOf (W := 0) (rm_84 l Z a0 hw w kk iw vw hN [] b1 vl2_0 k1 T2.heap O2 gn_b1 tk2_0.lt tk2_0 tk2_1) hZ (W hw 10 rfl) (W hw 2 rfl) (by decide) (by decide)) (g := (mkF m 11 #[.val (.int p0), .val (.ref b1)] [(.int (10 : Int32)), (.ref b1)])) rfl (by rw [hml]; rfl) (argsL := [(.ref b1), (.int (10 : Int32))]) (rest := []) (lenOf pd_9 rfl) rfl (by show 2 * 0 + _ ≤ _; exact Nat.le_of_eq rfl) (hb hby d0_11) (fun _ _ => ⟨rfl, rfl, (by decide : 1 + 2 ≤ _), (by decide : 11 + 14 ≤ _)⟩)
  dsimp only [Pt.U, Pt.locs, Pt.cells, Pt.slots] at X3 l3 y3 z3 st3 hQ3
  subst l3 y3 z3
  obtain ⟨b3_0, b3_1, kb3_0, vl3_0, rfl, N3q, Kq3, tk3_0, tk3_1, tk3_2, tk3_3, tk3_4, tk3_5, tk3_6, tk3_7⟩ := hQ3
  have N3 := Fr.app N2 N3q
  have gn_b3_0 : Z.heap.size ≤ b3_0 := Nat.le_trans O2.2.1 tk3_0
  have sz_b3_0 : h0.size ≤ b3_0 := Nat.le_trans K2.1 tk3_0
  have ne_b1_b3_0 : b1 ≠ b3_0 := Nat.ne_of_lt (Nat.lt_of_lt_of_le tk2_0.lt tk3_0)
  have gn_b3_1 : Z.heap.size ≤ b3_1 := Nat.le_trans O2.2.1 tk3_1
  have sz_b3_1 : h0.size ≤ b3_1 := Nat.le_trans K2.1 tk3_1
  have ne_b1_b3_1 : b1 ≠ b3_1 := Nat.ne_of_lt (Nat.lt_of_lt_of_le tk2_0.lt tk3_1)
  have tk2_0_v3 := tk2_0.keep Kq3
  have tk2_1_v3 := tk2_1.keep Kq3 nin0
  have O3 := O2.keep Kq3 all0
  have K3 : Keep h0 T3.heap [] := K2.trans Kq3 all0
  refine ⟨T3, some (.ref b3_0), _, _, _, by decide, by decide, X3, nofun, ⟨b3_0, b3_1, kb3_0, vl3_0, rfl, N3, K3, sz_b3_0, sz_b3_1, tk3_2, tk3_3, tk3_4, tk3_5, tk3_6, tk3_7⟩, fun fs hr => castTop (ef_10 m (.int p0) rfl) ?_⟩
  show Steps p.tables e below (s₁.setTop (mkF m 0 #[.val (.int p0), .unset] [])) _
  refine XS.bipush X0.here hx rfl (hb hby d0_0) ?_
  refine st1 _ ?_
  refine XS.astoreN X1.here hx rfl (hb hby d0_4) rfl rfl (l' := #[.val (.int p0), .val (.ref b1)]) rfl ?_
  refine XS.aloadN X1.here hx rfl (hb hby d0_5) rfl rfl ?_
  refine XS.aloadN X1.here hx rfl (hb hby d0_6) rfl rfl ?_
  refine XS.iloadN X1.here hx rfl (hb hby d0_7) rfl ?_
  refine st2 _ ?_
  refine st3 _ ?_
  show Steps p.tables e below (T3.setTop (mkF m 14 #[.val (.int p0), .val (.ref b1)] [(.ref b3_0)])) _
  exact retOut X3 hx hret rfl (Or.inr (Or.inr (Or.inr (Or.inr ⟨rfl, rfl, rfl⟩)))) (hb hby d0_14) hr
set_option maxRecDepth 65536 in
set_option maxHeartbeats 40000000 in
theorem law_115 (l : Launch) (Z : State) (a0 : Array Value) (hw : ∀ d ∈ tables_1, d.before a0 Z = true) (w : Nat → Addr) (kk : Nat → ClassId) (iw : Nat → Int32) (vw : Nat → Value) (hN : Wd Z w kk iw vw) (ws : List Jvm.Cond) (p0 : Int32) (h0 : Heap) (O0 : Old Z Z.heap.size h0) (hp0 : ¬ (p0 < (0 : Int32))) (hp1 : (9999 : Int32) < p0) (hp2 : ¬ (((-p0) / (10000 : Int32)) = (0 : Int32))) (hp3 : ¬ ((((-p0) / (10000 : Int32)) / (10 : Int32)) = (0 : Int32))) (hp4 : ¬ (((((-p0) / (10000 : Int32)) / (10 : Int32)) / (10 : Int32)) = (0 : Int32))) (hp5 : ¬ ((((((-p0) / (10000 : Int32)) / (10 : Int32)) / (10 : Int32)) / (10 : Int32)) = (0 : Int32))) (hp6 : ¬ (((((((-p0) / (10000 : Int32)) / (10 : Int32)) / (10 : Int32)) / (10 : Int32)) / (10 : Int32)) = (0 : Int32))) (hp7 : (((((((-p0) / (10000 : Int32)) / (10 : Int32)) / (10 : Int32)) / (10 : Int32)) / (10 : Int32)) / (10 : Int32)) = (0 : Int32)) (hp8 : ¬ (p0 < (1000 : Int32))) :
    MetFree l x (head1 (Jvm.Cond.code x code maxLocals ret :: ws) room_1) (fun a U => a = #[(.int p0)] ∧ Z.Warmed39 U.vm ∧ U.heap = h0) (fun _ _ _ _ _ => True) (fun _ U o U' => ∃ v L, o = .returned v ∧ OL (some (.int (1 : Int32))) Z.heap.size v U'.heap L ∧ FrameEnd U o U' L 16 128) := by
  have hN' := hN
  obtain ⟨hS0, hE0, hS1, hE1, hS2, hE2, hI0, hJ0, hR0, hRr0, hEq0⟩ := hN'
  refine MetFree.of_bodySF (plainFor_of_name pn_5) hisR ?_
  intro p e s m args below meth c s₁ Bd hml0 hP hK
  obtain ⟨rfl, hZ, hh⟩ := hP
  have hx := Bd.exec
  have hby := Bd.bytes
  have hml : c.maxLocals = 3 := hml0
  have hown : s.vm.findClass s_3 = some m.cls := findClass_of_methodNamed Bd.named
  have hnm := (name_of_methodNamed Bd.named Bd.method).1
  have X0 : Stand p l e room_1 s m #[(.int p0)] below meth c s₁ [] 0 0 := Stand.of_body Bd
  have e0 : s₁.heap = h0 := by rw [← hh, Bd.state]; rfl
  have N0 := Fr.nil Z.heap.size
  obtain ⟨_, _, ⟨T1, L1, k1, n1⟩, -, X1, ⟨Lc1, hQ1, l1, y1, z1⟩, st1⟩ := Jvm.LawKit.callS X0 hx (y := (⟨s_1, "yearText", s_4⟩ : MethodName)) hown (mvT hZ (W hw 0 rfl)) (mvT hZ (W hw 1 rfl)) (mvT hZ (W hw 2 rfl)) (mvT hZ (W hw 3 rfl)) (by decide) (backOf (W := 0) (rm_114 l Z a0 hw w kk iw vw hN [] p0 h0 O0 hp0 hp1 hp2 hp3 hp4 hp5 hp6 hp7) hZ (W hw 3 rfl) (W hw 2 rfl) (by decide) (by decide)) (g := (mkF m 1 #[.val (.int p0), .unset, .unset] [(.int p0)])) rfl (by rw [hml]; rfl) (argsL := [(.int p0)]) (rest := []) (lenOf pd_10 rfl) rfl (by show 2 * 0 + _ ≤ _; exact Nat.le_of_eq rfl) (hb hby at_1) (fun _ _ => ⟨rfl, e0, (by decide : 0 + 3 ≤ _), (by decide : 0 + 25 ≤ _)⟩)
  dsimp only [Pt.U, Pt.locs, Pt.cells, Pt.slots] at X1 l1 y1 z1 st1 hQ1
  subst l1 y1 z1
  obtain ⟨b1_0, b1_1, kb1_0, vl1_0, rfl, N1q, Kq1, tk1_0, tk1_1, tk1_2, tk1_3, tk1_4, tk1_5, tk1_6, tk1_7⟩ := hQ1
  have N1 := Fr.app N0 N1q
  have gn_b1_0 : Z.heap.size ≤ b1_0 := Nat.le_trans O0.2.1 tk1_0
  have gn_b1_1 : Z.heap.size ≤ b1_1 := Nat.le_trans O0.2.1 tk1_1
  have O1 := O0.keep Kq1 all0
  obtain ⟨cq2, kq2, q2a, q2b, q2c⟩ := isOf hZ rfl tk1_3
  obtain ⟨_, _, ⟨T2, L2, k2, n2⟩, -, X2, ⟨Lc2, hQ2, l2, y2, z2⟩, st2⟩ := X1.virtualBack hx (y := (⟨s_0, "length", "()I"⟩ : MethodName)) (z := (⟨s_0, "length", "()I"⟩ : MethodName)) hown (mvT hZ (W hw 67 rfl)) (mvT hZ (W hw 68 rfl)) (notFace_of_selects (args := #[]) (mvT hZ (W hw 70 rfl))) (mvT hZ (W hw 70 rfl)) (mvT hZ (W hw 69 rfl)) (by decide) (backOf (W := 0) (rm_87 l Z a0 hw w kk iw vw hN [] b1_0 b1_1 vl1_0 kb1_0 T1.heap O1 gn_b1_0 tk1_3.lt tk1_3 gn_b1_1 tk1_6.lt tk1_4 tk1_5 tk1_6 tk1_7 tk1_2) hZ (W hw 71 rfl) (W hw 13 rfl) (by decide) (by decide)) q2a q2c (g := (mkF m 6 #[.val (.int p0), .val (.ref b1_0), .unset] [(.ref b1_0)])) rfl (by rw [hml]; rfl) (Steps.refl _) (argsL := []) (rest := []) (lenOf pd_12 rfl) rfl (by show 2 * 0 + _ ≤ _; exact Nat.le_of_eq rfl) (hb hby at_6) (fun _ _ => ⟨rfl, rfl, (by decide : 3 + 0 ≤ _), (by decide : 25 + 0 ≤ _)⟩)
  dsimp only [Pt.U, Pt.locs, Pt.cells, Pt.slots] at X2 l2 y2 z2 st2 hQ2
  subst l2 y2 z2
  obtain ⟨rfl, N2q, e2⟩ := hQ2
  have N2 := Fr.app N1 N2q
  obtain ⟨_, _, ⟨T3, L3, k3, n3⟩, -, X3, ⟨Lc3, hQ3, l3, y3, z3⟩, st3⟩ := Jvm.LawKit.callS X2 hx (y := (⟨s_1, s_15, "(I)Z"⟩ : MethodName)) hown (mvT hZ (W hw 97 rfl)) (mvT hZ (W hw 98 rfl)) (mvT hZ (W hw 2 rfl)) (mvT hZ (W hw 99 rfl)) (by decide) (backOf (W := 0) (rm_102 l Z a0 hw w kk iw vw hN [] p0 T1.heap O1 hp8 hp1) hZ (W hw 99 rfl) (W hw 2 rfl) (by decide) (by decide)) (g := (mkF m 30 #[.val (.int p0), .val (.ref b1_0), .val (.int (0 : Int32))] [(.int p0)])) rfl (by rw [hml]; rfl) (argsL := [(.int p0)]) (rest := []) (lenOf pd_13 rfl) rfl (by show 2 * 0 + _ ≤ _; exact Nat.le_of_eq rfl) (hb hby at_30) (fun _ _ => ⟨rfl, e2, (by decide : 3 + 0 ≤ _), (by decide : 25 + 0 ≤ _)⟩)
  dsimp only [Pt.U, Pt.locs, Pt.cells, Pt.slots] at X3 l3 y3 z3 st3 hQ3
  subst l3 y3 z3
  obtain ⟨rfl, N3q, e3⟩ := hQ3
  have N3 := Fr.app N2 N3q
  obtain ⟨fs, hr, hrun, hended, hW, hsame⟩ := X3.leave (v := some (.int (1 : Int32))) (fun h => by rw [Bd.returns] at h; cases h)
  refine ⟨_, _, castTop (ef_12 m (.int p0) rfl) ?_, hrun, hended, _, _, rfl, ?_, ⟨_, rfl⟩, hW, hsame.mono (by decide) (by decide)⟩
  · show Steps p.tables e below (s₁.setTop (mkF m 0 #[.val (.int p0), .unset, .unset] [])) _
    refine XS.iloadN X0.here hx rfl (hb hby at_0) rfl ?_
    refine st1 _ ?_
    refine XS.astoreN X1.here hx rfl (hb hby at_4) rfl rfl (l' := #[.val (.int p0), .val (.ref b1_0), .unset]) rfl ?_
    refine XS.aloadN X1.here hx rfl (hb hby at_5) rfl rfl ?_
    refine st2.trans ?_
    refine XS.iconst X2.here hx rfl (hb hby at_9) ?_
    refine XS.icmpYes X2.here hx rfl (pc0 := 10) (pc' := 27) rfl (hb hby at_10) rfl (feq (by decide : ¬ ((10 : Int32) = (4 : Int32)))).2 (by decide) (by decide) ?_
    refine XS.iconst X2.here hx rfl (hb hby at_27) ?_
    refine XS.istoreN X2.here hx rfl (hb hby at_28) rfl (l' := #[.val (.int p0), .val (.ref b1_0), .val (.int (0 : Int32))]) rfl ?_
    refine XS.iloadN X2.here hx rfl (hb hby at_29) rfl ?_
    show Steps p.tables e below (T2.setTop (mkF m 30 #[.val (.int p0), .val (.ref b1_0), .val (.int (0 : Int32))] [(.int p0)])) _
    refine st3 _ ?_
    refine XS.iloadN X3.here hx rfl (hb hby at_33) rfl ?_
    refine XS.icmpNo X3.here hx rfl (hb hby at_34) rfl (teq (by decide : (0 : Int32) = (0 : Int32))).2 ?_
    refine XS.iconst X3.here hx rfl (hb hby at_37) ?_
    refine XS.goto X3.here hx rfl (pc0 := 38) (pc' := 42) rfl (hb hby at_38) (by decide) (by decide) ?_
    show Steps p.tables e below (T3.setTop (mkF m 42 #[.val (.int p0), .val (.ref b1_0), .val (.int (0 : Int32))] [(.int (1 : Int32))])) _
    exact retN X3 hx (t := .boolean) Bd.returns (by simp) (hb hby at_42) hr
  · show OL (some (.int (1 : Int32))) Z.heap.size _ T3.heap _
    exact ⟨rfl, N3⟩
set_option maxRecDepth 65536 in
set_option maxHeartbeats 40000000 in
theorem rm_116 (l : Launch) (Z : State) (a0 : Array Value) (hw : ∀ d ∈ tables_1, d.before a0 Z = true) (w : Nat → Addr) (kk : Nat → ClassId) (iw : Nat → Int32) (vw : Nat → Value) (hN : Wd Z w kk iw vw) (ws : List Jvm.Cond) (o1 : Addr) (p1 : Int32) (kc_o1 : ClassId) (h0 : Heap) (O0 : Old Z Z.heap.size h0) (gn_o1 : Z.heap.size ≤ o1) (lt_o1 : o1 < h0.size) (E_o1 : Exa Z h0 o1 "[B") (V_o1 : Arv Z h0 o1 kc_o1 .byte (11 : Int32) [] (.int (0 : Int32))) (hp0 : ¬ (p1 < (0 : Int32))) (hp1 : (9999 : Int32) < p1) (hp2 : ¬ (((-p1) / (10000 : Int32)) = (0 : Int32))) (hp3 : ¬ ((((-p1) / (10000 : Int32)) / (10 : Int32)) = (0 : Int32))) (hp4 : ¬ (((((-p1) / (10000 : Int32)) / (10 : Int32)) / (10 : Int32)) = (0 : Int32))) (hp5 : ¬ ((((((-p1) / (10000 : Int32)) / (10 : Int32)) / (10 : Int32)) / (10 : Int32)) = (0 : Int32))) (hp6 : ¬ (((((((-p1) / (10000 : Int32)) / (10 : Int32)) / (10 : Int32)) / (10 : Int32)) / (10 : Int32)) = (0 : Int32))) (hp7 : ¬ ((((((((-p1) / (10000 : Int32)) / (10 : Int32)) / (10 : Int32)) / (10 : Int32)) / (10 : Int32)) / (10 : Int32)) = (0 : Int32))) (hp8 : ((((((((-p1) / (10000 : Int32)) / (10 : Int32)) / (10 : Int32)) / (10 : Int32)) / (10 : Int32)) / (10 : Int32)) / (10 : Int32)) = (0 : Int32)) :
    Met l Z (⟨s_1, "writeYear", "([BI)I"⟩ : MethodName) (Jvm.Cond.code (⟨s_1, "writeYear", "([BI)I"⟩ : MethodName) prog_22_method_7_code 7 (some .int)) ws (Rm 0 0 0 0) #[(.ref o1), (.int p1)] h0 (Qd_30 Z w kk iw vw o1 p1 kc_o1 h0 Z.heap.size) := by
  have hN' := hN
  obtain ⟨hS0, hE0, hS1, hE1, hS2, hE2, hI0, hJ0, hR0, hRr0, hEq0⟩ := hN'
  refine own_body (plainFor_of_name pn_0) hisR ?_
  intro p e s m below meth c s₁ hx hby hml hown hnm hret X0 hZ e0
  have N0 := Fr.nil Z.heap.size
  have K0 : Keep h0 h0 [o1] := Keep.refl _ _
  have Vc1 := V_o1
  obtain ⟨cl1, Ar1, q1, Sz1, Ng1, Hv1, Gv1⟩ := Vc1
  have hin1 : ¬ ((0 : Int32) < 0 ∨ cl1.slots.size ≤ ((0 : Int32)).toNatClampNeg) := inb_of Sz1 ⟨(by decide : ¬ ((0 : Int32) < (0 : Int32))), (by decide : (0 : Int32) < (11 : Int32))⟩
  obtain ⟨T2, h2, X2, e2, W2, st2⟩ := stB X0 hx hZ e0 Ar1 (j := (0 : Int32)) hin1 (g := (mkF m 25 #[.val (.ref o1), .val (.int p1), .unset, .unset, .unset, .unset, .unset] [(.int (43 : Int32)), (.int (0 : Int32)), (.ref o1)])) rfl rfl (hb hby d1_25)
  obtain ⟨vl2, V_o1_v2⟩ := own_store V_o1 W2 (fits_nar_byte _) ⟨(by decide : ¬ ((0 : Int32) < (0 : Int32))), (by decide : (0 : Int32) < (11 : Int32))⟩
  have N2 := Fr.snoc X2 N0 gn_o1
  have E_o1_v2 := E_o1.wr W2
  have O2 := O0.wr W2 gn_o1
  have K2 : Keep h0 h2 [o1] := K0.wr W2 (Or.inl (List.mem_of_getElem? (i := 0) rfl))
  obtain ⟨T3, L3, X3, st3, N3, e3⟩ := sg_18 w kk iw vw hN o1 p1 (1 : Int32) (-p1) (5 : Int32) ((-p1) / (10000 : Int32)) vl2 kc_o1 X2 hx hZ hw hby hml hown e2 O2 N2 gn_o1 E_o1_v2.lt E_o1_v2 V_o1_v2 hp2
  obtain ⟨T4, L4, X4, st4, N4, e4⟩ := sg_18 w kk iw vw hN o1 p1 (1 : Int32) (-p1) (6 : Int32) (((-p1) / (10000 : Int32)) / (10 : Int32)) vl2 kc_o1 X3 hx hZ hw hby hml hown e3 O2 N3 gn_o1 E_o1_v2.lt E_o1_v2 V_o1_v2 hp3
  obtain ⟨T5, L5, X5, st5, N5, e5⟩ := sg_18 w kk iw vw hN o1 p1 (1 : Int32) (-p1) (7 : Int32) ((((-p1) / (10000 : Int32)) / (10 : Int32)) / (10 : Int32)) vl2 kc_o1 X4 hx hZ hw hby hml hown e4 O2 N4 gn_o1 E_o1_v2.lt E_o1_v2 V_o1_v2 hp4
  obtain ⟨T6, L6, X6, st6, N6, e6⟩ := sg_18 w kk iw vw hN o1 p1 (1 : Int32) (-p1) (8 : Int32) (((((-p1) / (10000 : Int32)) / (10 : Int32)) / (10 : Int32)) / (10 : Int32)) vl2 kc_o1 X5 hx hZ hw hby hml hown e5 O2 N5 gn_o1 E_o1_v2.lt E_o1_v2 V_o1_v2 hp5
  obtain ⟨T7, L7, X7, st7, N7, e7⟩ := sg_18 w kk iw vw hN o1 p1 (1 : Int32) (-p1) (9 : Int32) ((((((-p1) / (10000 : Int32)) / (10 : Int32)) / (10 : Int32)) / (10 : Int32)) / (10 : Int32)) vl2 kc_o1 X6 hx hZ hw hby hml hown e6 O2 N6 gn_o1 E_o1_v2.lt E_o1_v2 V_o1_v2 hp6
  obtain ⟨T8, L8, X8, st8, N8, e8⟩ := sg_18 w kk iw vw hN o1 p1 (1 : Int32) (-p1) (10 : Int32) (((((((-p1) / (10000 : Int32)) / (10 : Int32)) / (10 : Int32)) / (10 : Int32)) / (10 : Int32)) / (10 : Int32)) vl2 kc_o1 X7 hx hZ hw hby hml hown e7 O2 N7 gn_o1 E_o1_v2.lt E_o1_v2 V_o1_v2 hp7
  obtain ⟨T9, L9, vl9_0, z5_9, X9, st9, N9, Kq9, tk9_0, tk9_1⟩ := sg_1 w kk iw vw hN o1 p1 (1 : Int32) (-p1) (11 : Int32) (-p1) (10 : Int32) vl2 kc_o1 X8 hx hZ hw hby hml hown e8 O2 N8 gn_o1 E_o1_v2.lt E_o1_v2 V_o1_v2 (by decide : ¬ ((10 : Int32) < (1 : Int32))) (by decide : ¬ ((10 : Int32) < (0 : Int32))) (by decide : (10 : Int32) < (11 : Int32))
  have E_o1_v9 := E_o1_v2.keep Kq9
  have O9 := O2.keep Kq9 (allS gn_o1 all0)
  have K9 : Keep h0 T9.heap [o1] := K2.trans Kq9 (allS (Or.inl (List.mem_of_getElem? (i := 0) rfl)) all0)
  obtain ⟨T10, L10, vl10_0, z5_10, X10, st10, N10, Kq10, tk10_0, tk10_1⟩ := sg_1 w kk iw vw hN o1 p1 (1 : Int32) (-p1) (11 : Int32) z5_9 (9 : Int32) vl9_0 kc_o1 X9 hx hZ hw hby hml hown rfl O9 N9 gn_o1 tk9_0.lt tk9_0 tk9_1 (by decide : ¬ ((9 : Int32) < (1 : Int32))) (by decide : ¬ ((9 : Int32) < (0 : Int32))) (by decide : (9 : Int32) < (11 : Int32))
  have tk9_0_v10 := tk9_0.keep Kq10
  have O10 := O9.keep Kq10 (allS gn_o1 all0)
  have K10 : Keep h0 T10.heap [o1] := K9.trans Kq10 (allS (Or.inl (List.mem_of_getElem? (i := 0) rfl)) all0)
  obtain ⟨T11, L11, vl11_0, z5_11, X11, st11, N11, Kq11, tk11_0, tk11_1⟩ := sg_1 w kk iw vw hN o1 p1 (1 : Int32) (-p1) (11 : Int32) z5_10 (8 : Int32) vl10_0 kc_o1 X10 hx hZ hw hby hml hown rfl O10 N10 gn_o1 tk10_0.lt tk10_0 tk10_1 (by decide : ¬ ((8 : Int32) < (1 : Int32))) (by decide : ¬ ((8 : Int32) < (0 : Int32))) (by decide : (8 : Int32) < (11 : Int32))
  have tk10_0_v11 := tk10_0.keep Kq11
  have O11 := O10.keep Kq11 (allS gn_o1 all0)
  have K11 : Keep h0 T11.heap [o1] := K10.trans Kq11 (allS (Or.inl (List.mem_of_getElem? (i := 0) rfl)) all0)
  obtain ⟨T12, L12, vl12_0, z5_12, X12, st12, N12, Kq12, tk12_0, tk12_1⟩ := sg_1 w kk iw vw hN o1 p1 (1 : Int32) (-p1) (11 : Int32) z5_11 (7 : Int32) vl11_0 kc_o1 X11 hx hZ hw hby hml hown rfl O11 N11 gn_o1 tk11_0.lt tk11_0 tk11_1 (by decide : ¬ ((7 : Int32) < (1 : Int32))) (by decide : ¬ ((7 : Int32) < (0 : Int32))) (by decide : (7 : Int32) < (11 : Int32))
  have tk11_0_v12 := tk11_0.keep Kq12
  have O12 := O11.keep Kq12 (allS gn_o1 all0)
  have K12 : Keep h0 T12.heap [o1] := K11.trans Kq12 (allS (Or.inl (List.mem_of_getElem? (i := 0) rfl)) all0)
  obtain ⟨T13, L13, vl13_0, z5_13, X13, st13, N13, Kq13, tk13_0, tk13_1⟩ := sg_1 w kk iw vw hN o1 p1 (1 : Int32) (-p1) (11 : Int32) z5_12 (6 : Int32) vl12_0 kc_o1 X12 hx hZ hw hby hml hown rfl O12 N12 gn_o1 tk12_0.lt tk12_0 tk12_1 (by decide : ¬ ((6 : Int32) < (1 : Int32))) (by decide : ¬ ((6 : Int32) < (0 : Int32))) (by decide : (6 : Int32) < (11 : Int32))
  have tk12_0_v13 := tk12_0.keep Kq13
  have O13 := O12.keep Kq13 (allS gn_o1 all0)
  have K13 : Keep h0 T13.heap [o1] := K12.trans Kq13 (allS (Or.inl (List.mem_of_getElem? (i := 0) rfl)) all0)
  obtain ⟨T14, L14, vl14_0, z5_14, X14, st14, N14, Kq14, tk14_0, tk14_1⟩ := sg_1 w kk iw vw hN o1 p1 (1 : Int32) (-p1) (11 : Int32) z5_13 (5 : Int32) vl13_0 kc_o1 X13 hx hZ hw hby hml hown rfl O13 N13 gn_o1 tk13_0.lt tk13_0 tk13_1 (by decide : ¬ ((5 : Int32) < (1 : Int32))) (by decide : ¬ ((5 : Int32) < (0 : Int32))) (by decide : (5 : Int32) < (11 : Int32))
  have tk13_0_v14 := tk13_0.keep Kq14
  have O14 := O13.keep Kq14 (allS gn_o1 all0)
  have K14 : Keep h0 T14.heap [o1] := K13.trans Kq14 (allS (Or.inl (List.mem_of_getElem? (i := 0) rfl)) all0)
  obtain ⟨T15, L15, vl15_0, z5_15, X15, st15, N15, Kq15, tk15_0, tk15_1⟩ := sg_1 w kk iw vw hN o1 p1 (1 : Int32) (-p1) (11 : Int32) z5_14 (4 : Int32) vl14_0 kc_o1 X14 hx hZ hw hby hml hown rfl O14 N14 gn_o1 tk14_0.lt tk14_0 tk14_1 (by decide : ¬ ((4 : Int32) < (1 : Int32))) (by decide : ¬ ((4 : Int32) < (0 : Int32))) (by decide : (4 : Int32) < (11 : Int32))
  have tk14_0_v15 := tk14_0.keep Kq15
  have O15 := O14.keep Kq15 (allS gn_o1 all0)
  have K15 : Keep h0 T15.heap [o1] := K14.trans Kq15 (allS (Or.inl (List.mem_of_getElem? (i := 0) rfl)) all0)
  obtain ⟨T16, L16, vl16_0, z5_16, X16, st16, N16, Kq16, tk16_0, tk16_1⟩ := sg_1 w kk iw vw hN o1 p1 (1 : Int32) (-p1) (11 : Int32) z5_15 (3 : Int32) vl15_0 kc_o1 X15 hx hZ hw hby hml hown rfl O15 N15 gn_o1 tk15_0.lt tk15_0 tk15_1 (by decide : ¬ ((3 : Int32) < (1 : Int32))) (by decide : ¬ ((3 : Int32) < (0 : Int32))) (by decide : (3 : Int32) < (11 : Int32))
  have tk15_0_v16 := tk15_0.keep Kq16
  have O16 := O15.keep Kq16 (allS gn_o1 all0)
  have K16 : Keep h0 T16.heap [o1] := K15.trans Kq16 (allS (Or.inl (List.mem_of_getElem? (i := 0) rfl)) all0)
  obtain ⟨T17, L17, vl17_0, z5_17, X17, st17, N17, Kq17, tk17_0, tk17_1⟩ := sg_1 w kk iw vw hN o1 p1 (1 : Int32) (-p1) (11 : Int32) z5_16 (2 : Int32) vl16_0 kc_o1 X16 hx hZ hw hby hml hown rfl O16 N16 gn_o1 tk16_0.lt tk16_0 tk16_1 (by decide : ¬ ((2 : Int32) < (1 : Int32))) (by decide : ¬ ((2 : Int32) < (0 : Int32))) (by decide : (2 : Int32) < (11 : Int32))
  have tk16_0_v17 := tk16_0.keep Kq17
  have O17 := O16.keep Kq17 (allS gn_o1 all0)
  have K17 : Keep h0 T17.heap [o1] := K16.trans Kq17 (allS (Or.inl (List.mem_of_getElem? (i := 0) rfl)) all0)
  obtain ⟨T18, L18, vl18_0, z5_18, X18, st18, N18, Kq18, tk18_0, tk18_1⟩ := sg_1 w kk iw vw hN o1 p1 (1 : Int32) (-p1) (11 : Int32) z5_17 (1 : Int32) vl17_0 kc_o1 X17 hx hZ hw hby hml hown rfl O17 N17 gn_o1 tk17_0.lt tk17_0 tk17_1 (by decide : ¬ ((1 : Int32) < (1 : Int32))) (by decide : ¬ ((1 : Int32) < (0 : Int32))) (by decide : (1 : Int32) < (11 : Int32))
  have tk17_0_v18 := tk17_0.keep Kq18
  have O18 := O17.keep Kq18 (allS gn_o1 all0)
  have K18 : Keep h0 T18.heap [o1] := K17.trans Kq18 (allS (Or.inl (List.mem_of_getElem? (i := 0) rfl)) all0)
  refine ⟨T18, some (.int (11 : Int32)), _, _, _, by decide, by decide, X18, nofun, ⟨vl18_0, rfl, N18, K18, tk18_0, tk18_1⟩, fun fs hr => castTop (ef_0 m (.ref o1) rfl (.int p1) rfl) ?_⟩
  show Steps p.tables e below (s₁.setTop (mkF m 0 #[.val (.ref o1), .val (.int p1), .unset, .unset, .unset, .unset, .unset] [])) _
  refine XS.iloadN X0.here hx rfl (hb hby d1_0) rfl ?_
  refine XS.ifYes X0.here hx rfl (pc0 := 1) (pc' := 14) rfl (hb hby d1_1) rfl ((if0 _ _).trans (flt hp0).2.1) (by decide) (by decide) ?_
  refine XS.iloadN X0.here hx rfl (hb hby d1_14) rfl ?_
  refine XS.sipush X0.here hx rfl (hb hby d1_15) ?_
  refine XS.icmpNo X0.here hx rfl (hb hby d1_18) rfl (tlt hp1).2.2.2 ?_
  refine XS.aloadN X0.here hx rfl (hb hby d1_21) rfl rfl ?_
  refine XS.iconst X0.here hx rfl (hb hby d1_22) ?_
  refine XS.bipush X0.here hx rfl (hb hby d1_23) ?_
  refine st2 _ ?_
  refine XS.iconst X2.here hx rfl (hb hby d1_26) ?_
  show Steps p.tables e below (T2.setTop (mkF m 27 #[.val (.ref o1), .val (.int p1), .unset, .unset, .unset, .unset, .unset] [(.int (1 : Int32))])) _
  refine XS.istoreN X2.here hx rfl (hb hby d1_27) rfl (l' := #[.val (.ref o1), .val (.int p1), .val (.int (1 : Int32)), .unset, .unset, .unset, .unset]) rfl ?_
  refine XS.goto X2.here hx rfl (pc0 := 28) (pc' := 33) rfl (hb hby d1_28) (by decide) (by decide) ?_
  refine XS.iloadN X2.here hx rfl (hb hby d1_33) rfl ?_
  refine XS.ifYes X2.here hx rfl (pc0 := 34) (pc' := 41) rfl (hb hby d1_34) rfl ((if0 _ _).trans (flt hp0).2.1) (by decide) (by decide) ?_
  refine XS.iloadN X2.here hx rfl (hb hby d1_41) rfl ?_
  refine XS.ineg X2.here hx rfl (hb hby d1_42) rfl ?_
  refine XS.istoreN X2.here hx rfl (hb hby d1_43) rfl (l' := #[.val (.ref o1), .val (.int p1), .val (.int (1 : Int32)), .val (.int (-p1)), .unset, .unset, .unset]) rfl ?_
  refine XS.iloadN X2.here hx rfl (hb hby d1_44) rfl ?_
  refine XS.iconst X2.here hx rfl (hb hby d1_45) ?_
  refine XS.iadd X2.here hx rfl (hb hby d1_46) rfl ?_
  show Steps p.tables e below (T2.setTop (mkF m 47 #[.val (.ref o1), .val (.int p1), .val (.int (1 : Int32)), .val (.int (-p1)), .unset, .unset, .unset] [(.int ((1 : Int32) + (4 : Int32)))])) _
  rw [lf_0]
  show Steps p.tables e below (T2.setTop (mkF m 47 #[.val (.ref o1), .val (.int p1), .val (.int (1 : Int32)), .val (.int (-p1)), .unset, .unset, .unset] [(.int (5 : Int32))])) _
  refine XS.istore X2.here hx rfl (hb hby d1_47) rfl (l' := #[.val (.ref o1), .val (.int p1), .val (.int (1 : Int32)), .val (.int (-p1)), .val (.int (5 : Int32)), .unset, .unset]) rfl ?_
  refine XS.iloadN X2.here hx rfl (hb hby d1_49) rfl ?_
  refine XS.sipush X2.here hx rfl (hb hby d1_50) ?_
  refine XS.idiv X2.here hx rfl (hb hby d1_53) rfl (by decide : ¬ ((10000 : Int32) = (0 : Int32))) ?_
  refine XS.istore X2.here hx rfl (hb hby d1_54) rfl (l' := #[.val (.ref o1), .val (.int p1), .val (.int (1 : Int32)), .val (.int (-p1)), .val (.int (5 : Int32)), .val (.int ((-p1) / (10000 : Int32))), .unset]) rfl ?_
  show Steps p.tables e below (T2.setTop (mkF m 56 #[.val (.ref o1), .val (.int p1), .val (.int (1 : Int32)), .val (.int (-p1)), .val (.int (5 : Int32)), .val (.int ((-p1) / (10000 : Int32))), .unset] [])) _
  refine st3 _ ?_
  show Steps p.tables e below (T3.setTop (mkF m 56 #[.val (.ref o1), .val (.int p1), .val (.int (1 : Int32)), .val (.int (-p1)), .val (.int ((5 : Int32) + (1 : Int32))), .val (.int (((-p1) / (10000 : Int32)) / (10 : Int32))), .unset] [])) _
  rw [lf_12]
  show Steps p.tables e below (T3.setTop (mkF m 56 #[.val (.ref o1), .val (.int p1), .val (.int (1 : Int32)), .val (.int (-p1)), .val (.int (6 : Int32)), .val (.int (((-p1) / (10000 : Int32)) / (10 : Int32))), .unset] [])) _
  refine st4 _ ?_
  show Steps p.tables e below (T4.setTop (mkF m 56 #[.val (.ref o1), .val (.int p1), .val (.int (1 : Int32)), .val (.int (-p1)), .val (.int ((6 : Int32) + (1 : Int32))), .val (.int ((((-p1) / (10000 : Int32)) / (10 : Int32)) / (10 : Int32))), .unset] [])) _
  rw [lf_19]
  show Steps p.tables e below (T4.setTop (mkF m 56 #[.val (.ref o1), .val (.int p1), .val (.int (1 : Int32)), .val (.int (-p1)), .val (.int (7 : Int32)), .val (.int ((((-p1) / (10000 : Int32)) / (10 : Int32)) / (10 : Int32))), .unset] [])) _
  refine st5 _ ?_
  show Steps p.tables e below (T5.setTop (mkF m 56 #[.val (.ref o1), .val (.int p1), .val (.int (1 : Int32)), .val (.int (-p1)), .val (.int ((7 : Int32) + (1 : Int32))), .val (.int (((((-p1) / (10000 : Int32)) / (10 : Int32)) / (10 : Int32)) / (10 : Int32))), .unset] [])) _
  rw [lf_26]
  show Steps p.tables e below (T5.setTop (mkF m 56 #[.val (.ref o1), .val (.int p1), .val (.int (1 : Int32)), .val (.int (-p1)), .val (.int (8 : Int32)), .val (.int (((((-p1) / (10000 : Int32)) / (10 : Int32)) / (10 : Int32)) / (10 : Int32))), .unset] [])) _
  refine st6 _ ?_
  show Steps p.tables e below (T6.setTop (mkF m 56 #[.val (.ref o1), .val (.int p1), .val (.int (1 : Int32)), .val (.int (-p1)), .val (.int ((8 : Int32) + (1 : Int32))), .val (.int ((((((-p1) / (10000 : Int32)) / (10 : Int32)) / (10 : Int32)) / (10 : Int32)) / (10 : Int32))), .unset] [])) _
  rw [lf_33]
  show Steps p.tables e below (T6.setTop (mkF m 56 #[.val (.ref o1), .val (.int p1), .val (.int (1 : Int32)), .val (.int (-p1)), .val (.int (9 : Int32)), .val (.int ((((((-p1) / (10000 : Int32)) / (10 : Int32)) / (10 : Int32)) / (10 : Int32)) / (10 : Int32))), .unset] [])) _
  refine st7 _ ?_
  show Steps p.tables e below (T7.setTop (mkF m 56 #[.val (.ref o1), .val (.int p1), .val (.int (1 : Int32)), .val (.int (-p1)), .val (.int ((9 : Int32) + (1 : Int32))), .val (.int (((((((-p1) / (10000 : Int32)) / (10 : Int32)) / (10 : Int32)) / (10 : Int32)) / (10 : Int32)) / (10 : Int32))), .unset] [])) _
  rw [lf_40]
  show Steps p.tables e below (T7.setTop (mkF m 56 #[.val (.ref o1), .val (.int p1), .val (.int (1 : Int32)), .val (.int (-p1)), .val (.int (10 : Int32)), .val (.int (((((((-p1) / (10000 : Int32)) / (10 : Int32)) / (10 : Int32)) / (10 : Int32)) / (10 : Int32)) / (10 : Int32))), .unset] [])) _
  refine st8 _ ?_
  show Steps p.tables e below (T8.setTop (mkF m 56 #[.val (.ref o1), .val (.int p1), .val (.int (1 : Int32)), .val (.int (-p1)), .val (.int ((10 : Int32) + (1 : Int32))), .val (.int ((((((((-p1) / (10000 : Int32)) / (10 : Int32)) / (10 : Int32)) / (10 : Int32)) / (10 : Int32)) / (10 : Int32)) / (10 : Int32))), .unset] [])) _
  rw [lf_47]
  refine XS.iload X8.here hx rfl (hb hby d1_56) rfl ?_
  refine XS.ifYes X8.here hx rfl (pc0 := 58) (pc' := 74) rfl (hb hby d1_58) rfl ((if0 _ _).trans (teq hp8).1) (by decide) (by decide) ?_
  refine XS.iloadN X8.here hx rfl (hb hby d1_74) rfl ?_
  refine XS.istore X8.here hx rfl (hb hby d1_75) rfl (l' := #[.val (.ref o1), .val (.int p1), .val (.int (1 : Int32)), .val (.int (-p1)), .val (.int (11 : Int32)), .val (.int (-p1)), .unset]) rfl ?_
  refine XS.iload X8.here hx rfl (hb hby d1_77) rfl ?_
  refine XS.iconst X8.here hx rfl (hb hby d1_79) ?_
  refine XS.isub X8.here hx rfl (hb hby d1_80) rfl ?_
  show Steps p.tables e below (T8.setTop (mkF m 81 #[.val (.ref o1), .val (.int p1), .val (.int (1 : Int32)), .val (.int (-p1)), .val (.int (11 : Int32)), .val (.int (-p1)), .unset] [(.int ((11 : Int32) - (1 : Int32)))])) _
  rw [lf_48]
  refine XS.istore X8.here hx rfl (hb hby d1_81) rfl (l' := #[.val (.ref o1), .val (.int p1), .val (.int (1 : Int32)), .val (.int (-p1)), .val (.int (11 : Int32)), .val (.int (-p1)), .val (.int (10 : Int32))]) rfl ?_
  show Steps p.tables e below (T8.setTop (mkF m 83 #[.val (.ref o1), .val (.int p1), .val (.int (1 : Int32)), .val (.int (-p1)), .val (.int (11 : Int32)), .val (.int (-p1)), .val (.int (10 : Int32))] [])) _
  refine st9 _ ?_
  show Steps p.tables e below (T9.setTop (mkF m 83 #[.val (.ref o1), .val (.int p1), .val (.int (1 : Int32)), .val (.int (-p1)), .val (.int (11 : Int32)), .val (.int z5_9), .val (.int ((10 : Int32) + (-1 : Int32)))] [])) _
  rw [lf_49]
  show Steps p.tables e below (T9.setTop (mkF m 83 #[.val (.ref o1), .val (.int p1), .val (.int (1 : Int32)), .val (.int (-p1)), .val (.int (11 : Int32)), .val (.int z5_9), .val (.int (9 : Int32))] [])) _
  refine st10 _ ?_
  show Steps p.tables e below (T10.setTop (mkF m 83 #[.val (.ref o1), .val (.int p1), .val (.int (1 : Int32)), .val (.int (-p1)), .val (.int (11 : Int32)), .val (.int z5_10), .val (.int ((9 : Int32) + (-1 : Int32)))] [])) _
  rw [lf_42]
  show Steps p.tables e below (T10.setTop (mkF m 83 #[.val (.ref o1), .val (.int p1), .val (.int (1 : Int32)), .val (.int (-p1)), .val (.int (11 : Int32)), .val (.int z5_10), .val (.int (8 : Int32))] [])) _
  refine st11 _ ?_
  show Steps p.tables e below (T11.setTop (mkF m 83 #[.val (.ref o1), .val (.int p1), .val (.int (1 : Int32)), .val (.int (-p1)), .val (.int (11 : Int32)), .val (.int z5_11), .val (.int ((8 : Int32) + (-1 : Int32)))] [])) _
  rw [lf_35]
  show Steps p.tables e below (T11.setTop (mkF m 83 #[.val (.ref o1), .val (.int p1), .val (.int (1 : Int32)), .val (.int (-p1)), .val (.int (11 : Int32)), .val (.int z5_11), .val (.int (7 : Int32))] [])) _
  refine st12 _ ?_
  show Steps p.tables e below (T12.setTop (mkF m 83 #[.val (.ref o1), .val (.int p1), .val (.int (1 : Int32)), .val (.int (-p1)), .val (.int (11 : Int32)), .val (.int z5_12), .val (.int ((7 : Int32) + (-1 : Int32)))] [])) _
  rw [lf_28]
  show Steps p.tables e below (T12.setTop (mkF m 83 #[.val (.ref o1), .val (.int p1), .val (.int (1 : Int32)), .val (.int (-p1)), .val (.int (11 : Int32)), .val (.int z5_12), .val (.int (6 : Int32))] [])) _
  refine st13 _ ?_
  show Steps p.tables e below (T13.setTop (mkF m 83 #[.val (.ref o1), .val (.int p1), .val (.int (1 : Int32)), .val (.int (-p1)), .val (.int (11 : Int32)), .val (.int z5_13), .val (.int ((6 : Int32) + (-1 : Int32)))] [])) _
  rw [lf_21]
  show Steps p.tables e below (T13.setTop (mkF m 83 #[.val (.ref o1), .val (.int p1), .val (.int (1 : Int32)), .val (.int (-p1)), .val (.int (11 : Int32)), .val (.int z5_13), .val (.int (5 : Int32))] [])) _
  refine st14 _ ?_
  show Steps p.tables e below (T14.setTop (mkF m 83 #[.val (.ref o1), .val (.int p1), .val (.int (1 : Int32)), .val (.int (-p1)), .val (.int (11 : Int32)), .val (.int z5_14), .val (.int ((5 : Int32) + (-1 : Int32)))] [])) _
  rw [lf_14]
  show Steps p.tables e below (T14.setTop (mkF m 83 #[.val (.ref o1), .val (.int p1), .val (.int (1 : Int32)), .val (.int (-p1)), .val (.int (11 : Int32)), .val (.int z5_14), .val (.int (4 : Int32))] [])) _
  refine st15 _ ?_
  show Steps p.tables e below (T15.setTop (mkF m 83 #[.val (.ref o1), .val (.int p1), .val (.int (1 : Int32)), .val (.int (-p1)), .val (.int (11 : Int32)), .val (.int z5_15), .val (.int ((4 : Int32) + (-1 : Int32)))] [])) _
  rw [lf_2]
  show Steps p.tables e below (T15.setTop (mkF m 83 #[.val (.ref o1), .val (.int p1), .val (.int (1 : Int32)), .val (.int (-p1)), .val (.int (11 : Int32)), .val (.int z5_15), .val (.int (3 : Int32))] [])) _
  refine st16 _ ?_
  show Steps p.tables e below (T16.setTop (mkF m 83 #[.val (.ref o1), .val (.int p1), .val (.int (1 : Int32)), .val (.int (-p1)), .val (.int (11 : Int32)), .val (.int z5_16), .val (.int ((3 : Int32) + (-1 : Int32)))] [])) _
  rw [lf_3]
  show Steps p.tables e below (T16.setTop (mkF m 83 #[.val (.ref o1), .val (.int p1), .val (.int (1 : Int32)), .val (.int (-p1)), .val (.int (11 : Int32)), .val (.int z5_16), .val (.int (2 : Int32))] [])) _
  refine st17 _ ?_
  show Steps p.tables e below (T17.setTop (mkF m 83 #[.val (.ref o1), .val (.int p1), .val (.int (1 : Int32)), .val (.int (-p1)), .val (.int (11 : Int32)), .val (.int z5_17), .val (.int ((2 : Int32) + (-1 : Int32)))] [])) _
  rw [lf_4]
  show Steps p.tables e below (T17.setTop (mkF m 83 #[.val (.ref o1), .val (.int p1), .val (.int (1 : Int32)), .val (.int (-p1)), .val (.int (11 : Int32)), .val (.int z5_17), .val (.int (1 : Int32))] [])) _
  refine st18 _ ?_
  show Steps p.tables e below (T18.setTop (mkF m 83 #[.val (.ref o1), .val (.int p1), .val (.int (1 : Int32)), .val (.int (-p1)), .val (.int (11 : Int32)), .val (.int z5_18), .val (.int ((1 : Int32) + (-1 : Int32)))] [])) _
  rw [lf_5]
  refine XS.iload X18.here hx rfl (hb hby d1_83) rfl ?_
  refine XS.iloadN X18.here hx rfl (hb hby d1_85) rfl ?_
  refine XS.icmpYes X18.here hx rfl (pc0 := 86) (pc' := 115) rfl (hb hby d1_86) rfl (tlt (by decide : (0 : Int32) < (1 : Int32))).1 (by decide) (by decide) ?_
  refine XS.iload X18.here hx rfl (hb hby d1_115) rfl ?_
  show Steps p.tables e below (T18.setTop (mkF m 117 #[.val (.ref o1), .val (.int p1), .val (.int (1 : Int32)), .val (.int (-p1)), .val (.int (11 : Int32)), .val (.int z5_18), .val (.int (0 : Int32))] [(.int (11 : Int32))])) _
  exact retI X18 hx hret (hb hby d1_117) hr
set_option maxRecDepth 65536 in
set_option maxHeartbeats 40000000 in
theorem rm_117 (l : Launch) (Z : State) (a0 : Array Value) (hw : ∀ d ∈ tables_1, d.before a0 Z = true) (w : Nat → Addr) (kk : Nat → ClassId) (iw : Nat → Int32) (vw : Nat → Value) (hN : Wd Z w kk iw vw) (ws : List Jvm.Cond) (p0 : Int32) (h0 : Heap) (O0 : Old Z Z.heap.size h0) (hp0 : ¬ (p0 < (0 : Int32))) (hp1 : (9999 : Int32) < p0) (hp2 : ¬ (((-p0) / (10000 : Int32)) = (0 : Int32))) (hp3 : ¬ ((((-p0) / (10000 : Int32)) / (10 : Int32)) = (0 : Int32))) (hp4 : ¬ (((((-p0) / (10000 : Int32)) / (10 : Int32)) / (10 : Int32)) = (0 : Int32))) (hp5 : ¬ ((((((-p0) / (10000 : Int32)) / (10 : Int32)) / (10 : Int32)) / (10 : Int32)) = (0 : Int32))) (hp6 : ¬ (((((((-p0) / (10000 : Int32)) / (10 : Int32)) / (10 : Int32)) / (10 : Int32)) / (10 : Int32)) = (0 : Int32))) (hp7 : ¬ ((((((((-p0) / (10000 : Int32)) / (10 : Int32)) / (10 : Int32)) / (10 : Int32)) / (10 : Int32)) / (10 : Int32)) = (0 : Int32))) (hp8 : ((((((((-p0) / (10000 : Int32)) / (10 : Int32)) / (10 : Int32)) / (10 : Int32)) / (10 : Int32)) / (10 : Int32)) / (10 : Int32)) = (0 : Int32)) :
    Met l Z (⟨s_1, "yearText", s_4⟩ : MethodName) (Jvm.Cond.code (⟨s_1, "yearText", s_4⟩ : MethodName) prog_22_method_4_code 2 (some (.object s_0))) ws (Rm 5 3 26 81) #[(.int p0)] h0 (Qd_34 Z w kk iw vw p0 h0 Z.heap.size) := by
  have hN' := hN
  obtain ⟨hS0, hE0, hS1, hE1, hS2, hE2, hI0, hJ0, hR0, hRr0, hEq0⟩ := hN'
  refine own_body (plainFor_of_name pn_0) hisR ?_
  intro p e s m below meth c s₁ hx hby hml hown hnm hret X0 hZ e0
  have N0 := Fr.nil Z.heap.size
  have K0 : Keep h0 h0 [] := Keep.refl _ _
  obtain ⟨T1, h1, k1, X1, e1, E1, A1, AE1, st1⟩ := newPE X0 hx hZ (W hw 4 rfl) e0 (g := (mkF m 2 #[.val (.int p0), .unset] [(.int (11 : Int32))])) rfl (hb hby d0_2) rfl (by decide) (cap := 11) (by decide) (by decide) (by decide) (by decide) (ad := "[B") rfl
  obtain ⟨b1, g1⟩ : ∃ z, z = h0.size := ⟨_, rfl⟩
  rw [← g1] at A1 st1 AE1
  have gn_b1 : Z.heap.size ≤ b1 := Nat.le_trans O0.2.1 (Nat.le_of_eq g1.symm)
  have sz_b1 : h0.size ≤ b1 := Nat.le_trans K0.1 (Nat.le_of_eq g1.symm)
  have O1 := O0.ext E1
  have K1 := K0.ext E1
  have E_b1_v1 := AE1
  have V_b1_v1 : Arv Z h1 b1 k1 .byte (11 : Int32) [] (.int (0 : Int32)) := Arv.new A1 (by decide)
  obtain ⟨_, _, ⟨T2, L2, k2, n2⟩, -, X2, ⟨Lc2, hQ2, l2, y2, z2⟩, st2⟩ := Jvm.LawKit.callS X1 hx (y := (⟨s_1, "writeYear", "([BI)I"⟩ : MethodName)) hown (mvT hZ (W hw 5 rfl)) (mvT hZ (W hw 6 rfl)) (mvT hZ (W hw 2 rfl)) (mvT hZ (W hw 7 rfl)) (by decide) (backOf (W := 1) (rm_116 l Z a0 hw w kk iw vw hN [] b1 p0 k1 h1 O1 gn_b1 E_b1_v1.lt E_b1_v1 V_b1_v1 hp0 hp1 hp2 hp3 hp4 hp5 hp6 hp7 hp8) hZ (W hw 7 rfl) (W hw 2 rfl) (by decide) (by decide)) (g := (mkF m 8 #[.val (.int p0), .val (.ref b1)] [(.int p0), (.ref b1), (.ref b1)])) rfl (by rw [hml]; rfl) (argsL := [(.ref b1), (.int p0)]) (rest := [(.ref b1)]) (lenOf pd_0 rfl) rfl (by show 2 * 0 + _ ≤ _; exact Nat.le_of_eq rfl) (hb hby d0_8) (fun _ _ => ⟨rfl, e1, (by decide : 1 + 0 ≤ _), (by decide : 11 + 0 ≤ _)⟩)
  dsimp only [Pt.U, Pt.locs, Pt.cells, Pt.slots] at X2 l2 y2 z2 st2 hQ2
  subst l2 y2 z2
  obtain ⟨vl2_0, rfl, N2q, Kq2, tk2_0, tk2_1⟩ := hQ2
  have N2 := Fr.app N0 N2q
  have E_b1_v2 := E_b1_v1.keep Kq2
  have O2 := O1.keep Kq2 (allS gn_b1 all0)
  have K2 : Keep h0 T2.heap [] := K1.trans Kq2 (allS (Or.inr sz_b1) all0)
  obtain ⟨_, _, ⟨T3, L3, k3, n3⟩, -, X3, ⟨Lc3, hQ3, l3, y3, z3⟩, st3⟩ := Jvm.LawKit.callS X2 hx (y := (⟨s_1, "string", s_9⟩ : MethodName)) hown (mvT hZ (W hw 8 rfl)) (mvT hZ (W hw 9 rfl)) (mvT hZ (W hw 2 rfl)) (mvT hZ (W hw 10 rfl)) (by decide) (backOf (W := 0) (rm_95 l Z a0 hw w kk iw vw hN [] b1 vl2_0 k1 T2.heap O2 gn_b1 tk2_0.lt tk2_0 tk2_1) hZ (W hw 10 rfl) (W hw 2 rfl) (by decide) (by decide)) (g := (mkF m 11 #[.val (.int p0), .val (.ref b1)] [(.int (11 : Int32)), (.ref b1)])) rfl (by rw [hml]; rfl) (argsL := [(.ref b1), (.int (11 : Int32))]) (rest := []) (lenOf pd_9 rfl) rfl (by show 2 * 0 + _ ≤ _; exact Nat.le_of_eq rfl) (hb hby d0_11) (fun _ _ => ⟨rfl, rfl, (by decide : 1 + 2 ≤ _), (by decide : 11 + 15 ≤ _)⟩)
  dsimp only [Pt.U, Pt.locs, Pt.cells, Pt.slots] at X3 l3 y3 z3 st3 hQ3
  subst l3 y3 z3
  obtain ⟨b3_0, b3_1, kb3_0, vl3_0, rfl, N3q, Kq3, tk3_0, tk3_1, tk3_2, tk3_3, tk3_4, tk3_5, tk3_6, tk3_7⟩ := hQ3
  have N3 := Fr.app N2 N3q
  have gn_b3_0 : Z.heap.size ≤ b3_0 := Nat.le_trans O2.2.1 tk3_0
  have sz_b3_0 : h0.size ≤ b3_0 := Nat.le_trans K2.1 tk3_0
  have ne_b1_b3_0 : b1 ≠ b3_0 := Nat.ne_of_lt (Nat.lt_of_lt_of_le tk2_0.lt tk3_0)
  have gn_b3_1 : Z.heap.size ≤ b3_1 := Nat.le_trans O2.2.1 tk3_1
  have sz_b3_1 : h0.size ≤ b3_1 := Nat.le_trans K2.1 tk3_1
  have ne_b1_b3_1 : b1 ≠ b3_1 := Nat.ne_of_lt (Nat.lt_of_lt_of_le tk2_0.lt tk3_1)
  have tk2_0_v3 := tk2_0.keep Kq3
  have tk2_1_v3 := tk2_1.keep Kq3 nin0
  have O3 := O2.keep Kq3 all0
  have K3 : Keep h0 T3.heap [] := K2.trans Kq3 all0
  refine ⟨T3, some (.ref b3_0), _, _, _, by decide, by decide, X3, nofun, ⟨b3_0, b3_1, kb3_0, vl3_0, rfl, N3, K3, sz_b3_0, sz_b3_1, tk3_2, tk3_3, tk3_4, tk3_5, tk3_6, tk3_7⟩, fun fs hr => castTop (ef_10 m (.int p0) rfl) ?_⟩
  show Steps p.tables e below (s₁.setTop (mkF m 0 #[.val (.int p0), .unset] [])) _
  refine XS.bipush X0.here hx rfl (hb hby d0_0) ?_
  refine st1 _ ?_
  refine XS.astoreN X1.here hx rfl (hb hby d0_4) rfl rfl (l' := #[.val (.int p0), .val (.ref b1)]) rfl ?_
  refine XS.aloadN X1.here hx rfl (hb hby d0_5) rfl rfl ?_
  refine XS.aloadN X1.here hx rfl (hb hby d0_6) rfl rfl ?_
  refine XS.iloadN X1.here hx rfl (hb hby d0_7) rfl ?_
  refine st2 _ ?_
  refine st3 _ ?_
  show Steps p.tables e below (T3.setTop (mkF m 14 #[.val (.int p0), .val (.ref b1)] [(.ref b3_0)])) _
  exact retOut X3 hx hret rfl (Or.inr (Or.inr (Or.inr (Or.inr ⟨rfl, rfl, rfl⟩)))) (hb hby d0_14) hr
set_option maxRecDepth 65536 in
set_option maxHeartbeats 40000000 in
theorem law_118 (l : Launch) (Z : State) (a0 : Array Value) (hw : ∀ d ∈ tables_1, d.before a0 Z = true) (w : Nat → Addr) (kk : Nat → ClassId) (iw : Nat → Int32) (vw : Nat → Value) (hN : Wd Z w kk iw vw) (ws : List Jvm.Cond) (p0 : Int32) (h0 : Heap) (O0 : Old Z Z.heap.size h0) (hp0 : ¬ (p0 < (0 : Int32))) (hp1 : (9999 : Int32) < p0) (hp2 : ¬ (((-p0) / (10000 : Int32)) = (0 : Int32))) (hp3 : ¬ ((((-p0) / (10000 : Int32)) / (10 : Int32)) = (0 : Int32))) (hp4 : ¬ (((((-p0) / (10000 : Int32)) / (10 : Int32)) / (10 : Int32)) = (0 : Int32))) (hp5 : ¬ ((((((-p0) / (10000 : Int32)) / (10 : Int32)) / (10 : Int32)) / (10 : Int32)) = (0 : Int32))) (hp6 : ¬ (((((((-p0) / (10000 : Int32)) / (10 : Int32)) / (10 : Int32)) / (10 : Int32)) / (10 : Int32)) = (0 : Int32))) (hp7 : ¬ ((((((((-p0) / (10000 : Int32)) / (10 : Int32)) / (10 : Int32)) / (10 : Int32)) / (10 : Int32)) / (10 : Int32)) = (0 : Int32))) (hp8 : ((((((((-p0) / (10000 : Int32)) / (10 : Int32)) / (10 : Int32)) / (10 : Int32)) / (10 : Int32)) / (10 : Int32)) / (10 : Int32)) = (0 : Int32)) (hp9 : ¬ (p0 < (1000 : Int32))) :
    MetFree l x (head1 (Jvm.Cond.code x code maxLocals ret :: ws) room_1) (fun a U => a = #[(.int p0)] ∧ Z.Warmed39 U.vm ∧ U.heap = h0) (fun _ _ _ _ _ => True) (fun _ U o U' => ∃ v L, o = .returned v ∧ OL (some (.int (1 : Int32))) Z.heap.size v U'.heap L ∧ FrameEnd U o U' L 16 128) := by
  have hN' := hN
  obtain ⟨hS0, hE0, hS1, hE1, hS2, hE2, hI0, hJ0, hR0, hRr0, hEq0⟩ := hN'
  refine MetFree.of_bodySF (plainFor_of_name pn_5) hisR ?_
  intro p e s m args below meth c s₁ Bd hml0 hP hK
  obtain ⟨rfl, hZ, hh⟩ := hP
  have hx := Bd.exec
  have hby := Bd.bytes
  have hml : c.maxLocals = 3 := hml0
  have hown : s.vm.findClass s_3 = some m.cls := findClass_of_methodNamed Bd.named
  have hnm := (name_of_methodNamed Bd.named Bd.method).1
  have X0 : Stand p l e room_1 s m #[(.int p0)] below meth c s₁ [] 0 0 := Stand.of_body Bd
  have e0 : s₁.heap = h0 := by rw [← hh, Bd.state]; rfl
  have N0 := Fr.nil Z.heap.size
  obtain ⟨_, _, ⟨T1, L1, k1, n1⟩, -, X1, ⟨Lc1, hQ1, l1, y1, z1⟩, st1⟩ := Jvm.LawKit.callS X0 hx (y := (⟨s_1, "yearText", s_4⟩ : MethodName)) hown (mvT hZ (W hw 0 rfl)) (mvT hZ (W hw 1 rfl)) (mvT hZ (W hw 2 rfl)) (mvT hZ (W hw 3 rfl)) (by decide) (backOf (W := 0) (rm_117 l Z a0 hw w kk iw vw hN [] p0 h0 O0 hp0 hp1 hp2 hp3 hp4 hp5 hp6 hp7 hp8) hZ (W hw 3 rfl) (W hw 2 rfl) (by decide) (by decide)) (g := (mkF m 1 #[.val (.int p0), .unset, .unset] [(.int p0)])) rfl (by rw [hml]; rfl) (argsL := [(.int p0)]) (rest := []) (lenOf pd_10 rfl) rfl (by show 2 * 0 + _ ≤ _; exact Nat.le_of_eq rfl) (hb hby at_1) (fun _ _ => ⟨rfl, e0, (by decide : 0 + 3 ≤ _), (by decide : 0 + 26 ≤ _)⟩)
  dsimp only [Pt.U, Pt.locs, Pt.cells, Pt.slots] at X1 l1 y1 z1 st1 hQ1
  subst l1 y1 z1
  obtain ⟨b1_0, b1_1, kb1_0, vl1_0, rfl, N1q, Kq1, tk1_0, tk1_1, tk1_2, tk1_3, tk1_4, tk1_5, tk1_6, tk1_7⟩ := hQ1
  have N1 := Fr.app N0 N1q
  have gn_b1_0 : Z.heap.size ≤ b1_0 := Nat.le_trans O0.2.1 tk1_0
  have gn_b1_1 : Z.heap.size ≤ b1_1 := Nat.le_trans O0.2.1 tk1_1
  have O1 := O0.keep Kq1 all0
  obtain ⟨cq2, kq2, q2a, q2b, q2c⟩ := isOf hZ rfl tk1_3
  obtain ⟨_, _, ⟨T2, L2, k2, n2⟩, -, X2, ⟨Lc2, hQ2, l2, y2, z2⟩, st2⟩ := X1.virtualBack hx (y := (⟨s_0, "length", "()I"⟩ : MethodName)) (z := (⟨s_0, "length", "()I"⟩ : MethodName)) hown (mvT hZ (W hw 67 rfl)) (mvT hZ (W hw 68 rfl)) (notFace_of_selects (args := #[]) (mvT hZ (W hw 70 rfl))) (mvT hZ (W hw 70 rfl)) (mvT hZ (W hw 69 rfl)) (by decide) (backOf (W := 0) (rm_98 l Z a0 hw w kk iw vw hN [] b1_0 b1_1 vl1_0 kb1_0 T1.heap O1 gn_b1_0 tk1_3.lt tk1_3 gn_b1_1 tk1_6.lt tk1_4 tk1_5 tk1_6 tk1_7 tk1_2) hZ (W hw 71 rfl) (W hw 13 rfl) (by decide) (by decide)) q2a q2c (g := (mkF m 6 #[.val (.int p0), .val (.ref b1_0), .unset] [(.ref b1_0)])) rfl (by rw [hml]; rfl) (Steps.refl _) (argsL := []) (rest := []) (lenOf pd_12 rfl) rfl (by show 2 * 0 + _ ≤ _; exact Nat.le_of_eq rfl) (hb hby at_6) (fun _ _ => ⟨rfl, rfl, (by decide : 3 + 0 ≤ _), (by decide : 26 + 0 ≤ _)⟩)
  dsimp only [Pt.U, Pt.locs, Pt.cells, Pt.slots] at X2 l2 y2 z2 st2 hQ2
  subst l2 y2 z2
  obtain ⟨rfl, N2q, e2⟩ := hQ2
  have N2 := Fr.app N1 N2q
  obtain ⟨_, _, ⟨T3, L3, k3, n3⟩, -, X3, ⟨Lc3, hQ3, l3, y3, z3⟩, st3⟩ := Jvm.LawKit.callS X2 hx (y := (⟨s_1, s_15, "(I)Z"⟩ : MethodName)) hown (mvT hZ (W hw 97 rfl)) (mvT hZ (W hw 98 rfl)) (mvT hZ (W hw 2 rfl)) (mvT hZ (W hw 99 rfl)) (by decide) (backOf (W := 0) (rm_102 l Z a0 hw w kk iw vw hN [] p0 T1.heap O1 hp9 hp1) hZ (W hw 99 rfl) (W hw 2 rfl) (by decide) (by decide)) (g := (mkF m 30 #[.val (.int p0), .val (.ref b1_0), .val (.int (0 : Int32))] [(.int p0)])) rfl (by rw [hml]; rfl) (argsL := [(.int p0)]) (rest := []) (lenOf pd_13 rfl) rfl (by show 2 * 0 + _ ≤ _; exact Nat.le_of_eq rfl) (hb hby at_30) (fun _ _ => ⟨rfl, e2, (by decide : 3 + 0 ≤ _), (by decide : 26 + 0 ≤ _)⟩)
  dsimp only [Pt.U, Pt.locs, Pt.cells, Pt.slots] at X3 l3 y3 z3 st3 hQ3
  subst l3 y3 z3
  obtain ⟨rfl, N3q, e3⟩ := hQ3
  have N3 := Fr.app N2 N3q
  obtain ⟨fs, hr, hrun, hended, hW, hsame⟩ := X3.leave (v := some (.int (1 : Int32))) (fun h => by rw [Bd.returns] at h; cases h)
  refine ⟨_, _, castTop (ef_12 m (.int p0) rfl) ?_, hrun, hended, _, _, rfl, ?_, ⟨_, rfl⟩, hW, hsame.mono (by decide) (by decide)⟩
  · show Steps p.tables e below (s₁.setTop (mkF m 0 #[.val (.int p0), .unset, .unset] [])) _
    refine XS.iloadN X0.here hx rfl (hb hby at_0) rfl ?_
    refine st1 _ ?_
    refine XS.astoreN X1.here hx rfl (hb hby at_4) rfl rfl (l' := #[.val (.int p0), .val (.ref b1_0), .unset]) rfl ?_
    refine XS.aloadN X1.here hx rfl (hb hby at_5) rfl rfl ?_
    refine st2.trans ?_
    refine XS.iconst X2.here hx rfl (hb hby at_9) ?_
    refine XS.icmpYes X2.here hx rfl (pc0 := 10) (pc' := 27) rfl (hb hby at_10) rfl (feq (by decide : ¬ ((11 : Int32) = (4 : Int32)))).2 (by decide) (by decide) ?_
    refine XS.iconst X2.here hx rfl (hb hby at_27) ?_
    refine XS.istoreN X2.here hx rfl (hb hby at_28) rfl (l' := #[.val (.int p0), .val (.ref b1_0), .val (.int (0 : Int32))]) rfl ?_
    refine XS.iloadN X2.here hx rfl (hb hby at_29) rfl ?_
    show Steps p.tables e below (T2.setTop (mkF m 30 #[.val (.int p0), .val (.ref b1_0), .val (.int (0 : Int32))] [(.int p0)])) _
    refine st3 _ ?_
    refine XS.iloadN X3.here hx rfl (hb hby at_33) rfl ?_
    refine XS.icmpNo X3.here hx rfl (hb hby at_34) rfl (teq (by decide : (0 : Int32) = (0 : Int32))).2 ?_
    refine XS.iconst X3.here hx rfl (hb hby at_37) ?_
    refine XS.goto X3.here hx rfl (pc0 := 38) (pc' := 42) rfl (hb hby at_38) (by decide) (by decide) ?_
    show Steps p.tables e below (T3.setTop (mkF m 42 #[.val (.int p0), .val (.ref b1_0), .val (.int (0 : Int32))] [(.int (1 : Int32))])) _
    exact retN X3 hx (t := .boolean) Bd.returns (by simp) (hb hby at_42) hr
  · show OL (some (.int (1 : Int32))) Z.heap.size _ T3.heap _
    exact ⟨rfl, N3⟩
theorem d1_31 : decode prog_22_method_7_code 31 = .ok (.iconst 0, 1) := by decide +kernel
theorem d1_32 : decode prog_22_method_7_code 32 = .ok (.istore_n 2, 1) := by decide +kernel
theorem lf_53 : ((0 : Int32) + (4 : Int32)) = (4 : Int32) := by decide
theorem lf_54 : ((4 : Int32) - (1 : Int32)) = (3 : Int32) := by decide
theorem lf_55 : ((0 : Int32) + (-1 : Int32)) = (-1 : Int32) := by decide
def Qd_35 (Z : State) (w : Nat → Addr) (kk : Nat → ClassId) (iw : Nat → Int32) (vw : Nat → Value) (o1 : Addr) (p1 : Int32) (kc_o1 : ClassId) (h0 : Heap) (n0 : Nat) (v : Option Value) (h : Heap) (L : List Loc) : Prop := v = some (.int (4 : Int32)) ∧ Fr n0 L ∧ Keep h0 h [o1] ∧ Exa Z h o1 "[B" ∧ Arv Z h o1 kc_o1 .byte (11 : Int32) [(.int ((((48 : Int32) - (((((-p1) / (10 : Int32)) / (10 : Int32)) / (10 : Int32)) % (10 : Int32))).toInt8.toInt32).toInt8.toInt32)), (.int ((((48 : Int32) - ((((-p1) / (10 : Int32)) / (10 : Int32)) % (10 : Int32))).toInt8.toInt32).toInt8.toInt32)), (.int ((((48 : Int32) - (((-p1) / (10 : Int32)) % (10 : Int32))).toInt8.toInt32).toInt8.toInt32)), (.int ((((48 : Int32) - ((-p1) % (10 : Int32))).toInt8.toInt32).toInt8.toInt32))] (.int (0 : Int32))
set_option maxRecDepth 65536 in
set_option maxHeartbeats 40000000 in
theorem rm_119 (l : Launch) (Z : State) (a0 : Array Value) (hw : ∀ d ∈ tables_1, d.before a0 Z = true) (w : Nat → Addr) (kk : Nat → ClassId) (iw : Nat → Int32) (vw : Nat → Value) (hN : Wd Z w kk iw vw) (ws : List Jvm.Cond) (o1 : Addr) (p1 : Int32) (kc_o1 : ClassId) (h0 : Heap) (O0 : Old Z Z.heap.size h0) (gn_o1 : Z.heap.size ≤ o1) (lt_o1 : o1 < h0.size) (E_o1 : Exa Z h0 o1 "[B") (V_o1 : Arv Z h0 o1 kc_o1 .byte (11 : Int32) [] (.int (0 : Int32))) (hp0 : ¬ (p1 < (0 : Int32))) (hp1 : ¬ ((9999 : Int32) < p1)) (hp2 : ((-p1) / (10000 : Int32)) = (0 : Int32)) :
    Met l Z (⟨s_1, "writeYear", "([BI)I"⟩ : MethodName) (Jvm.Cond.code (⟨s_1, "writeYear", "([BI)I"⟩ : MethodName) prog_22_method_7_code 7 (some .int)) ws (Rm 0 0 0 0) #[(.ref o1), (.int p1)] h0 (Qd_35 Z w kk iw vw o1 p1 kc_o1 h0 Z.heap.size) := by
  have hN' := hN
  obtain ⟨hS0, hE0, hS1, hE1, hS2, hE2, hI0, hJ0, hR0, hRr0, hEq0⟩ := hN'
  refine own_body (plainFor_of_name pn_0) hisR ?_
  intro p e s m below meth c s₁ hx hby hml hown hnm hret X0 hZ e0
  have N0 := Fr.nil Z.heap.size
  have K0 : Keep h0 h0 [o1] := Keep.refl _ _
  have V_o1_v1 : Arv Z h0 o1 kc_o1 .byte (11 : Int32) [(.int (0 : Int32)), (.int (0 : Int32)), (.int (0 : Int32)), (.int (0 : Int32))] (.int (0 : Int32)) := V_o1.pad (pad_rep [] (.int (0 : Int32)) 4)
  obtain ⟨cl2, Ar2, q2, Sz2, Ng2, Hv2, Gv2⟩ := V_o1_v1
  have hin2 : ¬ ((3 : Int32) < 0 ∨ cl2.slots.size ≤ ((3 : Int32)).toNatClampNeg) := inb_of Sz2 ⟨by decide, by decide⟩
  obtain ⟨T3, h3, X3, e3, W3, st3⟩ := stB X0 hx hZ e0 Ar2 (j := (3 : Int32)) hin2 (g := (mkF m 101 #[.val (.ref o1), .val (.int p1), .val (.int (0 : Int32)), .val (.int (-p1)), .val (.int (4 : Int32)), .val (.int (-p1)), .val (.int (3 : Int32))] [(.int (((48 : Int32) - ((-p1) % (10 : Int32))).toInt8.toInt32)), (.int (3 : Int32)), (.ref o1)])) rfl rfl (hb hby d1_101)
  have V_o1_v3 : Arv Z h3 o1 kc_o1 .byte (11 : Int32) [(.int (0 : Int32)), (.int (0 : Int32)), (.int (0 : Int32)), (.int ((((48 : Int32) - ((-p1) % (10 : Int32))).toInt8.toInt32).toInt8.toInt32))] (.int (0 : Int32)) := Arv.set Ar2 q2 Sz2 Ng2 Hv2 Gv2 (fits_nar_byte _) W3 3 rfl (Nat.le_of_ble_eq_true rfl)
  have N3 := Fr.snoc X3 N0 gn_o1
  have E_o1_v3 := E_o1.wr W3
  have O3 := O0.wr W3 gn_o1
  have K3 : Keep h0 h3 [o1] := K0.wr W3 (Or.inl (List.mem_of_getElem? (i := 0) rfl))
  obtain ⟨cl4, Ar4, q4, Sz4, Ng4, Hv4, Gv4⟩ := V_o1_v3
  have hin4 : ¬ ((2 : Int32) < 0 ∨ cl4.slots.size ≤ ((2 : Int32)).toNatClampNeg) := inb_of Sz4 ⟨by decide, by decide⟩
  obtain ⟨T5, h5, X5, e5, W5, st5⟩ := stB X3 hx hZ e3 Ar4 (j := (2 : Int32)) hin4 (g := (mkF m 101 #[.val (.ref o1), .val (.int p1), .val (.int (0 : Int32)), .val (.int (-p1)), .val (.int (4 : Int32)), .val (.int ((-p1) / (10 : Int32))), .val (.int (2 : Int32))] [(.int (((48 : Int32) - (((-p1) / (10 : Int32)) % (10 : Int32))).toInt8.toInt32)), (.int (2 : Int32)), (.ref o1)])) rfl rfl (hb hby d1_101)
  have V_o1_v5 : Arv Z h5 o1 kc_o1 .byte (11 : Int32) [(.int (0 : Int32)), (.int (0 : Int32)), (.int ((((48 : Int32) - (((-p1) / (10 : Int32)) % (10 : Int32))).toInt8.toInt32).toInt8.toInt32)), (.int ((((48 : Int32) - ((-p1) % (10 : Int32))).toInt8.toInt32).toInt8.toInt32))] (.int (0 : Int32)) := Arv.set Ar4 q4 Sz4 Ng4 Hv4 Gv4 (fits_nar_byte _) W5 2 rfl (Nat.le_of_ble_eq_true rfl)
  have N5 := Fr.snoc X5 N3 gn_o1
  have E_o1_v5 := E_o1_v3.wr W5
  have O5 := O3.wr W5 gn_o1
  have K5 : Keep h0 h5 [o1] := K3.wr W5 (Or.inl (List.mem_of_getElem? (i := 0) rfl))
  obtain ⟨cl6, Ar6, q6, Sz6, Ng6, Hv6, Gv6⟩ := V_o1_v5
  have hin6 : ¬ ((1 : Int32) < 0 ∨ cl6.slots.size ≤ ((1 : Int32)).toNatClampNeg) := inb_of Sz6 ⟨by decide, by decide⟩
  obtain ⟨T7, h7, X7, e7, W7, st7⟩ := stB X5 hx hZ e5 Ar6 (j := (1 : Int32)) hin6 (g := (mkF m 101 #[.val (.ref o1), .val (.int p1), .val (.int (0 : Int32)), .val (.int (-p1)), .val (.int (4 : Int32)), .val (.int (((-p1) / (10 : Int32)) / (10 : Int32))), .val (.int (1 : Int32))] [(.int (((48 : Int32) - ((((-p1) / (10 : Int32)) / (10 : Int32)) % (10 : Int32))).toInt8.toInt32)), (.int (1 : Int32)), (.ref o1)])) rfl rfl (hb hby d1_101)
  have V_o1_v7 : Arv Z h7 o1 kc_o1 .byte (11 : Int32) [(.int (0 : Int32)), (.int ((((48 : Int32) - ((((-p1) / (10 : Int32)) / (10 : Int32)) % (10 : Int32))).toInt8.toInt32).toInt8.toInt32)), (.int ((((48 : Int32) - (((-p1) / (10 : Int32)) % (10 : Int32))).toInt8.toInt32).toInt8.toInt32)), (.int ((((48 : Int32) - ((-p1) % (10 : Int32))).toInt8.toInt32).toInt8.toInt32))] (.int (0 : Int32)) := Arv.set Ar6 q6 Sz6 Ng6 Hv6 Gv6 (fits_nar_byte _) W7 1 rfl (Nat.le_of_ble_eq_true rfl)
  have N7 := Fr.snoc X7 N5 gn_o1
  have E_o1_v7 := E_o1_v5.wr W7
  have O7 := O5.wr W7 gn_o1
  have K7 : Keep h0 h7 [o1] := K5.wr W7 (Or.inl (List.mem_of_getElem? (i := 0) rfl))
  obtain ⟨cl8, Ar8, q8, Sz8, Ng8, Hv8, Gv8⟩ := V_o1_v7
  have hin8 : ¬ ((0 : Int32) < 0 ∨ cl8.slots.size ≤ ((0 : Int32)).toNatClampNeg) := inb_of Sz8 ⟨by decide, by decide⟩
  obtain ⟨T9, h9, X9, e9, W9, st9⟩ := stB X7 hx hZ e7 Ar8 (j := (0 : Int32)) hin8 (g := (mkF m 101 #[.val (.ref o1), .val (.int p1), .val (.int (0 : Int32)), .val (.int (-p1)), .val (.int (4 : Int32)), .val (.int ((((-p1) / (10 : Int32)) / (10 : Int32)) / (10 : Int32))), .val (.int (0 : Int32))] [(.int (((48 : Int32) - (((((-p1) / (10 : Int32)) / (10 : Int32)) / (10 : Int32)) % (10 : Int32))).toInt8.toInt32)), (.int (0 : Int32)), (.ref o1)])) rfl rfl (hb hby d1_101)
  have V_o1_v9 : Arv Z h9 o1 kc_o1 .byte (11 : Int32) [(.int ((((48 : Int32) - (((((-p1) / (10 : Int32)) / (10 : Int32)) / (10 : Int32)) % (10 : Int32))).toInt8.toInt32).toInt8.toInt32)), (.int ((((48 : Int32) - ((((-p1) / (10 : Int32)) / (10 : Int32)) % (10 : Int32))).toInt8.toInt32).toInt8.toInt32)), (.int ((((48 : Int32) - (((-p1) / (10 : Int32)) % (10 : Int32))).toInt8.toInt32).toInt8.toInt32)), (.int ((((48 : Int32) - ((-p1) % (10 : Int32))).toInt8.toInt32).toInt8.toInt32))] (.int (0 : Int32)) := Arv.set Ar8 q8 Sz8 Ng8 Hv8 Gv8 (fits_nar_byte _) W9 0 rfl (Nat.le_of_ble_eq_true rfl)
  have N9 := Fr.snoc X9 N7 gn_o1
  have E_o1_v9 := E_o1_v7.wr W9
  have O9 := O7.wr W9 gn_o1
  have K9 : Keep h0 h9 [o1] := K7.wr W9 (Or.inl (List.mem_of_getElem? (i := 0) rfl))
  refine ⟨T9, some (.int (4 : Int32)), _, _, _, by decide, by decide, X9, nofun, (by rw [e9]; exact ⟨rfl, N9, K9, E_o1_v9, V_o1_v9⟩), fun fs hr => castTop (ef_0 m (.ref o1) rfl (.int p1) rfl) ?_⟩
  show Steps p.tables e below (s₁.setTop (mkF m 0 #[.val (.ref o1), .val (.int p1), .unset, .unset, .unset, .unset, .unset] [])) _
  refine XS.iloadN X0.here hx rfl (hb hby d1_0) rfl ?_
  refine XS.ifYes X0.here hx rfl (pc0 := 1) (pc' := 14) rfl (hb hby d1_1) rfl ((if0 _ _).trans (flt hp0).2.1) (by decide) (by decide) ?_
  refine XS.iloadN X0.here hx rfl (hb hby d1_14) rfl ?_
  refine XS.sipush X0.here hx rfl (hb hby d1_15) ?_
  refine XS.icmpYes X0.here hx rfl (pc0 := 18) (pc' := 31) rfl (hb hby d1_18) rfl (flt hp1).2.2.2 (by decide) (by decide) ?_
  refine XS.iconst X0.here hx rfl (hb hby d1_31) ?_
  refine XS.istoreN X0.here hx rfl (hb hby d1_32) rfl (l' := #[.val (.ref o1), .val (.int p1), .val (.int (0 : Int32)), .unset, .unset, .unset, .unset]) rfl ?_
  refine XS.iloadN X0.here hx rfl (hb hby d1_33) rfl ?_
  refine XS.ifYes X0.here hx rfl (pc0 := 34) (pc' := 41) rfl (hb hby d1_34) rfl ((if0 _ _).trans (flt hp0).2.1) (by decide) (by decide) ?_
  refine XS.iloadN X0.here hx rfl (hb hby d1_41) rfl ?_
  show Steps p.tables e below (s₁.setTop (mkF m 42 #[.val (.ref o1), .val (.int p1), .val (.int (0 : Int32)), .unset, .unset, .unset, .unset] [(.int p1)])) _
  refine XS.ineg X0.here hx rfl (hb hby d1_42) rfl ?_
  refine XS.istoreN X0.here hx rfl (hb hby d1_43) rfl (l' := #[.val (.ref o1), .val (.int p1), .val (.int (0 : Int32)), .val (.int (-p1)), .unset, .unset, .unset]) rfl ?_
  refine XS.iloadN X0.here hx rfl (hb hby d1_44) rfl ?_
  refine XS.iconst X0.here hx rfl (hb hby d1_45) ?_
  refine XS.iadd X0.here hx rfl (hb hby d1_46) rfl ?_
  show Steps p.tables e below (s₁.setTop (mkF m 47 #[.val (.ref o1), .val (.int p1), .val (.int (0 : Int32)), .val (.int (-p1)), .unset, .unset, .unset] [(.int ((0 : Int32) + (4 : Int32)))])) _
  rw [lf_53]
  refine XS.istore X0.here hx rfl (hb hby d1_47) rfl (l' := #[.val (.ref o1), .val (.int p1), .val (.int (0 : Int32)), .val (.int (-p1)), .val (.int (4 : Int32)), .unset, .unset]) rfl ?_
  refine XS.iloadN X0.here hx rfl (hb hby d1_49) rfl ?_
  refine XS.sipush X0.here hx rfl (hb hby d1_50) ?_
  refine XS.idiv X0.here hx rfl (hb hby d1_53) rfl (by decide : ¬ ((10000 : Int32) = (0 : Int32))) ?_
  refine XS.istore X0.here hx rfl (hb hby d1_54) rfl (l' := #[.val (.ref o1), .val (.int p1), .val (.int (0 : Int32)), .val (.int (-p1)), .val (.int (4 : Int32)), .val (.int ((-p1) / (10000 : Int32))), .unset]) rfl ?_
  show Steps p.tables e below (s₁.setTop (mkF m 56 #[.val (.ref o1), .val (.int p1), .val (.int (0 : Int32)), .val (.int (-p1)), .val (.int (4 : Int32)), .val (.int ((-p1) / (10000 : Int32))), .unset] [])) _
  refine XS.iload X0.here hx rfl (hb hby d1_56) rfl ?_
  refine XS.ifYes X0.here hx rfl (pc0 := 58) (pc' := 74) rfl (hb hby d1_58) rfl ((if0 _ _).trans (teq hp2).1) (by decide) (by decide) ?_
  refine XS.iloadN X0.here hx rfl (hb hby d1_74) rfl ?_
  refine XS.istore X0.here hx rfl (hb hby d1_75) rfl (l' := #[.val (.ref o1), .val (.int p1), .val (.int (0 : Int32)), .val (.int (-p1)), .val (.int (4 : Int32)), .val (.int (-p1)), .unset]) rfl ?_
  refine XS.iload X0.here hx rfl (hb hby d1_77) rfl ?_
  refine XS.iconst X0.here hx rfl (hb hby d1_79) ?_
  refine XS.isub X0.here hx rfl (hb hby d1_80) rfl ?_
  show Steps p.tables e below (s₁.setTop (mkF m 81 #[.val (.ref o1), .val (.int p1), .val (.int (0 : Int32)), .val (.int (-p1)), .val (.int (4 : Int32)), .val (.int (-p1)), .unset] [(.int ((4 : Int32) - (1 : Int32)))])) _
  rw [lf_54]
  refine XS.istore X0.here hx rfl (hb hby d1_81) rfl (l' := #[.val (.ref o1), .val (.int p1), .val (.int (0 : Int32)), .val (.int (-p1)), .val (.int (4 : Int32)), .val (.int (-p1)), .val (.int (3 : Int32))]) rfl ?_
  refine XS.iload X0.here hx rfl (hb hby d1_83) rfl ?_
  refine XS.iloadN X0.here hx rfl (hb hby d1_85) rfl ?_
  show Steps p.tables e below (s₁.setTop (mkF m 86 #[.val (.ref o1), .val (.int p1), .val (.int (0 : Int32)), .val (.int (-p1)), .val (.int (4 : Int32)), .val (.int (-p1)), .val (.int (3 : Int32))] [(.int (0 : Int32)), (.int (3 : Int32))])) _
  refine XS.icmpNo X0.here hx rfl (hb hby d1_86) rfl (flt (by decide : ¬ ((3 : Int32) < (0 : Int32)))).1 ?_
  refine XS.aloadN X0.here hx rfl (hb hby d1_89) rfl rfl ?_
  refine XS.iload X0.here hx rfl (hb hby d1_90) rfl ?_
  refine XS.bipush X0.here hx rfl (hb hby d1_92) ?_
  refine XS.iload X0.here hx rfl (hb hby d1_94) rfl ?_
  refine XS.bipush X0.here hx rfl (hb hby d1_96) ?_
  refine iremM X0 hx rfl (hb hby d1_98) rfl (by decide : ¬ ((10 : Int32) = (0 : Int32))) ?_
  refine XS.isub X0.here hx rfl (hb hby d1_99) rfl ?_
  refine XS.i2b X0.here hx rfl (hb hby d1_100) rfl ?_
  refine st3 _ ?_
  show Steps p.tables e below (T3.setTop (mkF m 102 #[.val (.ref o1), .val (.int p1), .val (.int (0 : Int32)), .val (.int (-p1)), .val (.int (4 : Int32)), .val (.int (-p1)), .val (.int (3 : Int32))] [])) _
  refine XS.iload X3.here hx rfl (hb hby d1_102) rfl ?_
  refine XS.bipush X3.here hx rfl (hb hby d1_104) ?_
  refine XS.idiv X3.here hx rfl (hb hby d1_106) rfl (by decide : ¬ ((10 : Int32) = (0 : Int32))) ?_
  refine XS.istore X3.here hx rfl (hb hby d1_107) rfl (l' := #[.val (.ref o1), .val (.int p1), .val (.int (0 : Int32)), .val (.int (-p1)), .val (.int (4 : Int32)), .val (.int ((-p1) / (10 : Int32))), .val (.int (3 : Int32))]) rfl ?_
  refine XS.iinc X3.here hx rfl (hb hby d1_109) rfl (l' := #[.val (.ref o1), .val (.int p1), .val (.int (0 : Int32)), .val (.int (-p1)), .val (.int (4 : Int32)), .val (.int ((-p1) / (10 : Int32))), .val (.int ((3 : Int32) + (-1 : Int32)))]) rfl ?_
  show Steps p.tables e below (T3.setTop (mkF m 112 #[.val (.ref o1), .val (.int p1), .val (.int (0 : Int32)), .val (.int (-p1)), .val (.int (4 : Int32)), .val (.int ((-p1) / (10 : Int32))), .val (.int ((3 : Int32) + (-1 : Int32)))] [])) _
  rw [lf_3]
  refine XS.goto X3.here hx rfl (pc0 := 112) (pc' := 83) rfl (hb hby d1_112) (by decide) (by decide) ?_
  refine XS.iload X3.here hx rfl (hb hby d1_83) rfl ?_
  refine XS.iloadN X3.here hx rfl (hb hby d1_85) rfl ?_
  refine XS.icmpNo X3.here hx rfl (hb hby d1_86) rfl (flt (by decide : ¬ ((2 : Int32) < (0 : Int32)))).1 ?_
  refine XS.aloadN X3.here hx rfl (hb hby d1_89) rfl rfl ?_
  show Steps p.tables e below (T3.setTop (mkF m 90 #[.val (.ref o1), .val (.int p1), .val (.int (0 : Int32)), .val (.int (-p1)), .val (.int (4 : Int32)), .val (.int ((-p1) / (10 : Int32))), .val (.int (2 : Int32))] [(.ref o1)])) _
  refine XS.iload X3.here hx rfl (hb hby d1_90) rfl ?_
  refine XS.bipush X3.here hx rfl (hb hby d1_92) ?_
  refine XS.iload X3.here hx rfl (hb hby d1_94) rfl ?_
  refine XS.bipush X3.here hx rfl (hb hby d1_96) ?_
  refine iremM X3 hx rfl (hb hby d1_98) rfl (by decide : ¬ ((10 : Int32) = (0 : Int32))) ?_
  refine XS.isub X3.here hx rfl (hb hby d1_99) rfl ?_
  refine XS.i2b X3.here hx rfl (hb hby d1_100) rfl ?_
  refine st5 _ ?_
  refine XS.iload X5.here hx rfl (hb hby d1_102) rfl ?_
  refine XS.bipush X5.here hx rfl (hb hby d1_104) ?_
  show Steps p.tables e below (T5.setTop (mkF m 106 #[.val (.ref o1), .val (.int p1), .val (.int (0 : Int32)), .val (.int (-p1)), .val (.int (4 : Int32)), .val (.int ((-p1) / (10 : Int32))), .val (.int (2 : Int32))] [(.int (10 : Int32)), (.int ((-p1) / (10 : Int32)))])) _
  refine XS.idiv X5.here hx rfl (hb hby d1_106) rfl (by decide : ¬ ((10 : Int32) = (0 : Int32))) ?_
  refine XS.istore X5.here hx rfl (hb hby d1_107) rfl (l' := #[.val (.ref o1), .val (.int p1), .val (.int (0 : Int32)), .val (.int (-p1)), .val (.int (4 : Int32)), .val (.int (((-p1) / (10 : Int32)) / (10 : Int32))), .val (.int (2 : Int32))]) rfl ?_
  refine XS.iinc X5.here hx rfl (hb hby d1_109) rfl (l' := #[.val (.ref o1), .val (.int p1), .val (.int (0 : Int32)), .val (.int (-p1)), .val (.int (4 : Int32)), .val (.int (((-p1) / (10 : Int32)) / (10 : Int32))), .val (.int ((2 : Int32) + (-1 : Int32)))]) rfl ?_
  show Steps p.tables e below (T5.setTop (mkF m 112 #[.val (.ref o1), .val (.int p1), .val (.int (0 : Int32)), .val (.int (-p1)), .val (.int (4 : Int32)), .val (.int (((-p1) / (10 : Int32)) / (10 : Int32))), .val (.int ((2 : Int32) + (-1 : Int32)))] [])) _
  rw [lf_4]
  refine XS.goto X5.here hx rfl (pc0 := 112) (pc' := 83) rfl (hb hby d1_112) (by decide) (by decide) ?_
  refine XS.iload X5.here hx rfl (hb hby d1_83) rfl ?_
  refine XS.iloadN X5.here hx rfl (hb hby d1_85) rfl ?_
  refine XS.icmpNo X5.here hx rfl (hb hby d1_86) rfl (flt (by decide : ¬ ((1 : Int32) < (0 : Int32)))).1 ?_
  refine XS.aloadN X5.here hx rfl (hb hby d1_89) rfl rfl ?_
  refine XS.iload X5.here hx rfl (hb hby d1_90) rfl ?_
  refine XS.bipush X5.here hx rfl (hb hby d1_92) ?_
  show Steps p.tables e below (T5.setTop (mkF m 94 #[.val (.ref o1), .val (.int p1), .val (.int (0 : Int32)), .val (.int (-p1)), .val (.int (4 : Int32)), .val (.int (((-p1) / (10 : Int32)) / (10 : Int32))), .val (.int (1 : Int32))] [(.int (48 : Int32)), (.int (1 : Int32)), (.ref o1)])) _
  refine XS.iload X5.here hx rfl (hb hby d1_94) rfl ?_
  refine XS.bipush X5.here hx rfl (hb hby d1_96) ?_
  refine iremM X5 hx rfl (hb hby d1_98) rfl (by decide : ¬ ((10 : Int32) = (0 : Int32))) ?_
  refine XS.isub X5.here hx rfl (hb hby d1_99) rfl ?_
  refine XS.i2b X5.here hx rfl (hb hby d1_100) rfl ?_
  refine st7 _ ?_
  refine XS.iload X7.here hx rfl (hb hby d1_102) rfl ?_
  refine XS.bipush X7.here hx rfl (hb hby d1_104) ?_
  refine XS.idiv X7.here hx rfl (hb hby d1_106) rfl (by decide : ¬ ((10 : Int32) = (0 : Int32))) ?_
  refine XS.istore X7.here hx rfl (hb hby d1_107) rfl (l' := #[.val (.ref o1), .val (.int p1), .val (.int (0 : Int32)), .val (.int (-p1)), .val (.int (4 : Int32)), .val (.int ((((-p1) / (10 : Int32)) / (10 : Int32)) / (10 : Int32))), .val (.int (1 : Int32))]) rfl ?_
  show Steps p.tables e below (T7.setTop (mkF m 109 #[.val (.ref o1), .val (.int p1), .val (.int (0 : Int32)), .val (.int (-p1)), .val (.int (4 : Int32)), .val (.int ((((-p1) / (10 : Int32)) / (10 : Int32)) / (10 : Int32))), .val (.int (1 : Int32))] [])) _
  refine XS.iinc X7.here hx rfl (hb hby d1_109) rfl (l' := #[.val (.ref o1), .val (.int p1), .val (.int (0 : Int32)), .val (.int (-p1)), .val (.int (4 : Int32)), .val (.int ((((-p1) / (10 : Int32)) / (10 : Int32)) / (10 : Int32))), .val (.int ((1 : Int32) + (-1 : Int32)))]) rfl ?_
  show Steps p.tables e below (T7.setTop (mkF m 112 #[.val (.ref o1), .val (.int p1), .val (.int (0 : Int32)), .val (.int (-p1)), .val (.int (4 : Int32)), .val (.int ((((-p1) / (10 : Int32)) / (10 : Int32)) / (10 : Int32))), .val (.int ((1 : Int32) + (-1 : Int32)))] [])) _
  rw [lf_5]
  refine XS.goto X7.here hx rfl (pc0 := 112) (pc' := 83) rfl (hb hby d1_112) (by decide) (by decide) ?_
  refine XS.iload X7.here hx rfl (hb hby d1_83) rfl ?_
  refine XS.iloadN X7.here hx rfl (hb hby d1_85) rfl ?_
  refine XS.icmpNo X7.here hx rfl (hb hby d1_86) rfl (flt (by decide : ¬ ((0 : Int32) < (0 : Int32)))).1 ?_
  refine XS.aloadN X7.here hx rfl (hb hby d1_89) rfl rfl ?_
  refine XS.iload X7.here hx rfl (hb hby d1_90) rfl ?_
  refine XS.bipush X7.here hx rfl (hb hby d1_92) ?_
  refine XS.iload X7.here hx rfl (hb hby d1_94) rfl ?_
  refine XS.bipush X7.here hx rfl (hb hby d1_96) ?_
  show Steps p.tables e below (T7.setTop (mkF m 98 #[.val (.ref o1), .val (.int p1), .val (.int (0 : Int32)), .val (.int (-p1)), .val (.int (4 : Int32)), .val (.int ((((-p1) / (10 : Int32)) / (10 : Int32)) / (10 : Int32))), .val (.int (0 : Int32))] [(.int (10 : Int32)), (.int ((((-p1) / (10 : Int32)) / (10 : Int32)) / (10 : Int32))), (.int (48 : Int32)), (.int (0 : Int32)), (.ref o1)])) _
  refine iremM X7 hx rfl (hb hby d1_98) rfl (by decide : ¬ ((10 : Int32) = (0 : Int32))) ?_
  refine XS.isub X7.here hx rfl (hb hby d1_99) rfl ?_
  refine XS.i2b X7.here hx rfl (hb hby d1_100) rfl ?_
  refine st9 _ ?_
  refine XS.iload X9.here hx rfl (hb hby d1_102) rfl ?_
  refine XS.bipush X9.here hx rfl (hb hby d1_104) ?_
  refine XS.idiv X9.here hx rfl (hb hby d1_106) rfl (by decide : ¬ ((10 : Int32) = (0 : Int32))) ?_
  refine XS.istore X9.here hx rfl (hb hby d1_107) rfl (l' := #[.val (.ref o1), .val (.int p1), .val (.int (0 : Int32)), .val (.int (-p1)), .val (.int (4 : Int32)), .val (.int (((((-p1) / (10 : Int32)) / (10 : Int32)) / (10 : Int32)) / (10 : Int32))), .val (.int (0 : Int32))]) rfl ?_
  refine XS.iinc X9.here hx rfl (hb hby d1_109) rfl (l' := #[.val (.ref o1), .val (.int p1), .val (.int (0 : Int32)), .val (.int (-p1)), .val (.int (4 : Int32)), .val (.int (((((-p1) / (10 : Int32)) / (10 : Int32)) / (10 : Int32)) / (10 : Int32))), .val (.int ((0 : Int32) + (-1 : Int32)))]) rfl ?_
  show Steps p.tables e below (T9.setTop (mkF m 112 #[.val (.ref o1), .val (.int p1), .val (.int (0 : Int32)), .val (.int (-p1)), .val (.int (4 : Int32)), .val (.int (((((-p1) / (10 : Int32)) / (10 : Int32)) / (10 : Int32)) / (10 : Int32))), .val (.int ((0 : Int32) + (-1 : Int32)))] [])) _
  rw [lf_55]
  refine XS.goto X9.here hx rfl (pc0 := 112) (pc' := 83) rfl (hb hby d1_112) (by decide) (by decide) ?_
  show Steps p.tables e below (T9.setTop (mkF m 83 #[.val (.ref o1), .val (.int p1), .val (.int (0 : Int32)), .val (.int (-p1)), .val (.int (4 : Int32)), .val (.int (((((-p1) / (10 : Int32)) / (10 : Int32)) / (10 : Int32)) / (10 : Int32))), .val (.int (-1 : Int32))] [])) _
  refine XS.iload X9.here hx rfl (hb hby d1_83) rfl ?_
  refine XS.iloadN X9.here hx rfl (hb hby d1_85) rfl ?_
  refine XS.icmpYes X9.here hx rfl (pc0 := 86) (pc' := 115) rfl (hb hby d1_86) rfl (tlt (by decide : (-1 : Int32) < (0 : Int32))).1 (by decide) (by decide) ?_
  refine XS.iload X9.here hx rfl (hb hby d1_115) rfl ?_
  show Steps p.tables e below (T9.setTop (mkF m 117 #[.val (.ref o1), .val (.int p1), .val (.int (0 : Int32)), .val (.int (-p1)), .val (.int (4 : Int32)), .val (.int (((((-p1) / (10 : Int32)) / (10 : Int32)) / (10 : Int32)) / (10 : Int32))), .val (.int (-1 : Int32))] [(.int (4 : Int32))])) _
  exact retI X9 hx hret (hb hby d1_117) hr
theorem lf_56 : ((11 : Int32) ||| (4 : Int32)) = (15 : Int32) := by decide
set_option maxRecDepth 65536 in
set_option maxHeartbeats 40000000 in
theorem rm_120 (l : Launch) (Z : State) (a0 : Array Value) (hw : ∀ d ∈ tables_1, d.before a0 Z = true) (w : Nat → Addr) (kk : Nat → ClassId) (iw : Nat → Int32) (vw : Nat → Value) (hN : Wd Z w kk iw vw) (ws : List Jvm.Cond)  (h0 : Heap) (O0 : Old Z Z.heap.size h0) :
    Met l Z (⟨s_6, s_11, s_5⟩ : MethodName) (Jvm.Cond.code (⟨s_6, s_11, s_5⟩ : MethodName) jdk_41_method_13_code 4 (some .int)) ws (Rm 0 0 0 0) #[(.int (0 : Int32)), (.int (4 : Int32)), (.int (11 : Int32)), (vw 0)] h0 (OQ (some (.int (0 : Int32))) h0 Z.heap.size) := by
  have hN' := hN
  obtain ⟨hS0, hE0, hS1, hE1, hS2, hE2, hI0, hJ0, hR0, hRr0, hEq0⟩ := hN'
  refine own_body (plainFor_of_name pn_2) hisR ?_
  intro p e s m below meth c s₁ hx hby hml hown hnm hret X0 hZ e0
  have N0 := Fr.nil Z.heap.size
  refine ⟨s₁, some (.int (0 : Int32)), _, _, _, by decide, by decide, X0, nofun, (by rw [e0]; exact ⟨rfl, N0, rfl⟩), fun fs hr => castTop (ef_2 m (.int (0 : Int32)) rfl (.int (4 : Int32)) rfl (.int (11 : Int32)) rfl (vw 0) (own_cat hRr0)) ?_⟩
  show Steps p.tables e below (s₁.setTop (mkF m 0 #[.val (.int (0 : Int32)), .val (.int (4 : Int32)), .val (.int (11 : Int32)), .val (vw 0)] [])) _
  refine XS.iloadN X0.here hx rfl (hb hby d6_0) rfl ?_
  refine XS.iloadN X0.here hx rfl (hb hby d6_1) rfl ?_
  refine XS.ior X0.here hx rfl (hb hby d6_2) rfl ?_
  show Steps p.tables e below (s₁.setTop (mkF m 3 #[.val (.int (0 : Int32)), .val (.int (4 : Int32)), .val (.int (11 : Int32)), .val (vw 0)] [(.int ((11 : Int32) ||| (0 : Int32)))])) _
  rw [lf_6]
  refine XS.iloadN X0.here hx rfl (hb hby d6_3) rfl ?_
  refine XS.ior X0.here hx rfl (hb hby d6_4) rfl ?_
  show Steps p.tables e below (s₁.setTop (mkF m 5 #[.val (.int (0 : Int32)), .val (.int (4 : Int32)), .val (.int (11 : Int32)), .val (vw 0)] [(.int ((11 : Int32) ||| (4 : Int32)))])) _
  rw [lf_56]
  refine XS.ifNo X0.here hx rfl (hb hby d6_5) rfl ((if0 _ _).trans (flt (by decide : ¬ ((15 : Int32) < (0 : Int32)))).1) ?_
  refine XS.iloadN X0.here hx rfl (hb hby d6_8) rfl ?_
  refine XS.iloadN X0.here hx rfl (hb hby d6_9) rfl ?_
  refine XS.iloadN X0.here hx rfl (hb hby d6_10) rfl ?_
  refine XS.isub X0.here hx rfl (hb hby d6_11) rfl ?_
  show Steps p.tables e below (s₁.setTop (mkF m 12 #[.val (.int (0 : Int32)), .val (.int (4 : Int32)), .val (.int (11 : Int32)), .val (vw 0)] [(.int ((11 : Int32) - (0 : Int32))), (.int (4 : Int32))])) _
  rw [lf_8]
  show Steps p.tables e below (s₁.setTop (mkF m 12 #[.val (.int (0 : Int32)), .val (.int (4 : Int32)), .val (.int (11 : Int32)), .val (vw 0)] [(.int (11 : Int32)), (.int (4 : Int32))])) _
  refine XS.icmpYes X0.here hx rfl (pc0 := 12) (pc' := 23) rfl (hb hby d6_12) rfl (flt (by decide : ¬ ((11 : Int32) < (4 : Int32)))).2.2.2 (by decide) (by decide) ?_
  refine XS.iloadN X0.here hx rfl (hb hby d6_23) rfl ?_
  show Steps p.tables e below (s₁.setTop (mkF m 24 #[.val (.int (0 : Int32)), .val (.int (4 : Int32)), .val (.int (11 : Int32)), .val (vw 0)] [(.int (0 : Int32))])) _
  exact retI X0 hx hret (hb hby d6_24) hr
set_option maxRecDepth 65536 in
set_option maxHeartbeats 40000000 in
theorem rm_121 (l : Launch) (Z : State) (a0 : Array Value) (hw : ∀ d ∈ tables_1, d.before a0 Z = true) (w : Nat → Addr) (kk : Nat → ClassId) (iw : Nat → Int32) (vw : Nat → Value) (hN : Wd Z w kk iw vw) (ws : List Jvm.Cond)  (h0 : Heap) (O0 : Old Z Z.heap.size h0) :
    Met l Z (⟨s_0, s_10, "(III)I"⟩ : MethodName) (Jvm.Cond.code (⟨s_0, s_10, "(III)I"⟩ : MethodName) jdk_42_method_157_code 3 (some .int)) ws (Rm 1 0 0 15) #[(.int (0 : Int32)), (.int (4 : Int32)), (.int (11 : Int32))] h0 (OQ (some (.int (0 : Int32))) h0 Z.heap.size) := by
  have hN' := hN
  obtain ⟨hS0, hE0, hS1, hE1, hS2, hE2, hI0, hJ0, hR0, hRr0, hEq0⟩ := hN'
  refine own_body (plainFor_of_name pn_3) hisR ?_
  intro p e s m below meth c s₁ hx hby hml hown hnm hret X0 hZ e0
  have N0 := Fr.nil Z.heap.size
  obtain ⟨T1, X1, e1, st1⟩ := getS2 X0 hx hZ hown (host := "") (Or.inl (W hw 28 rfl)) Via.refl e0 (hR0.ext O0.2) (g := (mkF m 3 #[.val (.int (0 : Int32)), .val (.int (4 : Int32)), .val (.int (11 : Int32))] [(.int (11 : Int32)), (.int (4 : Int32)), (.int (0 : Int32))])) rfl (hb hby d5_3)
  obtain ⟨_, _, ⟨T2, L2, k2, n2⟩, -, X2, ⟨Lc2, hQ2, l2, y2, z2⟩, st2⟩ := Jvm.LawKit.callS X1 hx (y := (⟨s_6, s_11, s_5⟩ : MethodName)) hown (mvT hZ (W hw 30 rfl)) (mvT hZ (W hw 31 rfl)) (mvT hZ (W hw 29 rfl)) (mvT hZ (W hw 32 rfl)) (by decide) (backOf (W := 0) (rm_120 l Z a0 hw w kk iw vw hN [] h0 O0) hZ (W hw 32 rfl) (W hw 29 rfl) (by decide) (by decide)) (g := (mkF m 6 #[.val (.int (0 : Int32)), .val (.int (4 : Int32)), .val (.int (11 : Int32))] [(vw 0), (.int (11 : Int32)), (.int (4 : Int32)), (.int (0 : Int32))])) rfl (by rw [hml]; rfl) (argsL := [(.int (0 : Int32)), (.int (4 : Int32)), (.int (11 : Int32)), (vw 0)]) (rest := []) (lenOf pd_2 rfl) rfl (by show 2 * 0 + _ ≤ _; exact Nat.le_of_eq rfl) (hb hby d5_6) (fun _ _ => ⟨rfl, e1, (by decide : 0 + 0 ≤ _), (by decide : 0 + 0 ≤ _)⟩)
  dsimp only [Pt.U, Pt.locs, Pt.cells, Pt.slots] at X2 l2 y2 z2 st2 hQ2
  subst l2 y2 z2
  obtain ⟨rfl, N2q, e2⟩ := hQ2
  have N2 := Fr.app N0 N2q
  refine ⟨T2, some (.int (0 : Int32)), _, _, _, by decide, by decide, X2, nofun, (by rw [e2]; exact ⟨rfl, N2, rfl⟩), fun fs hr => castTop (ef_3 m (.int (0 : Int32)) rfl (.int (4 : Int32)) rfl (.int (11 : Int32)) rfl) ?_⟩
  show Steps p.tables e below (s₁.setTop (mkF m 0 #[.val (.int (0 : Int32)), .val (.int (4 : Int32)), .val (.int (11 : Int32))] [])) _
  refine XS.iloadN X0.here hx rfl (hb hby d5_0) rfl ?_
  refine XS.iloadN X0.here hx rfl (hb hby d5_1) rfl ?_
  refine XS.iloadN X0.here hx rfl (hb hby d5_2) rfl ?_
  refine st1 _ ?_
  refine st2 _ ?_
  show Steps p.tables e below (T2.setTop (mkF m 9 #[.val (.int (0 : Int32)), .val (.int (4 : Int32)), .val (.int (11 : Int32))] [(.int (0 : Int32))])) _
  exact retI X2 hx hret (hb hby d5_9) hr
set_option maxRecDepth 65536 in
set_option maxHeartbeats 40000000 in
theorem rm_122 (l : Launch) (Z : State) (a0 : Array Value) (hw : ∀ d ∈ tables_1, d.before a0 Z = true) (w : Nat → Addr) (kk : Nat → ClassId) (iw : Nat → Int32) (vw : Nat → Value) (hN : Wd Z w kk iw vw) (ws : List Jvm.Cond)  (h0 : Heap) (O0 : Old Z Z.heap.size h0) :
    Met l Z (⟨s_2, "checkLength", "(II)V"⟩ : MethodName) (Jvm.Cond.code (⟨s_2, "checkLength", "(II)V"⟩ : MethodName) jdk_65_method_131_code 2 none) ws (Rm 0 0 0 0) #[(.int (0 : Int32)), (.int (4 : Int32))] h0 (OQ (none) h0 Z.heap.size) := by
  have hN' := hN
  obtain ⟨hS0, hE0, hS1, hE1, hS2, hE2, hI0, hJ0, hR0, hRr0, hEq0⟩ := hN'
  refine own_body (plainFor_of_name pn_4) hisR ?_
  intro p e s m below meth c s₁ hx hby hml hown hnm hret X0 hZ e0
  have N0 := Fr.nil Z.heap.size
  refine ⟨s₁, none, _, _, _, by decide, by decide, X0, (fun _ => rfl), (by rw [e0]; exact ⟨rfl, N0, rfl⟩), fun fs hr => castTop (ef_4 m (.int (0 : Int32)) rfl (.int (4 : Int32)) rfl) ?_⟩
  show Steps p.tables e below (s₁.setTop (mkF m 0 #[.val (.int (0 : Int32)), .val (.int (4 : Int32))] [])) _
  refine XS.iloadN X0.here hx rfl (hb hby d10_0) rfl ?_
  refine XS.iloadN X0.here hx rfl (hb hby d10_1) rfl ?_
  refine XS.icmpYes X0.here hx rfl (pc0 := 2) (pc' := 37) rfl (hb hby d10_2) rfl (flt (by decide : ¬ ((4 : Int32) < (0 : Int32)))).2.1 (by decide) (by decide) ?_
  show Steps p.tables e below (s₁.setTop (mkF m 37 #[.val (.int (0 : Int32)), .val (.int (4 : Int32))] [])) _
  exact X0.returnOut hx hret (hb hby d10_37) hr
theorem lf_57 : ((4 : Int32) - (0 : Int32)) = (4 : Int32) := by decide
set_option maxRecDepth 65536 in
set_option maxHeartbeats 40000000 in
theorem rm_123 (l : Launch) (Z : State) (a0 : Array Value) (hw : ∀ d ∈ tables_1, d.before a0 Z = true) (w : Nat → Addr) (kk : Nat → ClassId) (iw : Nat → Int32) (vw : Nat → Value) (hN : Wd Z w kk iw vw) (ws : List Jvm.Cond)  (h0 : Heap) (O0 : Old Z Z.heap.size h0) :
    Met l Z (⟨s_14, "min", "(II)I"⟩ : MethodName) (Jvm.Cond.code (⟨s_14, "min", "(II)I"⟩ : MethodName) jdk_29_method_69_code 2 (some .int)) ws (Rm 0 0 0 0) #[(.int (11 : Int32)), (.int (4 : Int32))] h0 (OQ (some (.int (4 : Int32))) h0 Z.heap.size) := by
  have hN' := hN
  obtain ⟨hS0, hE0, hS1, hE1, hS2, hE2, hI0, hJ0, hR0, hRr0, hEq0⟩ := hN'
  refine own_body (Jvm.Free.JP.mathPlain rfl (by decide +kernel)) hisR ?_
  intro p e s m below meth c s₁ hx hby hml hown hnm hret X0 hZ e0
  have N0 := Fr.nil Z.heap.size
  refine ⟨s₁, some (.int (4 : Int32)), _, _, _, by decide, by decide, X0, nofun, (by rw [e0]; exact ⟨rfl, N0, rfl⟩), fun fs hr => castTop (ef_4 m (.int (11 : Int32)) rfl (.int (4 : Int32)) rfl) ?_⟩
  show Steps p.tables e below (s₁.setTop (mkF m 0 #[.val (.int (11 : Int32)), .val (.int (4 : Int32))] [])) _
  refine XS.iloadN X0.here hx rfl (hb hby d11_0) rfl ?_
  refine XS.iloadN X0.here hx rfl (hb hby d11_1) rfl ?_
  refine XS.icmpYes X0.here hx rfl (pc0 := 2) (pc' := 9) rfl (hb hby d11_2) rfl (tlt (by decide : (4 : Int32) < (11 : Int32))).2.2.1 (by decide) (by decide) ?_
  refine XS.iloadN X0.here hx rfl (hb hby d11_9) rfl ?_
  show Steps p.tables e below (s₁.setTop (mkF m 10 #[.val (.int (11 : Int32)), .val (.int (4 : Int32))] [(.int (4 : Int32))])) _
  exact retI X0 hx hret (hb hby d11_10) hr
def Qd_36 (Z : State) (w : Nat → Addr) (kk : Nat → ClassId) (iw : Nat → Int32) (vw : Nat → Value) (o1 : Addr) (t0 : Int32) (t1 : Int32) (t2 : Int32) (t3 : Int32) (kc_o1 : ClassId) (h0 : Heap) (n0 : Nat) (v : Option Value) (h : Heap) (L : List Loc) : Prop := ∃ (c1 : Addr) (kc1 : ClassId), v = some (.ref c1) ∧ Fr n0 L ∧ Keep h0 h [] ∧ h0.size ≤ c1 ∧ Exa Z h c1 "[B" ∧ Arv Z h c1 kc1 .byte (4 : Int32) [(.int t0), (.int t1), (.int t2), (.int t3)] (.int (0 : Int32))
set_option maxRecDepth 65536 in
set_option maxHeartbeats 40000000 in
theorem rm_124 (l : Launch) (Z : State) (a0 : Array Value) (hw : ∀ d ∈ tables_1, d.before a0 Z = true) (w : Nat → Addr) (kk : Nat → ClassId) (iw : Nat → Int32) (vw : Nat → Value) (hN : Wd Z w kk iw vw) (ws : List Jvm.Cond) (o1 : Addr) (t0 : Int32) (t1 : Int32) (t2 : Int32) (t3 : Int32) (kc_o1 : ClassId) (h0 : Heap) (O0 : Old Z Z.heap.size h0) (gn_o1 : Z.heap.size ≤ o1) (lt_o1 : o1 < h0.size) (E_o1 : Exa Z h0 o1 "[B") (V_o1 : Arv Z h0 o1 kc_o1 .byte (11 : Int32) [(.int t0), (.int t1), (.int t2), (.int t3)] (.int (0 : Int32))) :
    Met l Z (⟨s_2, s_13, "([BII)[B"⟩ : MethodName) (Jvm.Cond.code (⟨s_2, s_13, "([BII)[B"⟩ : MethodName) jdk_65_method_133_code 5 (some (.array .byte))) ws (Rm 1 1 4 18) #[(.ref o1), (.int (0 : Int32)), (.int (4 : Int32))] h0 (Qd_36 Z w kk iw vw o1 t0 t1 t2 t3 kc_o1 h0 Z.heap.size) := by
  have hN' := hN
  obtain ⟨hS0, hE0, hS1, hE1, hS2, hE2, hI0, hJ0, hR0, hRr0, hEq0⟩ := hN'
  refine own_body (plainFor_of_name pn_4) hisR ?_
  intro p e s m below meth c s₁ hx hby hml hown hnm hret X0 hZ e0
  have N0 := Fr.nil Z.heap.size
  have K0 : Keep h0 h0 [] := Keep.refl _ _
  obtain ⟨_, _, ⟨T1, L1, k1, n1⟩, -, X1, ⟨Lc1, hQ1, l1, y1, z1⟩, st1⟩ := Jvm.LawKit.callS X0 hx (y := (⟨s_2, "checkLength", "(II)V"⟩ : MethodName)) hown (mvT hZ (W hw 52 rfl)) (mvT hZ (W hw 53 rfl)) (mvT hZ (W hw 47 rfl)) (mvT hZ (W hw 54 rfl)) (by decide) (backOf (W := 0) (rm_122 l Z a0 hw w kk iw vw hN [] h0 O0) hZ (W hw 54 rfl) (W hw 47 rfl) (by decide) (by decide)) (g := (mkF m 2 #[.val (.ref o1), .val (.int (0 : Int32)), .val (.int (4 : Int32)), .unset, .unset] [(.int (4 : Int32)), (.int (0 : Int32))])) rfl (by rw [hml]; rfl) (argsL := [(.int (0 : Int32)), (.int (4 : Int32))]) (rest := []) (lenOf pd_4 rfl) rfl (by show 2 * 0 + _ ≤ _; exact Nat.le_of_eq rfl) (hb hby d9_2) (fun _ _ => ⟨rfl, e0, (by decide : 0 + 0 ≤ _), (by decide : 0 + 0 ≤ _)⟩)
  dsimp only [Pt.U, Pt.locs, Pt.cells, Pt.slots] at X1 l1 y1 z1 st1 hQ1
  subst l1 y1 z1
  obtain ⟨rfl, N1q, e1⟩ := hQ1
  have N1 := Fr.app N0 N1q
  obtain ⟨T2, h2, k2, X2, e2, E2, A2, AE2, st2⟩ := newPE X1 hx hZ (W hw 4 rfl) e1 (g := (mkF m 10 #[.val (.ref o1), .val (.int (0 : Int32)), .val (.int (4 : Int32)), .val (.int (4 : Int32)), .unset] [(.int (4 : Int32))])) rfl (hb hby d9_10) rfl (by decide) (cap := 4) (by decide) (by decide) (by decide) (by decide) (ad := "[B") rfl
  obtain ⟨b2, g2⟩ : ∃ z, z = h0.size := ⟨_, rfl⟩
  rw [← g2] at A2 st2 AE2
  have gn_b2 : Z.heap.size ≤ b2 := Nat.le_trans O0.2.1 (Nat.le_of_eq g2.symm)
  have sz_b2 : h0.size ≤ b2 := Nat.le_trans K0.1 (Nat.le_of_eq g2.symm)
  have ne_o1_b2 : o1 ≠ b2 := Nat.ne_of_lt (Nat.lt_of_lt_of_le E_o1.lt (Nat.le_of_eq g2.symm))
  have E_o1_v2 := E_o1.ext E2
  have V_o1_v2 := V_o1.ext E2
  have O2 := O0.ext E2
  have K2 := K0.ext E2
  have E_b2_v2 := AE2
  have V_b2_v2 : Arv Z h2 b2 k2 .byte (4 : Int32) [] (.int (0 : Int32)) := Arv.new A2 (by decide)
  obtain ⟨cl3, Ar3, q3, Sz3, Ng3, Hv3, Gv3⟩ := id V_o1_v2
  obtain ⟨_, _, ⟨T4, L4, k4, n4⟩, -, X4, ⟨Lc4, hQ4, l4, y4, z4⟩, st4⟩ := Jvm.LawKit.callS X2 hx (y := (⟨s_14, "min", "(II)I"⟩ : MethodName)) hown (mvT hZ (W hw 55 rfl)) (mvT hZ (W hw 56 rfl)) (mvT hZ (W hw 57 rfl)) (mvT hZ (W hw 58 rfl)) (by decide) (backOf (W := 4) (rm_123 l Z a0 hw w kk iw vw hN [] h2 O2) hZ (W hw 58 rfl) (W hw 57 rfl) (by decide) (by decide)) (g := (mkF m 24 #[.val (.ref o1), .val (.int (0 : Int32)), .val (.int (4 : Int32)), .val (.int (4 : Int32)), .val (.ref b2)] [(.int (4 : Int32)), (.int (11 : Int32)), (.int (0 : Int32)), (.ref b2), (.int (0 : Int32)), (.ref o1)])) rfl (by rw [hml]; rfl) (argsL := [(.int (11 : Int32)), (.int (4 : Int32))]) (rest := [(.int (0 : Int32)), (.ref b2), (.int (0 : Int32)), (.ref o1)]) (lenOf pd_5 rfl) rfl (by show 2 * 0 + _ ≤ _; exact Nat.le_of_eq rfl) (hb hby d9_24) (fun _ _ => ⟨rfl, e2, (by decide : 1 + 0 ≤ _), (by decide : 4 + 0 ≤ _)⟩)
  dsimp only [Pt.U, Pt.locs, Pt.cells, Pt.slots] at X4 l4 y4 z4 st4 hQ4
  subst l4 y4 z4
  obtain ⟨rfl, N4q, e4⟩ := hQ4
  have N4 := Fr.app N1 N4q
  have V_b2_v5 : Arv Z h2 b2 k2 .byte (4 : Int32) [(.int (0 : Int32)), (.int (0 : Int32)), (.int (0 : Int32)), (.int (0 : Int32))] (.int (0 : Int32)) := V_b2_v2.pad (pad_rep [] (.int (0 : Int32)) 4)
  obtain ⟨T6, h6, L6, X6, e6, N6, Kq6, Vc6, st6⟩ := cpA X4 hx hZ hown (W hw 59 rfl) (W hw 62 rfl) (W hw 60 rfl) (W hw 61 rfl) e4 V_o1_v2 V_b2_v5 (us := [(.int t0), (.int t1), (.int t2), (.int t3)]) (Or.inl ⟨rfl, rfl⟩) (by decide) (by decide) (by decide) (by decide) (by decide) rfl (by decide) N4 gn_b2 (g := (mkF m 27 #[.val (.ref o1), .val (.int (0 : Int32)), .val (.int (4 : Int32)), .val (.int (4 : Int32)), .val (.ref b2)] [(.int (4 : Int32)), (.int (0 : Int32)), (.ref b2), (.int (0 : Int32)), (.ref o1)])) rfl (by rw [hml]; rfl) rfl (hb hby d9_27) (by decide) (W := 0) (by show 2 * 0 + _ ≤ _; exact Nat.le_of_eq rfl) (by decide)
  have E_o1_v6 := E_o1_v2.keep Kq6
  have V_o1_v6 := V_o1_v2.keep Kq6 (ninS ne_o1_b2 nin0)
  have E_b2_v6 := E_b2_v2.keep Kq6
  have O6 := O2.keep Kq6 (allS gn_b2 all0)
  have K6 : Keep h0 h6 [] := K2.trans Kq6 (allS (Or.inr sz_b2) all0)
  have V_b2_v6 : Arv Z h6 b2 k2 .byte (4 : Int32) [(.int t0), (.int t1), (.int t2), (.int t3)] (.int (0 : Int32)) := Vc6
  refine ⟨T6, some (.ref b2), _, _, _, by decide, by decide, X6, nofun, (by rw [e6]; exact ⟨b2, k2, rfl, N6, K6, sz_b2, E_b2_v6, V_b2_v6⟩), fun fs hr => castTop (ef_5 m (.ref o1) rfl (.int (0 : Int32)) rfl (.int (4 : Int32)) rfl) ?_⟩
  show Steps p.tables e below (s₁.setTop (mkF m 0 #[.val (.ref o1), .val (.int (0 : Int32)), .val (.int (4 : Int32)), .unset, .unset] [])) _
  refine XS.iloadN X0.here hx rfl (hb hby d9_0) rfl ?_
  refine XS.iloadN X0.here hx rfl (hb hby d9_1) rfl ?_
  refine st1 _ ?_
  refine XS.iloadN X1.here hx rfl (hb hby d9_5) rfl ?_
  refine XS.iloadN X1.here hx rfl (hb hby d9_6) rfl ?_
  refine XS.isub X1.here hx rfl (hb hby d9_7) rfl ?_
  show Steps p.tables e below (T1.setTop (mkF m 8 #[.val (.ref o1), .val (.int (0 : Int32)), .val (.int (4 : Int32)), .unset, .unset] [(.int ((4 : Int32) - (0 : Int32)))])) _
  rw [lf_57]
  refine XS.istoreN X1.here hx rfl (hb hby d9_8) rfl (l' := #[.val (.ref o1), .val (.int (0 : Int32)), .val (.int (4 : Int32)), .val (.int (4 : Int32)), .unset]) rfl ?_
  refine XS.iloadN X1.here hx rfl (hb hby d9_9) rfl ?_
  refine st2 _ ?_
  refine XS.astore X2.here hx rfl (hb hby d9_12) rfl rfl (l' := #[.val (.ref o1), .val (.int (0 : Int32)), .val (.int (4 : Int32)), .val (.int (4 : Int32)), .val (.ref b2)]) rfl ?_
  show Steps p.tables e below (T2.setTop (mkF m 14 #[.val (.ref o1), .val (.int (0 : Int32)), .val (.int (4 : Int32)), .val (.int (4 : Int32)), .val (.ref b2)] [])) _
  refine XS.aloadN X2.here hx rfl (hb hby d9_14) rfl rfl ?_
  refine XS.iloadN X2.here hx rfl (hb hby d9_15) rfl ?_
  refine XS.aload X2.here hx rfl (hb hby d9_16) rfl rfl ?_
  refine XS.iconst X2.here hx rfl (hb hby d9_18) ?_
  refine XS.aloadN X2.here hx rfl (hb hby d9_19) rfl rfl ?_
  refine X2.arraylength hx (by rw [e2]; exact Ar3.1) (State.isArrayOf_alike hZ.alike Ar3.2.1) (g := (mkF m 20 #[.val (.ref o1), .val (.int (0 : Int32)), .val (.int (4 : Int32)), .val (.int (4 : Int32)), .val (.ref b2)] [(.ref o1), (.int (0 : Int32)), (.ref b2), (.int (0 : Int32)), (.ref o1)])) rfl rfl (hb hby d9_20) _ ?_
  rw [len_of Sz3 Ng3]
  refine XS.iloadN X2.here hx rfl (hb hby d9_21) rfl ?_
  refine XS.isub X2.here hx rfl (hb hby d9_22) rfl ?_
  show Steps p.tables e below (T2.setTop (mkF m 23 #[.val (.ref o1), .val (.int (0 : Int32)), .val (.int (4 : Int32)), .val (.int (4 : Int32)), .val (.ref b2)] [(.int ((11 : Int32) - (0 : Int32))), (.int (0 : Int32)), (.ref b2), (.int (0 : Int32)), (.ref o1)])) _
  rw [lf_8]
  refine XS.iloadN X2.here hx rfl (hb hby d9_23) rfl ?_
  refine st4 _ ?_
  show Steps p.tables e below (T4.setTop (mkF m 27 #[.val (.ref o1), .val (.int (0 : Int32)), .val (.int (4 : Int32)), .val (.int (4 : Int32)), .val (.ref b2)] [(.int (4 : Int32)), (.int (0 : Int32)), (.ref b2), (.int (0 : Int32)), (.ref o1)])) _
  refine st6 _ ?_
  refine XS.aload X6.here hx rfl (hb hby d9_30) rfl rfl ?_
  show Steps p.tables e below (T6.setTop (mkF m 32 #[.val (.ref o1), .val (.int (0 : Int32)), .val (.int (4 : Int32)), .val (.int (4 : Int32)), .val (.ref b2)] [(.ref b2)])) _
  exact retOut X6 hx hret rfl (Or.inr (Or.inr (Or.inr (Or.inr ⟨rfl, rfl, rfl⟩)))) (hb hby d9_32) hr
set_option maxRecDepth 65536 in
set_option maxHeartbeats 40000000 in
theorem rm_125 (l : Launch) (Z : State) (a0 : Array Value) (hw : ∀ d ∈ tables_1, d.before a0 Z = true) (w : Nat → Addr) (kk : Nat → ClassId) (iw : Nat → Int32) (vw : Nat → Value) (hN : Wd Z w kk iw vw) (ws : List Jvm.Cond) (o1 : Addr) (t0 : Int32) (t1 : Int32) (t2 : Int32) (t3 : Int32) (kc_o1 : ClassId) (h0 : Heap) (O0 : Old Z Z.heap.size h0) (gn_o1 : Z.heap.size ≤ o1) (lt_o1 : o1 < h0.size) (E_o1 : Exa Z h0 o1 "[B") (V_o1 : Arv Z h0 o1 kc_o1 .byte (11 : Int32) [(.int t0), (.int t1), (.int t2), (.int t3)] (.int (0 : Int32))) :
    Met l Z (⟨s_2, "copyOfRange", "([BII)[B"⟩ : MethodName) (Jvm.Cond.code (⟨s_2, "copyOfRange", "([BII)[B"⟩ : MethodName) jdk_65_method_132_code 3 (some (.array .byte))) ws (Rm 2 1 4 34) #[(.ref o1), (.int (0 : Int32)), (.int (4 : Int32))] h0 (Qd_36 Z w kk iw vw o1 t0 t1 t2 t3 kc_o1 h0 Z.heap.size) := by
  have hN' := hN
  obtain ⟨hS0, hE0, hS1, hE1, hS2, hE2, hI0, hJ0, hR0, hRr0, hEq0⟩ := hN'
  refine own_body (plainFor_of_name pn_4) hisR ?_
  intro p e s m below meth c s₁ hx hby hml hown hnm hret X0 hZ e0
  have N0 := Fr.nil Z.heap.size
  have K0 : Keep h0 h0 [] := Keep.refl _ _
  obtain ⟨cl1, Ar1, q1, Sz1, Ng1, Hv1, Gv1⟩ := id V_o1
  obtain ⟨_, _, ⟨T2, L2, k2, n2⟩, -, X2, ⟨Lc2, hQ2, l2, y2, z2⟩, st2⟩ := Jvm.LawKit.callS X0 hx (y := (⟨s_2, s_13, "([BII)[B"⟩ : MethodName)) hown (mvT hZ (W hw 49 rfl)) (mvT hZ (W hw 50 rfl)) (mvT hZ (W hw 47 rfl)) (mvT hZ (W hw 51 rfl)) (by decide) (backOf (W := 0) (rm_124 l Z a0 hw w kk iw vw hN [] o1 t0 t1 t2 t3 kc_o1 h0 O0 gn_o1 E_o1.lt E_o1 V_o1) hZ (W hw 51 rfl) (W hw 47 rfl) (by decide) (by decide)) (g := (mkF m 13 #[.val (.ref o1), .val (.int (0 : Int32)), .val (.int (4 : Int32))] [(.int (4 : Int32)), (.int (0 : Int32)), (.ref o1)])) rfl (by rw [hml]; rfl) (argsL := [(.ref o1), (.int (0 : Int32)), (.int (4 : Int32))]) (rest := []) (lenOf pd_6 rfl) rfl (by show 2 * 0 + _ ≤ _; exact Nat.le_of_eq rfl) (hb hby d8_13) (fun _ _ => ⟨rfl, e0, (by decide : 0 + 1 ≤ _), (by decide : 0 + 4 ≤ _)⟩)
  dsimp only [Pt.U, Pt.locs, Pt.cells, Pt.slots] at X2 l2 y2 z2 st2 hQ2
  subst l2 y2 z2
  obtain ⟨b2_0, kb2_0, rfl, N2q, Kq2, tk2_0, tk2_1, tk2_2⟩ := hQ2
  have N2 := Fr.app N0 N2q
  have gn_b2_0 : Z.heap.size ≤ b2_0 := Nat.le_trans O0.2.1 tk2_0
  have sz_b2_0 : h0.size ≤ b2_0 := Nat.le_trans K0.1 tk2_0
  have ne_o1_b2_0 : o1 ≠ b2_0 := Nat.ne_of_lt (Nat.lt_of_lt_of_le E_o1.lt tk2_0)
  have E_o1_v2 := E_o1.keep Kq2
  have V_o1_v2 := V_o1.keep Kq2 nin0
  have O2 := O0.keep Kq2 all0
  have K2 : Keep h0 T2.heap [] := K0.trans Kq2 all0
  refine ⟨T2, some (.ref b2_0), _, _, _, by decide, by decide, X2, nofun, ⟨b2_0, kb2_0, rfl, N2, K2, sz_b2_0, tk2_1, tk2_2⟩, fun fs hr => castTop (ef_6 m (.ref o1) rfl (.int (0 : Int32)) rfl (.int (4 : Int32)) rfl) ?_⟩
  show Steps p.tables e below (s₁.setTop (mkF m 0 #[.val (.ref o1), .val (.int (0 : Int32)), .val (.int (4 : Int32))] [])) _
  refine XS.iloadN X0.here hx rfl (hb hby d8_0) rfl ?_
  refine XS.ifNo X0.here hx rfl (hb hby d8_1) rfl ((if0 _ _).trans (teq (by decide : (0 : Int32) = (0 : Int32))).2) ?_
  refine XS.iloadN X0.here hx rfl (hb hby d8_4) rfl ?_
  refine XS.aloadN X0.here hx rfl (hb hby d8_5) rfl rfl ?_
  refine X0.arraylength hx (by rw [e0]; exact Ar1.1) (State.isArrayOf_alike hZ.alike Ar1.2.1) (g := (mkF m 6 #[.val (.ref o1), .val (.int (0 : Int32)), .val (.int (4 : Int32))] [(.ref o1), (.int (4 : Int32))])) rfl rfl (hb hby d8_6) _ ?_
  rw [len_of Sz1 Ng1]
  refine XS.icmpNo X0.here hx rfl (hb hby d8_7) rfl (feq (by decide : ¬ ((4 : Int32) = (11 : Int32)))).1 ?_
  refine XS.aloadN X0.here hx rfl (hb hby d8_10) rfl rfl ?_
  refine XS.iloadN X0.here hx rfl (hb hby d8_11) rfl ?_
  refine XS.iloadN X0.here hx rfl (hb hby d8_12) rfl ?_
  refine st2 _ ?_
  show Steps p.tables e below (T2.setTop (mkF m 16 #[.val (.ref o1), .val (.int (0 : Int32)), .val (.int (4 : Int32))] [(.ref b2_0)])) _
  exact retOut X2 hx hret rfl (Or.inr (Or.inr (Or.inr (Or.inr ⟨rfl, rfl, rfl⟩)))) (hb hby d8_16) hr
def Qd_37 (Z : State) (w : Nat → Addr) (kk : Nat → ClassId) (iw : Nat → Int32) (vw : Nat → Value) (o1 : Addr) (o2 : Addr) (t0 : Int32) (t1 : Int32) (t2 : Int32) (t3 : Int32) (kc_o2 : ClassId) (h0 : Heap) (n0 : Nat) (v : Option Value) (h : Heap) (L : List Loc) : Prop := ∃ (c1 : Addr) (kc1 : ClassId), v = none ∧ Fr n0 L ∧ Keep h0 h [o1] ∧ h0.size ≤ c1 ∧ Exa Z h o1 s_0 ∧ Fld Z h o1 s_0 "value" "[B" (.ref c1) ∧ Fld Z h o1 s_0 "coder" "B" (.int (0 : Int32)) ∧ Exa Z h c1 "[B" ∧ Arv Z h c1 kc1 .byte (4 : Int32) [(.int t0), (.int t1), (.int t2), (.int t3)] (.int (0 : Int32))
set_option maxRecDepth 65536 in
set_option maxHeartbeats 40000000 in
theorem rm_126 (l : Launch) (Z : State) (a0 : Array Value) (hw : ∀ d ∈ tables_1, d.before a0 Z = true) (w : Nat → Addr) (kk : Nat → ClassId) (iw : Nat → Int32) (vw : Nat → Value) (hN : Wd Z w kk iw vw) (ws : List Jvm.Cond) (o1 : Addr) (o2 : Addr) (t0 : Int32) (t1 : Int32) (t2 : Int32) (t3 : Int32) (kc_o2 : ClassId) (h0 : Heap) (O0 : Old Z Z.heap.size h0) (gn_o1 : Z.heap.size ≤ o1) (lt_o1 : o1 < h0.size) (gn_o2 : Z.heap.size ≤ o2) (lt_o2 : o2 < h0.size) (E_o1 : Exa Z h0 o1 s_0) (F_o1_value : Fld Z h0 o1 s_0 "value" "[B" .null) (F_o1_coder : Fld Z h0 o1 s_0 "coder" "B" (.int (0 : Int32))) (E_o2 : Exa Z h0 o2 "[B") (V_o2 : Arv Z h0 o2 kc_o2 .byte (11 : Int32) [(.int t0), (.int t1), (.int t2), (.int t3)] (.int (0 : Int32))) (ne_o1_o2 : o1 ≠ o2) :
    Met l Z (⟨s_0, "<init>", s_7⟩ : MethodName) (Jvm.Cond.codeWith (⟨s_0, "<init>", s_7⟩ : MethodName) jdk_42_method_11_code 11 none [(800, 813, 816, 202)]) ws (Rm 3 1 4 49) #[(.ref o1), (.ref (w 0)), (.ref o2), (.int (0 : Int32)), (.int (4 : Int32))] h0 (Qd_37 Z w kk iw vw o1 o2 t0 t1 t2 t3 kc_o2 h0 Z.heap.size) := by
  have hN' := hN
  obtain ⟨hS0, hE0, hS1, hE1, hS2, hE2, hI0, hJ0, hR0, hRr0, hEq0⟩ := hN'
  refine own_body (plainFor_of_name pn_3) hisWith ?_
  intro p e s m below meth c s₁ hx hby hml hown hnm hret X0 hZ e0
  have N0 := Fr.nil Z.heap.size
  have K0 : Keep h0 h0 [o1] := Keep.refl _ _
  obtain ⟨T1, X1, e1, st1⟩ := initO X0 hx hZ hown (W hw 37 rfl) (W hw 38 rfl) (W hw 39 rfl) e0 (g := (mkF m 1 #[.val (.ref o1), .val (.ref (w 0)), .val (.ref o2), .val (.int (0 : Int32)), .val (.int (4 : Int32)), .unset, .unset, .unset, .unset, .unset, .unset] [(.ref o1)])) rfl (by rw [hml]; rfl) rfl (hb hby d7_1) (by decide) (W := 0) (by show 2 * 0 + _ ≤ _; exact Nat.le_of_eq rfl) (by decide)
  obtain ⟨T2, X2, e2, st2⟩ := getS2 X1 hx hZ hown (host := "") (Or.inl (W hw 40 rfl)) Via.refl e1 (hS1.ext O0.2) (g := (mkF m 31 #[.val (.ref o1), .val (.ref (w 0)), .val (.ref o2), .val (.int (0 : Int32)), .val (.int (4 : Int32)), .unset, .unset, .unset, .unset, .unset, .unset] [(.ref (w 0))])) rfl (hb hby d7_31)
  obtain ⟨T3, X3, e3, st3⟩ := getS2 X2 hx hZ hown (host := "") (Or.inl (W hw 42 rfl)) Via.refl e2 (hS2.ext O0.2) (g := (mkF m 347 #[.val (.ref o1), .val (.ref (w 0)), .val (.ref o2), .val (.int (0 : Int32)), .val (.int (4 : Int32)), .unset, .unset, .unset, .unset, .unset, .unset] [(.ref (w 0))])) rfl (hb hby d7_347)
  obtain ⟨T4, X4, e4, st4⟩ := getS2 X3 hx hZ hown (host := "") (Or.inl (W hw 44 rfl)) Via.refl e3 (hI0.ext O0.2) (g := (mkF m 353 #[.val (.ref o1), .val (.ref (w 0)), .val (.ref o2), .val (.int (0 : Int32)), .val (.int (4 : Int32)), .unset, .unset, .unset, .unset, .unset, .unset] [])) rfl (hb hby d7_353)
  obtain ⟨_, _, ⟨T5, L5, k5, n5⟩, -, X5, ⟨Lc5, hQ5, l5, y5, z5⟩, st5⟩ := Jvm.LawKit.callS X4 hx (y := (⟨s_2, "copyOfRange", "([BII)[B"⟩ : MethodName)) hown (mvT hZ (W hw 45 rfl)) (mvT hZ (W hw 46 rfl)) (mvT hZ (W hw 47 rfl)) (mvT hZ (W hw 48 rfl)) (by decide) (backOf (W := 1) (rm_125 l Z a0 hw w kk iw vw hN [] o2 t0 t1 t2 t3 kc_o2 h0 O0 gn_o2 E_o2.lt E_o2 V_o2) hZ (W hw 48 rfl) (W hw 47 rfl) (by decide) (by decide)) (g := (mkF m 366 #[.val (.ref o1), .val (.ref (w 0)), .val (.ref o2), .val (.int (0 : Int32)), .val (.int (4 : Int32)), .unset, .unset, .unset, .unset, .unset, .unset] [(.int (4 : Int32)), (.int (0 : Int32)), (.ref o2), (.ref o1)])) rfl (by rw [hml]; rfl) (argsL := [(.ref o2), (.int (0 : Int32)), (.int (4 : Int32))]) (rest := [(.ref o1)]) (lenOf pd_6 rfl) rfl (by show 2 * 0 + _ ≤ _; exact Nat.le_of_eq rfl) (hb hby d7_366) (fun _ _ => ⟨rfl, e4, (by decide : 0 + 1 ≤ _), (by decide : 0 + 4 ≤ _)⟩)
  dsimp only [Pt.U, Pt.locs, Pt.cells, Pt.slots] at X5 l5 y5 z5 st5 hQ5
  subst l5 y5 z5
  obtain ⟨b5_0, kb5_0, rfl, N5q, Kq5, tk5_0, tk5_1, tk5_2⟩ := hQ5
  have N5 := Fr.app N0 N5q
  have gn_b5_0 : Z.heap.size ≤ b5_0 := Nat.le_trans O0.2.1 tk5_0
  have sz_b5_0 : h0.size ≤ b5_0 := Nat.le_trans K0.1 tk5_0
  have ne_o2_b5_0 : o2 ≠ b5_0 := Nat.ne_of_lt (Nat.lt_of_lt_of_le E_o2.lt tk5_0)
  have ne_o1_b5_0 : o1 ≠ b5_0 := Nat.ne_of_lt (Nat.lt_of_lt_of_le E_o1.lt tk5_0)
  have E_o1_v5 := E_o1.keep Kq5
  have F_o1_value_v5 := F_o1_value.keep Kq5 nin0
  have F_o1_coder_v5 := F_o1_coder.keep Kq5 nin0
  have E_o2_v5 := E_o2.keep Kq5
  have V_o2_v5 := V_o2.keep Kq5 nin0
  have O5 := O0.keep Kq5 all0
  have K5 : Keep h0 T5.heap [o1] := K0.trans Kq5 all0
  obtain ⟨T6, h6, X6, e6, W6, st6⟩ := putF X5 hx hZ hown (host := "") (Or.inl (W hw 63 rfl)) Via.refl rfl F_o1_value_v5 E_o1_v5 (Or.inr ⟨(W hw 64 rfl), rfl, hnm⟩) (W hw 12 rfl) (ty := (.array .byte)) (by decide) rfl rfl (g := (mkF m 369 #[.val (.ref o1), .val (.ref (w 0)), .val (.ref o2), .val (.int (0 : Int32)), .val (.int (4 : Int32)), .unset, .unset, .unset, .unset, .unset, .unset] [(.ref b5_0), (.ref o1)])) rfl rfl (hb hby d7_369)
  have F_o1_value_v6 := F_o1_value_v5.same W6
  have N6 := Fr.snoc X6 N5 gn_o1
  have E_o1_v6 := E_o1_v5.wr W6
  have F_o1_coder_v6 := F_o1_coder_v5.other W6 (Or.inr (sn_0 hw))
  have E_o2_v6 := E_o2_v5.wr W6
  have V_o2_v6 := V_o2_v5.other W6 (Ne.symm ne_o1_o2)
  have tk5_1_v6 := tk5_1.wr W6
  have tk5_2_v6 := tk5_2.other W6 (Ne.symm ne_o1_b5_0)
  have O6 := O5.wr W6 gn_o1
  have K6 : Keep h0 h6 [o1] := K5.wr W6 (Or.inl (List.mem_of_getElem? (i := 0) rfl))
  obtain ⟨T7, h7, X7, e7, W7, st7⟩ := putFN X6 hx hZ hown (W hw 65 rfl) Via.refl e6 F_o1_coder_v6 E_o1_v6 (Or.inr ⟨(W hw 66 rfl), rfl, hnm⟩) (W hw 12 rfl) (ty := .byte) (v' := (.int (0 : Int32))) (by decide) rfl rfl (g := (mkF m 374 #[.val (.ref o1), .val (.ref (w 0)), .val (.ref o2), .val (.int (0 : Int32)), .val (.int (4 : Int32)), .unset, .unset, .unset, .unset, .unset, .unset] [(.int (0 : Int32)), (.ref o1)])) rfl rfl (hb hby d7_374)
  have F_o1_coder_v7 := F_o1_coder_v6.same W7
  have N7 := Fr.snoc X7 N6 gn_o1
  have E_o1_v7 := E_o1_v6.wr W7
  have F_o1_value_v7 := F_o1_value_v6.other W7 (Or.inr (sn_1 hw))
  have E_o2_v7 := E_o2_v6.wr W7
  have V_o2_v7 := V_o2_v6.other W7 (Ne.symm ne_o1_o2)
  have tk5_1_v7 := tk5_1_v6.wr W7
  have tk5_2_v7 := tk5_2_v6.other W7 (Ne.symm ne_o1_b5_0)
  have O7 := O6.wr W7 gn_o1
  have K7 : Keep h0 h7 [o1] := K6.wr W7 (Or.inl (List.mem_of_getElem? (i := 0) rfl))
  refine ⟨T7, none, _, _, _, by decide, by decide, X7, (fun _ => rfl), (by rw [e7]; exact ⟨b5_0, kb5_0, rfl, N7, K7, sz_b5_0, E_o1_v7, F_o1_value_v7, F_o1_coder_v7, tk5_1_v7, tk5_2_v7⟩), fun fs hr => castTop (ef_7 m (.ref o1) rfl (.ref (w 0)) rfl (.ref o2) rfl (.int (0 : Int32)) rfl (.int (4 : Int32)) rfl) ?_⟩
  show Steps p.tables e below (s₁.setTop (mkF m 0 #[.val (.ref o1), .val (.ref (w 0)), .val (.ref o2), .val (.int (0 : Int32)), .val (.int (4 : Int32)), .unset, .unset, .unset, .unset, .unset, .unset] [])) _
  refine XS.aloadN X0.here hx rfl (hb hby d7_0) rfl rfl ?_
  refine st1 _ ?_
  refine XS.iload X1.here hx rfl (hb hby d7_4) rfl ?_
  refine XS.ifYes X1.here hx rfl (pc0 := 6) (pc' := 30) rfl (hb hby d7_6) rfl ((if0 _ _).trans (feq (by decide : ¬ ((4 : Int32) = (0 : Int32)))).2) (by decide) (by decide) ?_
  refine XS.aloadN X1.here hx rfl (hb hby d7_30) rfl rfl ?_
  refine st2 _ ?_
  refine Jvm.RoadKit.acmp (g := (mkF m 34 #[.val (.ref o1), .val (.ref (w 0)), .val (.ref o2), .val (.int (0 : Int32)), .val (.int (4 : Int32)), .unset, .unset, .unset, .unset, .unset, .unset] [(.ref (w 1)), (.ref (w 0))])) X2 hx rfl rfl rfl (pc0 := 34) (pc' := 346) (same := false) rfl (hb hby d7_34) rfl (decide_eq_false fun q => (ne_exa hE0 hE1 (by decide)) (Value.ref.inj q)) (by decide) (by decide) ?_
  refine XS.aloadN X2.here hx rfl (hb hby d7_346) rfl rfl ?_
  refine st3 _ ?_
  refine Jvm.RoadKit.acmp (g := (mkF m 350 #[.val (.ref o1), .val (.ref (w 0)), .val (.ref o2), .val (.int (0 : Int32)), .val (.int (4 : Int32)), .unset, .unset, .unset, .unset, .unset, .unset] [(.ref (w 2)), (.ref (w 0))])) X3 hx rfl rfl rfl (pc0 := 350) (pc' := 353) (same := true) rfl (hb hby d7_350) rfl (decide_eq_true (congrArg Value.ref hEq0)) (by decide) (by decide) ?_
  show Steps p.tables e below (T3.setTop (mkF m 353 #[.val (.ref o1), .val (.ref (w 0)), .val (.ref o2), .val (.int (0 : Int32)), .val (.int (4 : Int32)), .unset, .unset, .unset, .unset, .unset, .unset] [])) _
  refine st4 _ ?_
  refine XS.ifNo X4.here hx rfl (hb hby d7_356) rfl ((if0 _ _).trans (feq hJ0).1) ?_
  refine XS.aloadN X4.here hx rfl (hb hby d7_359) rfl rfl ?_
  refine XS.aloadN X4.here hx rfl (hb hby d7_360) rfl rfl ?_
  refine XS.iloadN X4.here hx rfl (hb hby d7_361) rfl ?_
  refine XS.iloadN X4.here hx rfl (hb hby d7_362) rfl ?_
  refine XS.iload X4.here hx rfl (hb hby d7_363) rfl ?_
  refine XS.iadd X4.here hx rfl (hb hby d7_365) rfl ?_
  show Steps p.tables e below (T4.setTop (mkF m 366 #[.val (.ref o1), .val (.ref (w 0)), .val (.ref o2), .val (.int (0 : Int32)), .val (.int (4 : Int32)), .unset, .unset, .unset, .unset, .unset, .unset] [(.int ((0 : Int32) + (4 : Int32))), (.int (0 : Int32)), (.ref o2), (.ref o1)])) _
  rw [lf_53]
  refine st5 _ ?_
  refine st6 _ ?_
  show Steps p.tables e below (T6.setTop (mkF m 372 #[.val (.ref o1), .val (.ref (w 0)), .val (.ref o2), .val (.int (0 : Int32)), .val (.int (4 : Int32)), .unset, .unset, .unset, .unset, .unset, .unset] [])) _
  refine XS.aloadN X6.here hx rfl (hb hby d7_372) rfl rfl ?_
  refine XS.iconst X6.here hx rfl (hb hby d7_373) ?_
  refine st7 _ ?_
  refine XS.goto X7.here hx rfl (pc0 := 377) (pc' := 879) rfl (hb hby d7_377) (by decide) (by decide) ?_
  show Steps p.tables e below (T7.setTop (mkF m 879 #[.val (.ref o1), .val (.ref (w 0)), .val (.ref o2), .val (.int (0 : Int32)), .val (.int (4 : Int32)), .unset, .unset, .unset, .unset, .unset, .unset] [])) _
  exact X7.returnOut hx hret (hb hby d7_879) hr
set_option maxRecDepth 65536 in
set_option maxHeartbeats 40000000 in
theorem rm_127 (l : Launch) (Z : State) (a0 : Array Value) (hw : ∀ d ∈ tables_1, d.before a0 Z = true) (w : Nat → Addr) (kk : Nat → ClassId) (iw : Nat → Int32) (vw : Nat → Value) (hN : Wd Z w kk iw vw) (ws : List Jvm.Cond) (o1 : Addr) (o2 : Addr) (t0 : Int32) (t1 : Int32) (t2 : Int32) (t3 : Int32) (kc_o2 : ClassId) (h0 : Heap) (O0 : Old Z Z.heap.size h0) (gn_o1 : Z.heap.size ≤ o1) (lt_o1 : o1 < h0.size) (gn_o2 : Z.heap.size ≤ o2) (lt_o2 : o2 < h0.size) (E_o1 : Exa Z h0 o1 s_0) (F_o1_value : Fld Z h0 o1 s_0 "value" "[B" .null) (F_o1_coder : Fld Z h0 o1 s_0 "coder" "B" (.int (0 : Int32))) (E_o2 : Exa Z h0 o2 "[B") (V_o2 : Arv Z h0 o2 kc_o2 .byte (11 : Int32) [(.int t0), (.int t1), (.int t2), (.int t3)] (.int (0 : Int32))) (ne_o1_o2 : o1 ≠ o2) :
    Met l Z (⟨s_0, "<init>", s_8⟩ : MethodName) (Jvm.Cond.code (⟨s_0, "<init>", s_8⟩ : MethodName) jdk_42_method_10_code 5 none) ws (Rm 4 1 4 71) #[(.ref o1), (.ref o2), (.int (0 : Int32)), (.int (4 : Int32)), (.ref (w 0))] h0 (Qd_37 Z w kk iw vw o1 o2 t0 t1 t2 t3 kc_o2 h0 Z.heap.size) := by
  have hN' := hN
  obtain ⟨hS0, hE0, hS1, hE1, hS2, hE2, hI0, hJ0, hR0, hRr0, hEq0⟩ := hN'
  refine own_body (plainFor_of_name pn_3) hisR ?_
  intro p e s m below meth c s₁ hx hby hml hown hnm hret X0 hZ e0
  have N0 := Fr.nil Z.heap.size
  have K0 : Keep h0 h0 [o1] := Keep.refl _ _
  obtain ⟨_, _, ⟨T1, L1, k1, n1⟩, -, X1, ⟨Lc1, hQ1, l1, y1, z1⟩, st1⟩ := Jvm.LawKit.callS X0 hx (y := (⟨s_16, s_17, s_12⟩ : MethodName)) hown (mvT hZ (W hw 19 rfl)) (mvT hZ (W hw 20 rfl)) (mvT hZ (W hw 21 rfl)) (mvT hZ (W hw 22 rfl)) (by decide) (backOf (W := 1) (rm_3 l Z a0 hw w kk iw vw hN [] h0 O0) hZ (W hw 22 rfl) (W hw 21 rfl) (by decide) (by decide)) (g := (mkF m 3 #[.val (.ref o1), .val (.ref o2), .val (.int (0 : Int32)), .val (.int (4 : Int32)), .val (.ref (w 0))] [(.ref (w 0)), (.ref o1)])) rfl (by rw [hml]; rfl) (argsL := [(.ref (w 0))]) (rest := [(.ref o1)]) (lenOf pd_1 rfl) rfl (by show 2 * 0 + _ ≤ _; exact Nat.le_of_eq rfl) (hb hby d3_3) (fun _ _ => ⟨rfl, e0, (by decide : 0 + 0 ≤ _), (by decide : 0 + 0 ≤ _)⟩)
  dsimp only [Pt.U, Pt.locs, Pt.cells, Pt.slots] at X1 l1 y1 z1 st1 hQ1
  subst l1 y1 z1
  obtain ⟨rfl, N1q, e1⟩ := hQ1
  have N1 := Fr.app N0 N1q
  obtain ⟨T2, X2, e2, st2⟩ := castY X1 hx hZ hown (W hw 23 rfl) e1 (Ins.of_exa (hE0.ext O0.2) (W hw 24 rfl)) (g := (mkF m 6 #[.val (.ref o1), .val (.ref o2), .val (.int (0 : Int32)), .val (.int (4 : Int32)), .val (.ref (w 0))] [(.ref (w 0)), (.ref o1)])) rfl rfl (hb hby d3_6)
  obtain ⟨cl3, Ar3, q3, Sz3, Ng3, Hv3, Gv3⟩ := id V_o2
  obtain ⟨_, _, ⟨T4, L4, k4, n4⟩, -, X4, ⟨Lc4, hQ4, l4, y4, z4⟩, st4⟩ := Jvm.LawKit.callS X2 hx (y := (⟨s_0, s_10, "(III)I"⟩ : MethodName)) hown (mvT hZ (W hw 25 rfl)) (mvT hZ (W hw 26 rfl)) (mvT hZ (W hw 13 rfl)) (mvT hZ (W hw 27 rfl)) (by decide) (backOf (W := 3) (rm_121 l Z a0 hw w kk iw vw hN [] h0 O0) hZ (W hw 27 rfl) (W hw 13 rfl) (by decide) (by decide)) (g := (mkF m 14 #[.val (.ref o1), .val (.ref o2), .val (.int (0 : Int32)), .val (.int (4 : Int32)), .val (.ref (w 0))] [(.int (11 : Int32)), (.int (4 : Int32)), (.int (0 : Int32)), (.ref o2), (.ref (w 0)), (.ref o1)])) rfl (by rw [hml]; rfl) (argsL := [(.int (0 : Int32)), (.int (4 : Int32)), (.int (11 : Int32))]) (rest := [(.ref o2), (.ref (w 0)), (.ref o1)]) (lenOf pd_3 rfl) rfl (by show 2 * 0 + _ ≤ _; exact Nat.le_of_eq rfl) (hb hby d3_14) (fun _ _ => ⟨rfl, e2, (by decide : 0 + 0 ≤ _), (by decide : 0 + 0 ≤ _)⟩)
  dsimp only [Pt.U, Pt.locs, Pt.cells, Pt.slots] at X4 l4 y4 z4 st4 hQ4
  subst l4 y4 z4
  obtain ⟨rfl, N4q, e4⟩ := hQ4
  have N4 := Fr.app N1 N4q
  obtain ⟨_, _, ⟨T5, L5, k5, n5⟩, -, X5, ⟨Lc5, hQ5, l5, y5, z5⟩, st5⟩ := X4.specialBackH hx (y := (⟨s_0, "<init>", s_7⟩ : MethodName)) rfl hown (mvT hZ (W hw 33 rfl)) (mvT hZ (W hw 34 rfl)) (mvT hZ (W hw 36 rfl)) (by decide) (backOfWith (W := 0) (rm_126 l Z a0 hw w kk iw vw hN [] o1 o2 t0 t1 t2 t3 kc_o2 h0 O0 gn_o1 E_o1.lt gn_o2 E_o2.lt E_o1 F_o1_value F_o1_coder E_o2 V_o2 ne_o1_o2) hZ (W hw 36 rfl) (W hw 13 rfl) (by decide) (by decide)) (g := (mkF m 18 #[.val (.ref o1), .val (.ref o2), .val (.int (0 : Int32)), .val (.int (4 : Int32)), .val (.ref (w 0))] [(.int (4 : Int32)), (.int (0 : Int32)), (.ref o2), (.ref (w 0)), (.ref o1)])) rfl (by rw [hml]; rfl) (Steps.refl _) (a := o1) (argsL := [(.ref (w 0)), (.ref o2), (.int (0 : Int32)), (.int (4 : Int32))]) (rest := []) (lenOf pd_7 rfl) rfl (by show 2 * 0 + _ ≤ _; exact Nat.le_of_eq rfl) (hb hby d3_18) (fun _ _ => ⟨rfl, e4, (by decide : 0 + 1 ≤ _), (by decide : 0 + 4 ≤ _)⟩)
  dsimp only [Pt.U, Pt.locs, Pt.cells, Pt.slots] at X5 l5 y5 z5 st5 hQ5
  subst l5 y5 z5
  obtain ⟨b5_0, kb5_0, rfl, N5q, Kq5, tk5_0, tk5_1, tk5_2, tk5_3, tk5_4, tk5_5⟩ := hQ5
  have N5 := Fr.app N4 N5q
  have gn_b5_0 : Z.heap.size ≤ b5_0 := Nat.le_trans O0.2.1 tk5_0
  have sz_b5_0 : h0.size ≤ b5_0 := Nat.le_trans K0.1 tk5_0
  have ne_o2_b5_0 : o2 ≠ b5_0 := Nat.ne_of_lt (Nat.lt_of_lt_of_le E_o2.lt tk5_0)
  have ne_o1_b5_0 : o1 ≠ b5_0 := Nat.ne_of_lt (Nat.lt_of_lt_of_le E_o1.lt tk5_0)
  have E_o1_v5 := E_o1.keep Kq5
  have E_o2_v5 := E_o2.keep Kq5
  have V_o2_v5 := V_o2.keep Kq5 (ninS (Ne.symm ne_o1_o2) nin0)
  have O5 := O0.keep Kq5 (allS gn_o1 all0)
  have K5 : Keep h0 T5.heap [o1] := K0.trans Kq5 (allS (Or.inl (List.mem_of_getElem? (i := 0) rfl)) all0)
  refine ⟨T5, none, _, _, _, by decide, by decide, X5, (fun _ => rfl), ⟨b5_0, kb5_0, rfl, N5, K5, sz_b5_0, tk5_1, tk5_2, tk5_3, tk5_4, tk5_5⟩, fun fs hr => castTop (ef_8 m (.ref o1) rfl (.ref o2) rfl (.int (0 : Int32)) rfl (.int (4 : Int32)) rfl (.ref (w 0)) rfl) ?_⟩
  show Steps p.tables e below (s₁.setTop (mkF m 0 #[.val (.ref o1), .val (.ref o2), .val (.int (0 : Int32)), .val (.int (4 : Int32)), .val (.ref (w 0))] [])) _
  refine XS.aloadN X0.here hx rfl (hb hby d3_0) rfl rfl ?_
  refine XS.aload X0.here hx rfl (hb hby d3_1) rfl rfl ?_
  refine st1 _ ?_
  refine st2 _ ?_
  refine XS.aloadN X2.here hx rfl (hb hby d3_9) rfl rfl ?_
  refine XS.iloadN X2.here hx rfl (hb hby d3_10) rfl ?_
  refine XS.iloadN X2.here hx rfl (hb hby d3_11) rfl ?_
  refine XS.aloadN X2.here hx rfl (hb hby d3_12) rfl rfl ?_
  refine X2.arraylength hx (by rw [e2]; exact Ar3.1) (State.isArrayOf_alike hZ.alike Ar3.2.1) (g := (mkF m 13 #[.val (.ref o1), .val (.ref o2), .val (.int (0 : Int32)), .val (.int (4 : Int32)), .val (.ref (w 0))] [(.ref o2), (.int (4 : Int32)), (.int (0 : Int32)), (.ref o2), (.ref (w 0)), (.ref o1)])) rfl rfl (hb hby d3_13) _ ?_
  rw [len_of Sz3 Ng3]
  refine st4 _ ?_
  show Steps p.tables e below (T4.setTop (mkF m 17 #[.val (.ref o1), .val (.ref o2), .val (.int (0 : Int32)), .val (.int (4 : Int32)), .val (.ref (w 0))] [(.int (0 : Int32)), (.ref o2), (.ref (w 0)), (.ref o1)])) _
  refine XS.iloadN X4.here hx rfl (hb hby d3_17) rfl ?_
  refine st5.trans ?_
  show Steps p.tables e below (T5.setTop (mkF m 21 #[.val (.ref o1), .val (.ref o2), .val (.int (0 : Int32)), .val (.int (4 : Int32)), .val (.ref (w 0))] [])) _
  exact X5.returnOut hx hret (hb hby d3_21) hr
def Qd_38 (Z : State) (w : Nat → Addr) (kk : Nat → ClassId) (iw : Nat → Int32) (vw : Nat → Value) (o1 : Addr) (t0 : Int32) (t1 : Int32) (t2 : Int32) (t3 : Int32) (kc_o1 : ClassId) (h0 : Heap) (n0 : Nat) (v : Option Value) (h : Heap) (L : List Loc) : Prop := ∃ (c1 : Addr) (c2 : Addr) (kc1 : ClassId), v = some (.ref c1) ∧ Fr n0 L ∧ Keep h0 h [] ∧ h0.size ≤ c1 ∧ h0.size ≤ c2 ∧ c1 ≠ c2 ∧ Exa Z h c1 s_0 ∧ Fld Z h c1 s_0 "value" "[B" (.ref c2) ∧ Fld Z h c1 s_0 "coder" "B" (.int (0 : Int32)) ∧ Exa Z h c2 "[B" ∧ Arv Z h c2 kc1 .byte (4 : Int32) [(.int t0), (.int t1), (.int t2), (.int t3)] (.int (0 : Int32))
set_option maxRecDepth 65536 in
set_option maxHeartbeats 40000000 in
theorem rm_128 (l : Launch) (Z : State) (a0 : Array Value) (hw : ∀ d ∈ tables_1, d.before a0 Z = true) (w : Nat → Addr) (kk : Nat → ClassId) (iw : Nat → Int32) (vw : Nat → Value) (hN : Wd Z w kk iw vw) (ws : List Jvm.Cond) (o1 : Addr) (t0 : Int32) (t1 : Int32) (t2 : Int32) (t3 : Int32) (kc_o1 : ClassId) (h0 : Heap) (O0 : Old Z Z.heap.size h0) (gn_o1 : Z.heap.size ≤ o1) (lt_o1 : o1 < h0.size) (E_o1 : Exa Z h0 o1 "[B") (V_o1 : Arv Z h0 o1 kc_o1 .byte (11 : Int32) [(.int t0), (.int t1), (.int t2), (.int t3)] (.int (0 : Int32))) :
    Met l Z (⟨s_1, "string", s_9⟩ : MethodName) (Jvm.Cond.code (⟨s_1, "string", s_9⟩ : MethodName) prog_22_method_9_code 2 (some (.object s_0))) ws (Rm 5 2 8 88) #[(.ref o1), (.int (4 : Int32))] h0 (Qd_38 Z w kk iw vw o1 t0 t1 t2 t3 kc_o1 h0 Z.heap.size) := by
  have hN' := hN
  obtain ⟨hS0, hE0, hS1, hE1, hS2, hE2, hI0, hJ0, hR0, hRr0, hEq0⟩ := hN'
  refine own_body (plainFor_of_name pn_0) hisR ?_
  intro p e s m below meth c s₁ hx hby hml hown hnm hret X0 hZ e0
  have N0 := Fr.nil Z.heap.size
  have K0 : Keep h0 h0 [] := Keep.refl _ _
  obtain ⟨T1, h1, X1, e1, E1, A1, D1, -, st1⟩ := newO X0 hx hZ hown (W hw 11 rfl) (W hw 12 rfl) (W hw 13 rfl) e0 (g := (mkF m 0 #[.val (.ref o1), .val (.int (4 : Int32))] [])) rfl (hb hby d2_0) (by decide) (by decide)
  obtain ⟨b1, g1⟩ : ∃ z, z = h0.size := ⟨_, rfl⟩
  rw [← g1] at A1 st1 D1
  have gn_b1 : Z.heap.size ≤ b1 := Nat.le_trans O0.2.1 (Nat.le_of_eq g1.symm)
  have sz_b1 : h0.size ≤ b1 := Nat.le_trans K0.1 (Nat.le_of_eq g1.symm)
  have ne_o1_b1 : o1 ≠ b1 := Nat.ne_of_lt (Nat.lt_of_lt_of_le E_o1.lt (Nat.le_of_eq g1.symm))
  have E_o1_v1 := E_o1.ext E1
  have V_o1_v1 := V_o1.ext E1
  have O1 := O0.ext E1
  have K1 := K0.ext E1
  have E_b1_v1 := A1
  have F_b1_value_v1 : Fld Z h1 b1 s_0 "value" "[B" .null := D1 (Or.inr (W hw 64 rfl)) (ty := (.array .byte)) (by decide)
  have F_b1_coder_v1 : Fld Z h1 b1 s_0 "coder" "B" (.int (0 : Int32)) := D1 (Or.inr (W hw 66 rfl)) (ty := .byte) (by decide)
  obtain ⟨T2, X2, e2, st2⟩ := getS2 X1 hx hZ hown (host := "") (Or.inl (W hw 14 rfl)) Via.refl e1 (hS0.ext O1.2) (g := (mkF m 7 #[.val (.ref o1), .val (.int (4 : Int32))] [(.int (4 : Int32)), (.int (0 : Int32)), (.ref o1), (.ref b1), (.ref b1)])) rfl (hb hby d2_7)
  obtain ⟨_, _, ⟨T3, L3, k3, n3⟩, -, X3, ⟨Lc3, hQ3, l3, y3, z3⟩, st3⟩ := X2.specialBack hx (y := (⟨s_0, "<init>", s_8⟩ : MethodName)) rfl hown (mvT hZ (W hw 16 rfl)) (mvT hZ (W hw 17 rfl)) (mvT hZ (W hw 18 rfl)) (by decide) (backOf (W := 1) (rm_127 l Z a0 hw w kk iw vw hN [] b1 o1 t0 t1 t2 t3 kc_o1 h1 O1 gn_b1 E_b1_v1.lt gn_o1 E_o1_v1.lt E_b1_v1 F_b1_value_v1 F_b1_coder_v1 E_o1_v1 V_o1_v1 (Ne.symm ne_o1_b1)) hZ (W hw 18 rfl) (W hw 13 rfl) (by decide) (by decide)) (g := (mkF m 10 #[.val (.ref o1), .val (.int (4 : Int32))] [(.ref (w 0)), (.int (4 : Int32)), (.int (0 : Int32)), (.ref o1), (.ref b1), (.ref b1)])) rfl (by rw [hml]; rfl) (Steps.refl _) (a := b1) (argsL := [(.ref o1), (.int (0 : Int32)), (.int (4 : Int32)), (.ref (w 0))]) (rest := [(.ref b1)]) (lenOf pd_8 rfl) rfl (by show 2 * 0 + _ ≤ _; exact Nat.le_of_eq rfl) (hb hby d2_10) (fun _ _ => ⟨rfl, e2, (by decide : 1 + 1 ≤ _), (by decide : 4 + 4 ≤ _)⟩)
  dsimp only [Pt.U, Pt.locs, Pt.cells, Pt.slots] at X3 l3 y3 z3 st3 hQ3
  subst l3 y3 z3
  obtain ⟨b3_0, kb3_0, rfl, N3q, Kq3, tk3_0, tk3_1, tk3_2, tk3_3, tk3_4, tk3_5⟩ := hQ3
  have N3 := Fr.app N0 N3q
  have gn_b3_0 : Z.heap.size ≤ b3_0 := Nat.le_trans O1.2.1 tk3_0
  have sz_b3_0 : h0.size ≤ b3_0 := Nat.le_trans K1.1 tk3_0
  have ne_b1_b3_0 : b1 ≠ b3_0 := Nat.ne_of_lt (Nat.lt_of_lt_of_le E_b1_v1.lt tk3_0)
  have ne_o1_b3_0 : o1 ≠ b3_0 := Nat.ne_of_lt (Nat.lt_of_lt_of_le E_o1_v1.lt tk3_0)
  have E_o1_v3 := E_o1_v1.keep Kq3
  have V_o1_v3 := V_o1_v1.keep Kq3 (ninS ne_o1_b1 nin0)
  have E_b1_v3 := E_b1_v1.keep Kq3
  have O3 := O1.keep Kq3 (allS gn_b1 all0)
  have K3 : Keep h0 T3.heap [] := K1.trans Kq3 (allS (Or.inr sz_b1) all0)
  refine ⟨T3, some (.ref b1), _, _, _, by decide, by decide, X3, nofun, ⟨b1, b3_0, kb3_0, rfl, N3, K3, sz_b1, sz_b3_0, ne_b1_b3_0, tk3_1, tk3_2, tk3_3, tk3_4, tk3_5⟩, fun fs hr => castTop (ef_9 m (.ref o1) rfl (.int (4 : Int32)) rfl) ?_⟩
  show Steps p.tables e below (s₁.setTop (mkF m 0 #[.val (.ref o1), .val (.int (4 : Int32))] [])) _
  refine st1 _ ?_
  refine XS.dup X1.here hx rfl (hb hby d2_3) rfl rfl ?_
  refine XS.aloadN X1.here hx rfl (hb hby d2_4) rfl rfl ?_
  refine XS.iconst X1.here hx rfl (hb hby d2_5) ?_
  refine XS.iloadN X1.here hx rfl (hb hby d2_6) rfl ?_
  refine st2 _ ?_
  refine st3.trans ?_
  show Steps p.tables e below (T3.setTop (mkF m 13 #[.val (.ref o1), .val (.int (4 : Int32))] [(.ref b1)])) _
  exact retOut X3 hx hret rfl (Or.inr (Or.inr (Or.inr (Or.inr ⟨rfl, rfl, rfl⟩)))) (hb hby d2_13) hr
def Qd_39 (Z : State) (w : Nat → Addr) (kk : Nat → ClassId) (iw : Nat → Int32) (vw : Nat → Value) (p0 : Int32) (h0 : Heap) (n0 : Nat) (v : Option Value) (h : Heap) (L : List Loc) : Prop := ∃ (c1 : Addr) (c2 : Addr) (kc1 : ClassId), v = some (.ref c1) ∧ Fr n0 L ∧ Keep h0 h [] ∧ h0.size ≤ c1 ∧ h0.size ≤ c2 ∧ c1 ≠ c2 ∧ Exa Z h c1 s_0 ∧ Fld Z h c1 s_0 "value" "[B" (.ref c2) ∧ Fld Z h c1 s_0 "coder" "B" (.int (0 : Int32)) ∧ Exa Z h c2 "[B" ∧ Arv Z h c2 kc1 .byte (4 : Int32) [(.int ((((48 : Int32) - (((((-p0) / (10 : Int32)) / (10 : Int32)) / (10 : Int32)) % (10 : Int32))).toInt8.toInt32).toInt8.toInt32)), (.int ((((48 : Int32) - ((((-p0) / (10 : Int32)) / (10 : Int32)) % (10 : Int32))).toInt8.toInt32).toInt8.toInt32)), (.int ((((48 : Int32) - (((-p0) / (10 : Int32)) % (10 : Int32))).toInt8.toInt32).toInt8.toInt32)), (.int ((((48 : Int32) - ((-p0) % (10 : Int32))).toInt8.toInt32).toInt8.toInt32))] (.int (0 : Int32))
set_option maxRecDepth 65536 in
set_option maxHeartbeats 40000000 in
theorem rm_129 (l : Launch) (Z : State) (a0 : Array Value) (hw : ∀ d ∈ tables_1, d.before a0 Z = true) (w : Nat → Addr) (kk : Nat → ClassId) (iw : Nat → Int32) (vw : Nat → Value) (hN : Wd Z w kk iw vw) (ws : List Jvm.Cond) (p0 : Int32) (h0 : Heap) (O0 : Old Z Z.heap.size h0) (hp0 : ¬ (p0 < (0 : Int32))) (hp1 : ¬ ((9999 : Int32) < p0)) (hp2 : ((-p0) / (10000 : Int32)) = (0 : Int32)) :
    Met l Z (⟨s_1, "yearText", s_4⟩ : MethodName) (Jvm.Cond.code (⟨s_1, "yearText", s_4⟩ : MethodName) prog_22_method_4_code 2 (some (.object s_0))) ws (Rm 6 3 19 101) #[(.int p0)] h0 (Qd_39 Z w kk iw vw p0 h0 Z.heap.size) := by
  have hN' := hN
  obtain ⟨hS0, hE0, hS1, hE1, hS2, hE2, hI0, hJ0, hR0, hRr0, hEq0⟩ := hN'
  refine own_body (plainFor_of_name pn_0) hisR ?_
  intro p e s m below meth c s₁ hx hby hml hown hnm hret X0 hZ e0
  have N0 := Fr.nil Z.heap.size
  have K0 : Keep h0 h0 [] := Keep.refl _ _
  obtain ⟨T1, h1, k1, X1, e1, E1, A1, AE1, st1⟩ := newPE X0 hx hZ (W hw 4 rfl) e0 (g := (mkF m 2 #[.val (.int p0), .unset] [(.int (11 : Int32))])) rfl (hb hby d0_2) rfl (by decide) (cap := 11) (by decide) (by decide) (by decide) (by decide) (ad := "[B") rfl
  obtain ⟨b1, g1⟩ : ∃ z, z = h0.size := ⟨_, rfl⟩
  rw [← g1] at A1 st1 AE1
  have gn_b1 : Z.heap.size ≤ b1 := Nat.le_trans O0.2.1 (Nat.le_of_eq g1.symm)
  have sz_b1 : h0.size ≤ b1 := Nat.le_trans K0.1 (Nat.le_of_eq g1.symm)
  have O1 := O0.ext E1
  have K1 := K0.ext E1
  have E_b1_v1 := AE1
  have V_b1_v1 : Arv Z h1 b1 k1 .byte (11 : Int32) [] (.int (0 : Int32)) := Arv.new A1 (by decide)
  obtain ⟨_, _, ⟨T2, L2, k2, n2⟩, -, X2, ⟨Lc2, hQ2, l2, y2, z2⟩, st2⟩ := Jvm.LawKit.callS X1 hx (y := (⟨s_1, "writeYear", "([BI)I"⟩ : MethodName)) hown (mvT hZ (W hw 5 rfl)) (mvT hZ (W hw 6 rfl)) (mvT hZ (W hw 2 rfl)) (mvT hZ (W hw 7 rfl)) (by decide) (backOf (W := 1) (rm_119 l Z a0 hw w kk iw vw hN [] b1 p0 k1 h1 O1 gn_b1 E_b1_v1.lt E_b1_v1 V_b1_v1 hp0 hp1 hp2) hZ (W hw 7 rfl) (W hw 2 rfl) (by decide) (by decide)) (g := (mkF m 8 #[.val (.int p0), .val (.ref b1)] [(.int p0), (.ref b1), (.ref b1)])) rfl (by rw [hml]; rfl) (argsL := [(.ref b1), (.int p0)]) (rest := [(.ref b1)]) (lenOf pd_0 rfl) rfl (by show 2 * 0 + _ ≤ _; exact Nat.le_of_eq rfl) (hb hby d0_8) (fun _ _ => ⟨rfl, e1, (by decide : 1 + 0 ≤ _), (by decide : 11 + 0 ≤ _)⟩)
  dsimp only [Pt.U, Pt.locs, Pt.cells, Pt.slots] at X2 l2 y2 z2 st2 hQ2
  subst l2 y2 z2
  obtain ⟨rfl, N2q, Kq2, tk2_0, tk2_1⟩ := hQ2
  have N2 := Fr.app N0 N2q
  have E_b1_v2 := E_b1_v1.keep Kq2
  have O2 := O1.keep Kq2 (allS gn_b1 all0)
  have K2 : Keep h0 T2.heap [] := K1.trans Kq2 (allS (Or.inr sz_b1) all0)
  obtain ⟨_, _, ⟨T3, L3, k3, n3⟩, -, X3, ⟨Lc3, hQ3, l3, y3, z3⟩, st3⟩ := Jvm.LawKit.callS X2 hx (y := (⟨s_1, "string", s_9⟩ : MethodName)) hown (mvT hZ (W hw 8 rfl)) (mvT hZ (W hw 9 rfl)) (mvT hZ (W hw 2 rfl)) (mvT hZ (W hw 10 rfl)) (by decide) (backOf (W := 0) (rm_128 l Z a0 hw w kk iw vw hN [] b1 ((((48 : Int32) - (((((-p0) / (10 : Int32)) / (10 : Int32)) / (10 : Int32)) % (10 : Int32))).toInt8.toInt32).toInt8.toInt32) ((((48 : Int32) - ((((-p0) / (10 : Int32)) / (10 : Int32)) % (10 : Int32))).toInt8.toInt32).toInt8.toInt32) ((((48 : Int32) - (((-p0) / (10 : Int32)) % (10 : Int32))).toInt8.toInt32).toInt8.toInt32) ((((48 : Int32) - ((-p0) % (10 : Int32))).toInt8.toInt32).toInt8.toInt32) k1 T2.heap O2 gn_b1 tk2_0.lt tk2_0 tk2_1) hZ (W hw 10 rfl) (W hw 2 rfl) (by decide) (by decide)) (g := (mkF m 11 #[.val (.int p0), .val (.ref b1)] [(.int (4 : Int32)), (.ref b1)])) rfl (by rw [hml]; rfl) (argsL := [(.ref b1), (.int (4 : Int32))]) (rest := []) (lenOf pd_9 rfl) rfl (by show 2 * 0 + _ ≤ _; exact Nat.le_of_eq rfl) (hb hby d0_11) (fun _ _ => ⟨rfl, rfl, (by decide : 1 + 2 ≤ _), (by decide : 11 + 8 ≤ _)⟩)
  dsimp only [Pt.U, Pt.locs, Pt.cells, Pt.slots] at X3 l3 y3 z3 st3 hQ3
  subst l3 y3 z3
  obtain ⟨b3_0, b3_1, kb3_0, rfl, N3q, Kq3, tk3_0, tk3_1, tk3_2, tk3_3, tk3_4, tk3_5, tk3_6, tk3_7⟩ := hQ3
  have N3 := Fr.app N2 N3q
  have gn_b3_0 : Z.heap.size ≤ b3_0 := Nat.le_trans O2.2.1 tk3_0
  have sz_b3_0 : h0.size ≤ b3_0 := Nat.le_trans K2.1 tk3_0
  have ne_b1_b3_0 : b1 ≠ b3_0 := Nat.ne_of_lt (Nat.lt_of_lt_of_le tk2_0.lt tk3_0)
  have gn_b3_1 : Z.heap.size ≤ b3_1 := Nat.le_trans O2.2.1 tk3_1
  have sz_b3_1 : h0.size ≤ b3_1 := Nat.le_trans K2.1 tk3_1
  have ne_b1_b3_1 : b1 ≠ b3_1 := Nat.ne_of_lt (Nat.lt_of_lt_of_le tk2_0.lt tk3_1)
  have tk2_0_v3 := tk2_0.keep Kq3
  have tk2_1_v3 := tk2_1.keep Kq3 nin0
  have O3 := O2.keep Kq3 all0
  have K3 : Keep h0 T3.heap [] := K2.trans Kq3 all0
  refine ⟨T3, some (.ref b3_0), _, _, _, by decide, by decide, X3, nofun, ⟨b3_0, b3_1, kb3_0, rfl, N3, K3, sz_b3_0, sz_b3_1, tk3_2, tk3_3, tk3_4, tk3_5, tk3_6, tk3_7⟩, fun fs hr => castTop (ef_10 m (.int p0) rfl) ?_⟩
  show Steps p.tables e below (s₁.setTop (mkF m 0 #[.val (.int p0), .unset] [])) _
  refine XS.bipush X0.here hx rfl (hb hby d0_0) ?_
  refine st1 _ ?_
  refine XS.astoreN X1.here hx rfl (hb hby d0_4) rfl rfl (l' := #[.val (.int p0), .val (.ref b1)]) rfl ?_
  refine XS.aloadN X1.here hx rfl (hb hby d0_5) rfl rfl ?_
  refine XS.aloadN X1.here hx rfl (hb hby d0_6) rfl rfl ?_
  refine XS.iloadN X1.here hx rfl (hb hby d0_7) rfl ?_
  refine st2 _ ?_
  refine st3 _ ?_
  show Steps p.tables e below (T3.setTop (mkF m 14 #[.val (.int p0), .val (.ref b1)] [(.ref b3_0)])) _
  exact retOut X3 hx hret rfl (Or.inr (Or.inr (Or.inr (Or.inr ⟨rfl, rfl, rfl⟩)))) (hb hby d0_14) hr
set_option maxRecDepth 65536 in
set_option maxHeartbeats 40000000 in
theorem rm_130 (l : Launch) (Z : State) (a0 : Array Value) (hw : ∀ d ∈ tables_1, d.before a0 Z = true) (w : Nat → Addr) (kk : Nat → ClassId) (iw : Nat → Int32) (vw : Nat → Value) (hN : Wd Z w kk iw vw) (ws : List Jvm.Cond) (o1 : Addr) (o2 : Addr) (t0 : Int32) (t1 : Int32) (t2 : Int32) (t3 : Int32) (kc_o2 : ClassId) (h0 : Heap) (O0 : Old Z Z.heap.size h0) (gn_o1 : Z.heap.size ≤ o1) (lt_o1 : o1 < h0.size) (E_o1 : Exa Z h0 o1 s_0) (gn_o2 : Z.heap.size ≤ o2) (lt_o2 : o2 < h0.size) (F_o1_value : Fld Z h0 o1 s_0 "value" "[B" (.ref o2)) (F_o1_coder : Fld Z h0 o1 s_0 "coder" "B" (.int (0 : Int32))) (E_o2 : Exa Z h0 o2 "[B") (V_o2 : Arv Z h0 o2 kc_o2 .byte (4 : Int32) [(.int t0), (.int t1), (.int t2), (.int t3)] (.int (0 : Int32))) (ne_o1_o2 : o1 ≠ o2) :
    Met l Z (⟨s_0, "coder", "()B"⟩ : MethodName) (Jvm.Cond.code (⟨s_0, "coder", "()B"⟩ : MethodName) jdk_42_method_152_code 1 (some .byte)) ws (Rm 0 0 0 0) #[(.ref o1)] h0 (OQ (some (.int (0 : Int32))) h0 Z.heap.size) := by
  have hN' := hN
  obtain ⟨hS0, hE0, hS1, hE1, hS2, hE2, hI0, hJ0, hR0, hRr0, hEq0⟩ := hN'
  refine own_body (plainFor_of_name pn_3) hisR ?_
  intro p e s m below meth c s₁ hx hby hml hown hnm hret X0 hZ e0
  have N0 := Fr.nil Z.heap.size
  obtain ⟨T1, X1, e1, st1⟩ := getS2 X0 hx hZ hown (host := "") (Or.inl (W hw 44 rfl)) Via.refl e0 (hI0.ext O0.2) (g := (mkF m 0 #[.val (.ref o1)] [])) rfl (hb hby d13_0)
  obtain ⟨T2, X2, e2, st2⟩ := getF X1 hx hZ hown (host := "") (Or.inl (W hw 65 rfl)) Via.refl e1 F_o1_coder (g := (mkF m 7 #[.val (.ref o1)] [(.ref o1)])) rfl rfl (hb hby d13_7)
  refine ⟨T2, some (.int (0 : Int32)), _, _, _, by decide, by decide, X2, nofun, (by rw [e2]; exact ⟨rfl, N0, rfl⟩), fun fs hr => castTop (ef_1 m (.ref o1) rfl) ?_⟩
  show Steps p.tables e below (s₁.setTop (mkF m 0 #[.val (.ref o1)] [])) _
  refine st1 _ ?_
  refine XS.ifNo X1.here hx rfl (hb hby d13_3) rfl ((if0 _ _).trans (feq hJ0).1) ?_
  refine XS.aloadN X1.here hx rfl (hb hby d13_6) rfl rfl ?_
  refine st2 _ ?_
  refine XS.goto X2.here hx rfl (pc0 := 10) (pc' := 14) rfl (hb hby d13_10) (by decide) (by decide) ?_
  show Steps p.tables e below (T2.setTop (mkF m 14 #[.val (.ref o1)] [(.int (0 : Int32))])) _
  exact retN X2 hx (t := .byte) hret (by simp) (hb hby d13_14) hr
theorem lf_58 : ((4 : Int32) >>> ((0 : Int32) &&& 31)) = (4 : Int32) := by decide
set_option maxRecDepth 65536 in
set_option maxHeartbeats 40000000 in
theorem rm_131 (l : Launch) (Z : State) (a0 : Array Value) (hw : ∀ d ∈ tables_1, d.before a0 Z = true) (w : Nat → Addr) (kk : Nat → ClassId) (iw : Nat → Int32) (vw : Nat → Value) (hN : Wd Z w kk iw vw) (ws : List Jvm.Cond) (o1 : Addr) (o2 : Addr) (t0 : Int32) (t1 : Int32) (t2 : Int32) (t3 : Int32) (kc_o2 : ClassId) (h0 : Heap) (O0 : Old Z Z.heap.size h0) (gn_o1 : Z.heap.size ≤ o1) (lt_o1 : o1 < h0.size) (E_o1 : Exa Z h0 o1 s_0) (gn_o2 : Z.heap.size ≤ o2) (lt_o2 : o2 < h0.size) (F_o1_value : Fld Z h0 o1 s_0 "value" "[B" (.ref o2)) (F_o1_coder : Fld Z h0 o1 s_0 "coder" "B" (.int (0 : Int32))) (E_o2 : Exa Z h0 o2 "[B") (V_o2 : Arv Z h0 o2 kc_o2 .byte (4 : Int32) [(.int t0), (.int t1), (.int t2), (.int t3)] (.int (0 : Int32))) (ne_o1_o2 : o1 ≠ o2) :
    Met l Z (⟨s_0, "length", "()I"⟩ : MethodName) (Jvm.Cond.code (⟨s_0, "length", "()I"⟩ : MethodName) jdk_42_method_54_code 1 (some .int)) ws (Rm 1 0 0 13) #[(.ref o1)] h0 (OQ (some (.int (4 : Int32))) h0 Z.heap.size) := by
  have hN' := hN
  obtain ⟨hS0, hE0, hS1, hE1, hS2, hE2, hI0, hJ0, hR0, hRr0, hEq0⟩ := hN'
  refine own_body (plainFor_of_name pn_3) hisR ?_
  intro p e s m below meth c s₁ hx hby hml hown hnm hret X0 hZ e0
  have N0 := Fr.nil Z.heap.size
  obtain ⟨T1, X1, e1, st1⟩ := getF X0 hx hZ hown (host := "") (Or.inl (W hw 63 rfl)) Via.refl e0 F_o1_value (g := (mkF m 1 #[.val (.ref o1)] [(.ref o1)])) rfl rfl (hb hby d12_1)
  obtain ⟨cl2, Ar2, q2, Sz2, Ng2, Hv2, Gv2⟩ := id V_o2
  obtain ⟨cq3, kq3, q3a, q3b, q3c⟩ := isOf hZ e1 E_o1
  obtain ⟨_, _, ⟨T3, L3, k3, n3⟩, -, X3, ⟨Lc3, hQ3, l3, y3, z3⟩, st3⟩ := X1.virtualBack hx (y := (⟨s_0, "coder", "()B"⟩ : MethodName)) (z := (⟨s_0, "coder", "()B"⟩ : MethodName)) hown (mvT hZ (W hw 72 rfl)) (mvT hZ (W hw 73 rfl)) (notFace_of_selects (args := #[]) (mvT hZ (W hw 75 rfl))) (mvT hZ (W hw 75 rfl)) (mvT hZ (W hw 74 rfl)) (by decide) (backOf (W := 1) (rm_130 l Z a0 hw w kk iw vw hN [] o1 o2 t0 t1 t2 t3 kc_o2 h0 O0 gn_o1 E_o1.lt E_o1 gn_o2 E_o2.lt F_o1_value F_o1_coder E_o2 V_o2 ne_o1_o2) hZ (W hw 76 rfl) (W hw 13 rfl) (by decide) (by decide)) q3a q3c (g := (mkF m 6 #[.val (.ref o1)] [(.ref o1), (.int (4 : Int32))])) rfl (by rw [hml]; rfl) (Steps.refl _) (argsL := []) (rest := [(.int (4 : Int32))]) (lenOf pd_11 rfl) rfl (by show 2 * 0 + _ ≤ _; exact Nat.le_of_eq rfl) (hb hby d12_6) (fun _ _ => ⟨rfl, e1, (by decide : 0 + 0 ≤ _), (by decide : 0 + 0 ≤ _)⟩)
  dsimp only [Pt.U, Pt.locs, Pt.cells, Pt.slots] at X3 l3 y3 z3 st3 hQ3
  subst l3 y3 z3
  obtain ⟨rfl, N3q, e3⟩ := hQ3
  have N3 := Fr.app N0 N3q
  refine ⟨T3, some (.int (4 : Int32)), _, _, _, by decide, by decide, X3, nofun, (by rw [e3]; exact ⟨rfl, N3, rfl⟩), fun fs hr => castTop (ef_1 m (.ref o1) rfl) ?_⟩
  show Steps p.tables e below (s₁.setTop (mkF m 0 #[.val (.ref o1)] [])) _
  refine XS.aloadN X0.here hx rfl (hb hby d12_0) rfl rfl ?_
  refine st1 _ ?_
  refine X1.arraylength hx (by rw [e1]; exact Ar2.1) (State.isArrayOf_alike hZ.alike Ar2.2.1) (g := (mkF m 4 #[.val (.ref o1)] [(.ref o2)])) rfl rfl (hb hby d12_4) _ ?_
  rw [len_of Sz2 Ng2]
  refine XS.aloadN X1.here hx rfl (hb hby d12_5) rfl rfl ?_
  refine st3.trans ?_
  refine XS.ishr X3.here hx rfl (hb hby d12_9) rfl ?_
  show Steps p.tables e below (T3.setTop (mkF m 10 #[.val (.ref o1)] [(.int ((4 : Int32) >>> ((0 : Int32) &&& 31)))])) _
  rw [lf_58]
  show Steps p.tables e below (T3.setTop (mkF m 10 #[.val (.ref o1)] [(.int (4 : Int32))])) _
  exact retI X3 hx hret (hb hby d12_10) hr
theorem d15_0 : decode jdk_42_method_56_code 0 = .ok (.aload_n 0, 1) := by decide +kernel
theorem d15_1 : decode jdk_42_method_56_code 1 = .ok (.invokevirtual 492, 3) := by decide +kernel
theorem d16_0 : decode jdk_42_method_154_code 0 = .ok (.getstatic 38, 3) := by decide +kernel
theorem d16_3 : decode jdk_42_method_154_code 3 = .ok (.ifCond .eq 14, 3) := by decide +kernel
theorem d16_6 : decode jdk_42_method_154_code 6 = .ok (.aload_n 0, 1) := by decide +kernel
theorem d16_7 : decode jdk_42_method_154_code 7 = .ok (.getfield 15, 3) := by decide +kernel
theorem d16_10 : decode jdk_42_method_154_code 10 = .ok (.ifCond .ne 7, 3) := by decide +kernel
theorem d16_13 : decode jdk_42_method_154_code 13 = .ok (.iconst 1, 1) := by decide +kernel
theorem d16_14 : decode jdk_42_method_154_code 14 = .ok (.goto 4, 3) := by decide +kernel
theorem d16_18 : decode jdk_42_method_154_code 18 = .ok (.ireturn, 1) := by decide +kernel
set_option maxRecDepth 65536 in
set_option maxHeartbeats 40000000 in
theorem rm_132 (l : Launch) (Z : State) (a0 : Array Value) (hw : ∀ d ∈ tables_1, d.before a0 Z = true) (w : Nat → Addr) (kk : Nat → ClassId) (iw : Nat → Int32) (vw : Nat → Value) (hN : Wd Z w kk iw vw) (ws : List Jvm.Cond) (o1 : Addr) (o2 : Addr) (t0 : Int32) (t1 : Int32) (t2 : Int32) (t3 : Int32) (kc_o2 : ClassId) (h0 : Heap) (O0 : Old Z Z.heap.size h0) (gn_o1 : Z.heap.size ≤ o1) (lt_o1 : o1 < h0.size) (E_o1 : Exa Z h0 o1 s_0) (gn_o2 : Z.heap.size ≤ o2) (lt_o2 : o2 < h0.size) (F_o1_value : Fld Z h0 o1 s_0 "value" "[B" (.ref o2)) (F_o1_coder : Fld Z h0 o1 s_0 "coder" "B" (.int (0 : Int32))) (E_o2 : Exa Z h0 o2 "[B") (V_o2 : Arv Z h0 o2 kc_o2 .byte (4 : Int32) [(.int t0), (.int t1), (.int t2), (.int t3)] (.int (0 : Int32))) (ne_o1_o2 : o1 ≠ o2) :
    Met l Z (⟨s_0, "isLatin1", "()Z"⟩ : MethodName) (Jvm.Cond.code (⟨s_0, "isLatin1", "()Z"⟩ : MethodName) jdk_42_method_154_code 1 (some .boolean)) ws (Rm 0 0 0 0) #[(.ref o1)] h0 (OQ (some (.int (1 : Int32))) h0 Z.heap.size) := by
  have hN' := hN
  obtain ⟨hS0, hE0, hS1, hE1, hS2, hE2, hI0, hJ0, hR0, hRr0, hEq0⟩ := hN'
  refine own_body (plainFor_of_name pn_3) hisR ?_
  intro p e s m below meth c s₁ hx hby hml hown hnm hret X0 hZ e0
  have N0 := Fr.nil Z.heap.size
  obtain ⟨T1, X1, e1, st1⟩ := getS2 X0 hx hZ hown (host := "") (Or.inl (W hw 44 rfl)) Via.refl e0 (hI0.ext O0.2) (g := (mkF m 0 #[.val (.ref o1)] [])) rfl (hb hby d16_0)
  obtain ⟨T2, X2, e2, st2⟩ := getF X1 hx hZ hown (host := "") (Or.inl (W hw 65 rfl)) Via.refl e1 F_o1_coder (g := (mkF m 7 #[.val (.ref o1)] [(.ref o1)])) rfl rfl (hb hby d16_7)
  refine ⟨T2, some (.int (1 : Int32)), _, _, _, by decide, by decide, X2, nofun, (by rw [e2]; exact ⟨rfl, N0, rfl⟩), fun fs hr => castTop (ef_1 m (.ref o1) rfl) ?_⟩
  show Steps p.tables e below (s₁.setTop (mkF m 0 #[.val (.ref o1)] [])) _
  refine st1 _ ?_
  refine XS.ifNo X1.here hx rfl (hb hby d16_3) rfl ((if0 _ _).trans (feq hJ0).1) ?_
  refine XS.aloadN X1.here hx rfl (hb hby d16_6) rfl rfl ?_
  refine st2 _ ?_
  refine XS.ifNo X2.here hx rfl (hb hby d16_10) rfl ((if0 _ _).trans (teq (by decide : (0 : Int32) = (0 : Int32))).2) ?_
  refine XS.iconst X2.here hx rfl (hb hby d16_13) ?_
  refine XS.goto X2.here hx rfl (pc0 := 14) (pc' := 18) rfl (hb hby d16_14) (by decide) (by decide) ?_
  show Steps p.tables e below (T2.setTop (mkF m 18 #[.val (.ref o1)] [(.int (1 : Int32))])) _
  exact retN X2 hx (t := .boolean) hret (by simp) (hb hby d16_18) hr
theorem pd_14 : parseMethodDescriptor "()Z" = some ⟨[], some .boolean⟩ := by decide +kernel
theorem d15_4 : decode jdk_42_method_56_code 4 = .ok (.ifCond .eq 12, 3) := by decide +kernel
theorem d15_7 : decode jdk_42_method_56_code 7 = .ok (.aload_n 0, 1) := by decide +kernel
theorem d15_8 : decode jdk_42_method_56_code 8 = .ok (.getfield 9, 3) := by decide +kernel
theorem d15_11 : decode jdk_42_method_56_code 11 = .ok (.iload_n 1, 1) := by decide +kernel
theorem d15_12 : decode jdk_42_method_56_code 12 = .ok (.invokestatic 495, 3) := by decide +kernel
theorem d17_0 : decode jdk_43_method_2_code 0 = .ok (.iload_n 1, 1) := by decide +kernel
theorem d17_1 : decode jdk_43_method_2_code 1 = .ok (.aload_n 0, 1) := by decide +kernel
theorem d17_2 : decode jdk_43_method_2_code 2 = .ok (.arraylength, 1) := by decide +kernel
theorem d17_3 : decode jdk_43_method_2_code 3 = .ok (.invokestatic 9, 3) := by decide +kernel
theorem d18_0 : decode jdk_42_method_155_code 0 = .ok (.iload_n 0, 1) := by decide +kernel
theorem d18_1 : decode jdk_42_method_155_code 1 = .ok (.iload_n 1, 1) := by decide +kernel
theorem d18_2 : decode jdk_42_method_155_code 2 = .ok (.getstatic 1053, 3) := by decide +kernel
theorem d18_5 : decode jdk_42_method_155_code 5 = .ok (.invokestatic 1059, 3) := by decide +kernel
theorem d19_0 : decode jdk_41_method_11_code 0 = .ok (.iload_n 0, 1) := by decide +kernel
theorem d19_1 : decode jdk_41_method_11_code 1 = .ok (.ifCond .lt 8, 3) := by decide +kernel
theorem d19_4 : decode jdk_41_method_11_code 4 = .ok (.iload_n 0, 1) := by decide +kernel
theorem d19_5 : decode jdk_41_method_11_code 5 = .ok (.iload_n 1, 1) := by decide +kernel
theorem d19_6 : decode jdk_41_method_11_code 6 = .ok (.if_icmp .lt 10, 3) := by decide +kernel
theorem d19_16 : decode jdk_41_method_11_code 16 = .ok (.iload_n 0, 1) := by decide +kernel
theorem d19_17 : decode jdk_41_method_11_code 17 = .ok (.ireturn, 1) := by decide +kernel
theorem ef_13 (m : MethodId) (x0 : Value) (h0 : x0.category = 1) (x1 : Value) (h1 : x1.category = 1) (x2 : Value) (h2 : x2.category = 1) : entryFrame m #[x0, x1, x2] 3 = mkF m 0 #[.val x0, .val x1, .val x2] [] := by first | (simp [entryFrame, mkF, argsToLocals, h0, h1, h2]; done) | rfl
set_option maxRecDepth 65536 in
set_option maxHeartbeats 40000000 in
theorem rm_133 (l : Launch) (Z : State) (a0 : Array Value) (hw : ∀ d ∈ tables_1, d.before a0 Z = true) (w : Nat → Addr) (kk : Nat → ClassId) (iw : Nat → Int32) (vw : Nat → Value) (hN : Wd Z w kk iw vw) (ws : List Jvm.Cond)  (h0 : Heap) (O0 : Old Z Z.heap.size h0) :
    Met l Z (⟨s_6, "checkIndex", s_18⟩ : MethodName) (Jvm.Cond.code (⟨s_6, "checkIndex", s_18⟩ : MethodName) jdk_41_method_11_code 3 (some .int)) ws (Rm 0 0 0 0) #[(.int (0 : Int32)), (.int (4 : Int32)), (vw 0)] h0 (OQ (some (.int (0 : Int32))) h0 Z.heap.size) := by
  have hN' := hN
  obtain ⟨hS0, hE0, hS1, hE1, hS2, hE2, hI0, hJ0, hR0, hRr0, hEq0⟩ := hN'
  refine own_body (plainFor_of_name pn_2) hisR ?_
  intro p e s m below meth c s₁ hx hby hml hown hnm hret X0 hZ e0
  have N0 := Fr.nil Z.heap.size
  refine ⟨s₁, some (.int (0 : Int32)), _, _, _, by decide, by decide, X0, nofun, (by rw [e0]; exact ⟨rfl, N0, rfl⟩), fun fs hr => castTop (ef_13 m (.int (0 : Int32)) rfl (.int (4 : Int32)) rfl (vw 0) (own_cat hRr0)) ?_⟩
  show Steps p.tables e below (s₁.setTop (mkF m 0 #[.val (.int (0 : Int32)), .val (.int (4 : Int32)), .val (vw 0)] [])) _
  refine XS.iloadN X0.here hx rfl (hb hby d19_0) rfl ?_
  refine XS.ifNo X0.here hx rfl (hb hby d19_1) rfl ((if0 _ _).trans (flt (by decide : ¬ ((0 : Int32) < (0 : Int32)))).1) ?_
  refine XS.iloadN X0.here hx rfl (hb hby d19_4) rfl ?_
  refine XS.iloadN X0.here hx rfl (hb hby d19_5) rfl ?_
  refine XS.icmpYes X0.here hx rfl (pc0 := 6) (pc' := 16) rfl (hb hby d19_6) rfl (tlt (by decide : (0 : Int32) < (4 : Int32))).1 (by decide) (by decide) ?_
  refine XS.iloadN X0.here hx rfl (hb hby d19_16) rfl ?_
  show Steps p.tables e below (s₁.setTop (mkF m 17 #[.val (.int (0 : Int32)), .val (.int (4 : Int32)), .val (vw 0)] [(.int (0 : Int32))])) _
  exact retI X0 hx hret (hb hby d19_17) hr
theorem pd_15 : parseMethodDescriptor s_18 = some ⟨[.int, .int, (.object "java/util/function/BiFunction")], some .int⟩ := by decide +kernel
theorem d18_8 : decode jdk_42_method_155_code 8 = .ok (.pop, 1) := by decide +kernel
theorem d18_9 : decode jdk_42_method_155_code 9 = .ok (.return_, 1) := by decide +kernel
set_option maxRecDepth 65536 in
set_option maxHeartbeats 40000000 in
theorem rm_134 (l : Launch) (Z : State) (a0 : Array Value) (hw : ∀ d ∈ tables_1, d.before a0 Z = true) (w : Nat → Addr) (kk : Nat → ClassId) (iw : Nat → Int32) (vw : Nat → Value) (hN : Wd Z w kk iw vw) (ws : List Jvm.Cond)  (h0 : Heap) (O0 : Old Z Z.heap.size h0) :
    Met l Z (⟨s_0, "checkIndex", "(II)V"⟩ : MethodName) (Jvm.Cond.code (⟨s_0, "checkIndex", "(II)V"⟩ : MethodName) jdk_42_method_155_code 2 none) ws (Rm 1 0 0 14) #[(.int (0 : Int32)), (.int (4 : Int32))] h0 (OQ (none) h0 Z.heap.size) := by
  have hN' := hN
  obtain ⟨hS0, hE0, hS1, hE1, hS2, hE2, hI0, hJ0, hR0, hRr0, hEq0⟩ := hN'
  refine own_body (plainFor_of_name pn_3) hisR ?_
  intro p e s m below meth c s₁ hx hby hml hown hnm hret X0 hZ e0
  have N0 := Fr.nil Z.heap.size
  obtain ⟨T1, X1, e1, st1⟩ := getS2 X0 hx hZ hown (host := "") (Or.inl (W hw 28 rfl)) Via.refl e0 (hR0.ext O0.2) (g := (mkF m 2 #[.val (.int (0 : Int32)), .val (.int (4 : Int32))] [(.int (4 : Int32)), (.int (0 : Int32))])) rfl (hb hby d18_2)
  obtain ⟨_, _, ⟨T2, L2, k2, n2⟩, -, X2, ⟨Lc2, hQ2, l2, y2, z2⟩, st2⟩ := Jvm.LawKit.callS X1 hx (y := (⟨s_6, "checkIndex", s_18⟩ : MethodName)) hown (mvT hZ (W hw 94 rfl)) (mvT hZ (W hw 95 rfl)) (mvT hZ (W hw 29 rfl)) (mvT hZ (W hw 96 rfl)) (by decide) (backOf (W := 0) (rm_133 l Z a0 hw w kk iw vw hN [] h0 O0) hZ (W hw 96 rfl) (W hw 29 rfl) (by decide) (by decide)) (g := (mkF m 5 #[.val (.int (0 : Int32)), .val (.int (4 : Int32))] [(vw 0), (.int (4 : Int32)), (.int (0 : Int32))])) rfl (by rw [hml]; rfl) (argsL := [(.int (0 : Int32)), (.int (4 : Int32)), (vw 0)]) (rest := []) (lenOf pd_15 rfl) rfl (by show 2 * 0 + _ ≤ _; exact Nat.le_of_eq rfl) (hb hby d18_5) (fun _ _ => ⟨rfl, e1, (by decide : 0 + 0 ≤ _), (by decide : 0 + 0 ≤ _)⟩)
  dsimp only [Pt.U, Pt.locs, Pt.cells, Pt.slots] at X2 l2 y2 z2 st2 hQ2
  subst l2 y2 z2
  obtain ⟨rfl, N2q, e2⟩ := hQ2
  have N2 := Fr.app N0 N2q
  refine ⟨T2, none, _, _, _, by decide, by decide, X2, (fun _ => rfl), (by rw [e2]; exact ⟨rfl, N2, rfl⟩), fun fs hr => castTop (ef_4 m (.int (0 : Int32)) rfl (.int (4 : Int32)) rfl) ?_⟩
  show Steps p.tables e below (s₁.setTop (mkF m 0 #[.val (.int (0 : Int32)), .val (.int (4 : Int32))] [])) _
  refine XS.iloadN X0.here hx rfl (hb hby d18_0) rfl ?_
  refine XS.iloadN X0.here hx rfl (hb hby d18_1) rfl ?_
  refine st1 _ ?_
  refine st2 _ ?_
  refine XS.pop X2.here hx rfl (hb hby d18_8) rfl rfl ?_
  show Steps p.tables e below (T2.setTop (mkF m 9 #[.val (.int (0 : Int32)), .val (.int (4 : Int32))] [])) _
  exact X2.returnOut hx hret (hb hby d18_9) hr
theorem d17_6 : decode jdk_43_method_2_code 6 = .ok (.aload_n 0, 1) := by decide +kernel
theorem d17_7 : decode jdk_43_method_2_code 7 = .ok (.iload_n 1, 1) := by decide +kernel
theorem d17_8 : decode jdk_43_method_2_code 8 = .ok (.baload, 1) := by decide +kernel
theorem d17_9 : decode jdk_43_method_2_code 9 = .ok (.sipush 255, 3) := by decide +kernel
theorem d17_12 : decode jdk_43_method_2_code 12 = .ok (.iand, 1) := by decide +kernel
theorem d17_13 : decode jdk_43_method_2_code 13 = .ok (.i2c, 1) := by decide +kernel
theorem d17_14 : decode jdk_43_method_2_code 14 = .ok (.ireturn, 1) := by decide +kernel
theorem pn_6 : plainName s_19 = true := by first | (simp [plainName, overriddenIn]; done) | decide +kernel
set_option maxRecDepth 65536 in
set_option maxHeartbeats 40000000 in
theorem rm_135 (l : Launch) (Z : State) (a0 : Array Value) (hw : ∀ d ∈ tables_1, d.before a0 Z = true) (w : Nat → Addr) (kk : Nat → ClassId) (iw : Nat → Int32) (vw : Nat → Value) (hN : Wd Z w kk iw vw) (ws : List Jvm.Cond) (o1 : Addr) (t0 : Int32) (t1 : Int32) (t2 : Int32) (t3 : Int32) (kc_o1 : ClassId) (h0 : Heap) (O0 : Old Z Z.heap.size h0) (gn_o1 : Z.heap.size ≤ o1) (lt_o1 : o1 < h0.size) (E_o1 : Exa Z h0 o1 "[B") (V_o1 : Arv Z h0 o1 kc_o1 .byte (4 : Int32) [(.int t0), (.int t1), (.int t2), (.int t3)] (.int (0 : Int32))) :
    Met l Z (⟨s_19, "charAt", "([BI)C"⟩ : MethodName) (Jvm.Cond.code (⟨s_19, "charAt", "([BI)C"⟩ : MethodName) jdk_43_method_2_code 2 (some .char)) ws (Rm 2 0 0 27) #[(.ref o1), (.int (0 : Int32))] h0 (OQ (some (.int (((t0 &&& (255 : Int32)).toUInt32.toUInt16.toUInt32.toInt32).toUInt32.toUInt16.toUInt32.toInt32))) h0 Z.heap.size) := by
  have hN' := hN
  obtain ⟨hS0, hE0, hS1, hE1, hS2, hE2, hI0, hJ0, hR0, hRr0, hEq0⟩ := hN'
  refine own_body (plainFor_of_name pn_6) hisR ?_
  intro p e s m below meth c s₁ hx hby hml hown hnm hret X0 hZ e0
  have N0 := Fr.nil Z.heap.size
  obtain ⟨cl1, Ar1, q1, Sz1, Ng1, Hv1, Gv1⟩ := id V_o1
  obtain ⟨_, _, ⟨T2, L2, k2, n2⟩, -, X2, ⟨Lc2, hQ2, l2, y2, z2⟩, st2⟩ := Jvm.LawKit.callS X0 hx (y := (⟨s_0, "checkIndex", "(II)V"⟩ : MethodName)) hown (mvT hZ (W hw 91 rfl)) (mvT hZ (W hw 92 rfl)) (mvT hZ (W hw 13 rfl)) (mvT hZ (W hw 93 rfl)) (by decide) (backOf (W := 0) (rm_134 l Z a0 hw w kk iw vw hN [] h0 O0) hZ (W hw 93 rfl) (W hw 13 rfl) (by decide) (by decide)) (g := (mkF m 3 #[.val (.ref o1), .val (.int (0 : Int32))] [(.int (4 : Int32)), (.int (0 : Int32))])) rfl (by rw [hml]; rfl) (argsL := [(.int (0 : Int32)), (.int (4 : Int32))]) (rest := []) (lenOf pd_4 rfl) rfl (by show 2 * 0 + _ ≤ _; exact Nat.le_of_eq rfl) (hb hby d17_3) (fun _ _ => ⟨rfl, e0, (by decide : 0 + 0 ≤ _), (by decide : 0 + 0 ≤ _)⟩)
  dsimp only [Pt.U, Pt.locs, Pt.cells, Pt.slots] at X2 l2 y2 z2 st2 hQ2
  subst l2 y2 z2
  obtain ⟨rfl, N2q, e2⟩ := hQ2
  have N2 := Fr.app N0 N2q
  obtain ⟨cl3, Ar3, q3, Sz3, Ng3, Hv3, Gv3⟩ := id V_o1
  have hin3 : ¬ ((0 : Int32) < 0 ∨ cl3.slots.size ≤ ((0 : Int32)).toNatClampNeg) := inb_of Sz3 ⟨by decide, by decide⟩
  have hat3 : cl3.slots[((0 : Int32)).toNatClampNeg]? = some (.int t0) := Has.at Hv3 hin3 (by rfl)
  refine ⟨T2, some (.int (((t0 &&& (255 : Int32)).toUInt32.toUInt16.toUInt32.toInt32).toUInt32.toUInt16.toUInt32.toInt32)), _, _, _, by decide, by decide, X2, nofun, (by rw [e2]; exact ⟨rfl, N2, rfl⟩), fun fs hr => castTop (ef_9 m (.ref o1) rfl (.int (0 : Int32)) rfl) ?_⟩
  show Steps p.tables e below (s₁.setTop (mkF m 0 #[.val (.ref o1), .val (.int (0 : Int32))] [])) _
  refine XS.iloadN X0.here hx rfl (hb hby d17_0) rfl ?_
  refine XS.aloadN X0.here hx rfl (hb hby d17_1) rfl rfl ?_
  refine X0.arraylength hx (by rw [e0]; exact Ar1.1) (State.isArrayOf_alike hZ.alike Ar1.2.1) (g := (mkF m 2 #[.val (.ref o1), .val (.int (0 : Int32))] [(.ref o1), (.int (0 : Int32))])) rfl rfl (hb hby d17_2) _ ?_
  rw [len_of Sz1 Ng1]
  refine st2 _ ?_
  refine XS.aloadN X2.here hx rfl (hb hby d17_6) rfl rfl ?_
  refine XS.iloadN X2.here hx rfl (hb hby d17_7) rfl ?_
  refine X2.baloadBytes hx (j := (0 : Int32)) (v := (.int t0)) (by rw [e2]; exact Ar3.1) (State.isArrayOf_alike hZ.alike Ar3.2.1) Ar3.2.2 hin3 hat3 (g := (mkF m 8 #[.val (.ref o1), .val (.int (0 : Int32))] [(.int (0 : Int32)), (.ref o1)])) rfl rfl (hb hby d17_8) _ ?_
  refine XS.sipush X2.here hx rfl (hb hby d17_9) ?_
  refine XS.iand X2.here hx rfl (hb hby d17_12) rfl ?_
  refine XS.i2c X2.here hx rfl (hb hby d17_13) rfl ?_
  show Steps p.tables e below (T2.setTop (mkF m 14 #[.val (.ref o1), .val (.int (0 : Int32))] [(.int ((t0 &&& (255 : Int32)).toUInt32.toUInt16.toUInt32.toInt32))])) _
  exact retN X2 hx (t := .char) hret (by simp) (hb hby d17_14) hr
theorem pd_16 : parseMethodDescriptor "([BI)C" = some ⟨[(.array .byte), .int], some .char⟩ := by decide +kernel
theorem d15_15 : decode jdk_42_method_56_code 15 = .ok (.ireturn, 1) := by decide +kernel
set_option maxRecDepth 65536 in
set_option maxHeartbeats 40000000 in
theorem rm_136 (l : Launch) (Z : State) (a0 : Array Value) (hw : ∀ d ∈ tables_1, d.before a0 Z = true) (w : Nat → Addr) (kk : Nat → ClassId) (iw : Nat → Int32) (vw : Nat → Value) (hN : Wd Z w kk iw vw) (ws : List Jvm.Cond) (o1 : Addr) (o2 : Addr) (t0 : Int32) (t1 : Int32) (t2 : Int32) (t3 : Int32) (kc_o2 : ClassId) (h0 : Heap) (O0 : Old Z Z.heap.size h0) (gn_o1 : Z.heap.size ≤ o1) (lt_o1 : o1 < h0.size) (E_o1 : Exa Z h0 o1 s_0) (gn_o2 : Z.heap.size ≤ o2) (lt_o2 : o2 < h0.size) (F_o1_value : Fld Z h0 o1 s_0 "value" "[B" (.ref o2)) (F_o1_coder : Fld Z h0 o1 s_0 "coder" "B" (.int (0 : Int32))) (E_o2 : Exa Z h0 o2 "[B") (V_o2 : Arv Z h0 o2 kc_o2 .byte (4 : Int32) [(.int t0), (.int t1), (.int t2), (.int t3)] (.int (0 : Int32))) (ne_o1_o2 : o1 ≠ o2) :
    Met l Z (⟨s_0, "charAt", "(I)C"⟩ : MethodName) (Jvm.Cond.code (⟨s_0, "charAt", "(I)C"⟩ : MethodName) jdk_42_method_56_code 2 (some .char)) ws (Rm 3 0 0 40) #[(.ref o1), (.int (0 : Int32))] h0 (OQ (some (.int ((((t0 &&& (255 : Int32)).toUInt32.toUInt16.toUInt32.toInt32).toUInt32.toUInt16.toUInt32.toInt32).toUInt32.toUInt16.toUInt32.toInt32))) h0 Z.heap.size) := by
  have hN' := hN
  obtain ⟨hS0, hE0, hS1, hE1, hS2, hE2, hI0, hJ0, hR0, hRr0, hEq0⟩ := hN'
  refine own_body (plainFor_of_name pn_3) hisR ?_
  intro p e s m below meth c s₁ hx hby hml hown hnm hret X0 hZ e0
  have N0 := Fr.nil Z.heap.size
  obtain ⟨cq1, kq1, q1a, q1b, q1c⟩ := isOf hZ e0 E_o1
  obtain ⟨_, _, ⟨T1, L1, k1, n1⟩, -, X1, ⟨Lc1, hQ1, l1, y1, z1⟩, st1⟩ := X0.virtualBack hx (y := (⟨s_0, "isLatin1", "()Z"⟩ : MethodName)) (z := (⟨s_0, "isLatin1", "()Z"⟩ : MethodName)) hown (mvT hZ (W hw 82 rfl)) (mvT hZ (W hw 83 rfl)) (notFace_of_selects (args := #[]) (mvT hZ (W hw 85 rfl))) (mvT hZ (W hw 85 rfl)) (mvT hZ (W hw 84 rfl)) (by decide) (backOf (W := 0) (rm_132 l Z a0 hw w kk iw vw hN [] o1 o2 t0 t1 t2 t3 kc_o2 h0 O0 gn_o1 E_o1.lt E_o1 gn_o2 E_o2.lt F_o1_value F_o1_coder E_o2 V_o2 ne_o1_o2) hZ (W hw 86 rfl) (W hw 13 rfl) (by decide) (by decide)) q1a q1c (g := (mkF m 1 #[.val (.ref o1), .val (.int (0 : Int32))] [(.ref o1)])) rfl (by rw [hml]; rfl) (Steps.refl _) (argsL := []) (rest := []) (lenOf pd_14 rfl) rfl (by show 2 * 0 + _ ≤ _; exact Nat.le_of_eq rfl) (hb hby d15_1) (fun _ _ => ⟨rfl, e0, (by decide : 0 + 0 ≤ _), (by decide : 0 + 0 ≤ _)⟩)
  dsimp only [Pt.U, Pt.locs, Pt.cells, Pt.slots] at X1 l1 y1 z1 st1 hQ1
  subst l1 y1 z1
  obtain ⟨rfl, N1q, e1⟩ := hQ1
  have N1 := Fr.app N0 N1q
  obtain ⟨T2, X2, e2, st2⟩ := getF X1 hx hZ hown (host := "") (Or.inl (W hw 63 rfl)) Via.refl e1 F_o1_value (g := (mkF m 8 #[.val (.ref o1), .val (.int (0 : Int32))] [(.ref o1)])) rfl rfl (hb hby d15_8)
  obtain ⟨_, _, ⟨T3, L3, k3, n3⟩, -, X3, ⟨Lc3, hQ3, l3, y3, z3⟩, st3⟩ := Jvm.LawKit.callS X2 hx (y := (⟨s_19, "charAt", "([BI)C"⟩ : MethodName)) hown (mvT hZ (W hw 87 rfl)) (mvT hZ (W hw 88 rfl)) (mvT hZ (W hw 89 rfl)) (mvT hZ (W hw 90 rfl)) (by decide) (backOf (W := 0) (rm_135 l Z a0 hw w kk iw vw hN [] o2 t0 t1 t2 t3 kc_o2 h0 O0 gn_o2 E_o2.lt E_o2 V_o2) hZ (W hw 90 rfl) (W hw 89 rfl) (by decide) (by decide)) (g := (mkF m 12 #[.val (.ref o1), .val (.int (0 : Int32))] [(.int (0 : Int32)), (.ref o2)])) rfl (by rw [hml]; rfl) (argsL := [(.ref o2), (.int (0 : Int32))]) (rest := []) (lenOf pd_16 rfl) rfl (by show 2 * 0 + _ ≤ _; exact Nat.le_of_eq rfl) (hb hby d15_12) (fun _ _ => ⟨rfl, e2, (by decide : 0 + 0 ≤ _), (by decide : 0 + 0 ≤ _)⟩)
  dsimp only [Pt.U, Pt.locs, Pt.cells, Pt.slots] at X3 l3 y3 z3 st3 hQ3
  subst l3 y3 z3
  obtain ⟨rfl, N3q, e3⟩ := hQ3
  have N3 := Fr.app N1 N3q
  refine ⟨T3, some (.int ((((t0 &&& (255 : Int32)).toUInt32.toUInt16.toUInt32.toInt32).toUInt32.toUInt16.toUInt32.toInt32).toUInt32.toUInt16.toUInt32.toInt32)), _, _, _, by decide, by decide, X3, nofun, (by rw [e3]; exact ⟨rfl, N3, rfl⟩), fun fs hr => castTop (ef_9 m (.ref o1) rfl (.int (0 : Int32)) rfl) ?_⟩
  show Steps p.tables e below (s₁.setTop (mkF m 0 #[.val (.ref o1), .val (.int (0 : Int32))] [])) _
  refine XS.aloadN X0.here hx rfl (hb hby d15_0) rfl rfl ?_
  refine st1.trans ?_
  refine XS.ifNo X1.here hx rfl (hb hby d15_4) rfl ((if0 _ _).trans (feq (by decide : ¬ ((1 : Int32) = (0 : Int32)))).1) ?_
  refine XS.aloadN X1.here hx rfl (hb hby d15_7) rfl rfl ?_
  refine st2 _ ?_
  refine XS.iloadN X2.here hx rfl (hb hby d15_11) rfl ?_
  refine st3 _ ?_
  show Steps p.tables e below (T3.setTop (mkF m 15 #[.val (.ref o1), .val (.int (0 : Int32))] [(.int (((t0 &&& (255 : Int32)).toUInt32.toUInt16.toUInt32.toInt32).toUInt32.toUInt16.toUInt32.toInt32))])) _
  exact retN X3 hx (t := .char) hret (by simp) (hb hby d15_15) hr
theorem pd_17 : parseMethodDescriptor "(I)C" = some ⟨[.int], some .char⟩ := by decide +kernel
set_option maxRecDepth 65536 in
set_option maxHeartbeats 40000000 in
theorem law_137 (l : Launch) (Z : State) (a0 : Array Value) (hw : ∀ d ∈ tables_1, d.before a0 Z = true) (w : Nat → Addr) (kk : Nat → ClassId) (iw : Nat → Int32) (vw : Nat → Value) (hN : Wd Z w kk iw vw) (ws : List Jvm.Cond) (p0 : Int32) (h0 : Heap) (O0 : Old Z Z.heap.size h0) (hp0 : ¬ (p0 < (0 : Int32))) (hp1 : ¬ ((9999 : Int32) < p0)) (hp2 : ((-p0) / (10000 : Int32)) = (0 : Int32)) (hp3 : ((((((((48 : Int32) - (((((-p0) / (10 : Int32)) / (10 : Int32)) / (10 : Int32)) % (10 : Int32))).toInt8.toInt32).toInt8.toInt32) &&& (255 : Int32)).toUInt32.toUInt16.toUInt32.toInt32).toUInt32.toUInt16.toUInt32.toInt32).toUInt32.toUInt16.toUInt32.toInt32) = (48 : Int32)) (hp4 : p0 < (1000 : Int32)) :
    MetFree l x (head1 (Jvm.Cond.code x code maxLocals ret :: ws) room_1) (fun a U => a = #[(.int p0)] ∧ Z.Warmed39 U.vm ∧ U.heap = h0) (fun _ _ _ _ _ => True) (fun _ U o U' => ∃ v L, o = .returned v ∧ OL (some (.int (1 : Int32))) Z.heap.size v U'.heap L ∧ FrameEnd U o U' L 16 128) := by
  have hN' := hN
  obtain ⟨hS0, hE0, hS1, hE1, hS2, hE2, hI0, hJ0, hR0, hRr0, hEq0⟩ := hN'
  refine MetFree.of_bodySF (plainFor_of_name pn_5) hisR ?_
  intro p e s m args below meth c s₁ Bd hml0 hP hK
  obtain ⟨rfl, hZ, hh⟩ := hP
  have hx := Bd.exec
  have hby := Bd.bytes
  have hml : c.maxLocals = 3 := hml0
  have hown : s.vm.findClass s_3 = some m.cls := findClass_of_methodNamed Bd.named
  have hnm := (name_of_methodNamed Bd.named Bd.method).1
  have X0 : Stand p l e room_1 s m #[(.int p0)] below meth c s₁ [] 0 0 := Stand.of_body Bd
  have e0 : s₁.heap = h0 := by rw [← hh, Bd.state]; rfl
  have N0 := Fr.nil Z.heap.size
  obtain ⟨_, _, ⟨T1, L1, k1, n1⟩, -, X1, ⟨Lc1, hQ1, l1, y1, z1⟩, st1⟩ := Jvm.LawKit.callS X0 hx (y := (⟨s_1, "yearText", s_4⟩ : MethodName)) hown (mvT hZ (W hw 0 rfl)) (mvT hZ (W hw 1 rfl)) (mvT hZ (W hw 2 rfl)) (mvT hZ (W hw 3 rfl)) (by decide) (backOf (W := 0) (rm_129 l Z a0 hw w kk iw vw hN [] p0 h0 O0 hp0 hp1 hp2) hZ (W hw 3 rfl) (W hw 2 rfl) (by decide) (by decide)) (g := (mkF m 1 #[.val (.int p0), .unset, .unset] [(.int p0)])) rfl (by rw [hml]; rfl) (argsL := [(.int p0)]) (rest := []) (lenOf pd_10 rfl) rfl (by show 2 * 0 + _ ≤ _; exact Nat.le_of_eq rfl) (hb hby at_1) (fun _ _ => ⟨rfl, e0, (by decide : 0 + 3 ≤ _), (by decide : 0 + 19 ≤ _)⟩)
  dsimp only [Pt.U, Pt.locs, Pt.cells, Pt.slots] at X1 l1 y1 z1 st1 hQ1
  subst l1 y1 z1
  obtain ⟨b1_0, b1_1, kb1_0, rfl, N1q, Kq1, tk1_0, tk1_1, tk1_2, tk1_3, tk1_4, tk1_5, tk1_6, tk1_7⟩ := hQ1
  have N1 := Fr.app N0 N1q
  have gn_b1_0 : Z.heap.size ≤ b1_0 := Nat.le_trans O0.2.1 tk1_0
  have gn_b1_1 : Z.heap.size ≤ b1_1 := Nat.le_trans O0.2.1 tk1_1
  have O1 := O0.keep Kq1 all0
  obtain ⟨cq2, kq2, q2a, q2b, q2c⟩ := isOf hZ rfl tk1_3
  obtain ⟨_, _, ⟨T2, L2, k2, n2⟩, -, X2, ⟨Lc2, hQ2, l2, y2, z2⟩, st2⟩ := X1.virtualBack hx (y := (⟨s_0, "length", "()I"⟩ : MethodName)) (z := (⟨s_0, "length", "()I"⟩ : MethodName)) hown (mvT hZ (W hw 67 rfl)) (mvT hZ (W hw 68 rfl)) (notFace_of_selects (args := #[]) (mvT hZ (W hw 70 rfl))) (mvT hZ (W hw 70 rfl)) (mvT hZ (W hw 69 rfl)) (by decide) (backOf (W := 0) (rm_131 l Z a0 hw w kk iw vw hN [] b1_0 b1_1 ((((48 : Int32) - (((((-p0) / (10 : Int32)) / (10 : Int32)) / (10 : Int32)) % (10 : Int32))).toInt8.toInt32).toInt8.toInt32) ((((48 : Int32) - ((((-p0) / (10 : Int32)) / (10 : Int32)) % (10 : Int32))).toInt8.toInt32).toInt8.toInt32) ((((48 : Int32) - (((-p0) / (10 : Int32)) % (10 : Int32))).toInt8.toInt32).toInt8.toInt32) ((((48 : Int32) - ((-p0) % (10 : Int32))).toInt8.toInt32).toInt8.toInt32) kb1_0 T1.heap O1 gn_b1_0 tk1_3.lt tk1_3 gn_b1_1 tk1_6.lt tk1_4 tk1_5 tk1_6 tk1_7 tk1_2) hZ (W hw 71 rfl) (W hw 13 rfl) (by decide) (by decide)) q2a q2c (g := (mkF m 6 #[.val (.int p0), .val (.ref b1_0), .unset] [(.ref b1_0)])) rfl (by rw [hml]; rfl) (Steps.refl _) (argsL := []) (rest := []) (lenOf pd_12 rfl) rfl (by show 2 * 0 + _ ≤ _; exact Nat.le_of_eq rfl) (hb hby at_6) (fun _ _ => ⟨rfl, rfl, (by decide : 3 + 0 ≤ _), (by decide : 19 + 0 ≤ _)⟩)
  dsimp only [Pt.U, Pt.locs, Pt.cells, Pt.slots] at X2 l2 y2 z2 st2 hQ2
  subst l2 y2 z2
  obtain ⟨rfl, N2q, e2⟩ := hQ2
  have N2 := Fr.app N1 N2q
  obtain ⟨cq3, kq3, q3a, q3b, q3c⟩ := isOf hZ e2 tk1_3
  obtain ⟨_, _, ⟨T3, L3, k3, n3⟩, -, X3, ⟨Lc3, hQ3, l3, y3, z3⟩, st3⟩ := X2.virtualBack hx (y := (⟨s_0, "charAt", "(I)C"⟩ : MethodName)) (z := (⟨s_0, "charAt", "(I)C"⟩ : MethodName)) hown (mvT hZ (W hw 77 rfl)) (mvT hZ (W hw 78 rfl)) (notFace_of_selects (args := #[]) (mvT hZ (W hw 80 rfl))) (mvT hZ (W hw 80 rfl)) (mvT hZ (W hw 79 rfl)) (by decide) (backOf (W := 0) (rm_136 l Z a0 hw w kk iw vw hN [] b1_0 b1_1 ((((48 : Int32) - (((((-p0) / (10 : Int32)) / (10 : Int32)) / (10 : Int32)) % (10 : Int32))).toInt8.toInt32).toInt8.toInt32) ((((48 : Int32) - ((((-p0) / (10 : Int32)) / (10 : Int32)) % (10 : Int32))).toInt8.toInt32).toInt8.toInt32) ((((48 : Int32) - (((-p0) / (10 : Int32)) % (10 : Int32))).toInt8.toInt32).toInt8.toInt32) ((((48 : Int32) - ((-p0) % (10 : Int32))).toInt8.toInt32).toInt8.toInt32) kb1_0 T1.heap O1 gn_b1_0 tk1_3.lt tk1_3 gn_b1_1 tk1_6.lt tk1_4 tk1_5 tk1_6 tk1_7 tk1_2) hZ (W hw 81 rfl) (W hw 13 rfl) (by decide) (by decide)) q3a q3c (g := (mkF m 15 #[.val (.int p0), .val (.ref b1_0), .unset] [(.int (0 : Int32)), (.ref b1_0)])) rfl (by rw [hml]; rfl) (Steps.refl _) (argsL := [(.int (0 : Int32))]) (rest := []) (lenOf pd_17 rfl) rfl (by show 2 * 0 + _ ≤ _; exact Nat.le_of_eq rfl) (hb hby at_15) (fun _ _ => ⟨rfl, e2, (by decide : 3 + 0 ≤ _), (by decide : 19 + 0 ≤ _)⟩)
  dsimp only [Pt.U, Pt.locs, Pt.cells, Pt.slots] at X3 l3 y3 z3 st3 hQ3
  subst l3 y3 z3
  obtain ⟨rfl, N3q, e3⟩ := hQ3
  have N3 := Fr.app N2 N3q
  obtain ⟨_, _, ⟨T4, L4, k4, n4⟩, -, X4, ⟨Lc4, hQ4, l4, y4, z4⟩, st4⟩ := Jvm.LawKit.callS X3 hx (y := (⟨s_1, s_15, "(I)Z"⟩ : MethodName)) hown (mvT hZ (W hw 97 rfl)) (mvT hZ (W hw 98 rfl)) (mvT hZ (W hw 2 rfl)) (mvT hZ (W hw 99 rfl)) (by decide) (backOf (W := 0) (rm_16 l Z a0 hw w kk iw vw hN [] p0 T1.heap O1 hp4) hZ (W hw 99 rfl) (W hw 2 rfl) (by decide) (by decide)) (g := (mkF m 30 #[.val (.int p0), .val (.ref b1_0), .val (.int (0 : Int32))] [(.int p0)])) rfl (by rw [hml]; rfl) (argsL := [(.int p0)]) (rest := []) (lenOf pd_13 rfl) rfl (by show 2 * 0 + _ ≤ _; exact Nat.le_of_eq rfl) (hb hby at_30) (fun _ _ => ⟨rfl, e3, (by decide : 3 + 0 ≤ _), (by decide : 19 + 0 ≤ _)⟩)
  dsimp only [Pt.U, Pt.locs, Pt.cells, Pt.slots] at X4 l4 y4 z4 st4 hQ4
  subst l4 y4 z4
  obtain ⟨rfl, N4q, e4⟩ := hQ4
  have N4 := Fr.app N3 N4q
  obtain ⟨fs, hr, hrun, hended, hW, hsame⟩ := X4.leave (v := some (.int (1 : Int32))) (fun h => by rw [Bd.returns] at h; cases h)
  refine ⟨_, _, castTop (ef_12 m (.int p0) rfl) ?_, hrun, hended, _, _, rfl, ?_, ⟨_, rfl⟩, hW, hsame.mono (by decide) (by decide)⟩
  · show Steps p.tables e below (s₁.setTop (mkF m 0 #[.val (.int p0), .unset, .unset] [])) _
    refine XS.iloadN X0.here hx rfl (hb hby at_0) rfl ?_
    refine st1 _ ?_
    refine XS.astoreN X1.here hx rfl (hb hby at_4) rfl rfl (l' := #[.val (.int p0), .val (.ref b1_0), .unset]) rfl ?_
    refine XS.aloadN X1.here hx rfl (hb hby at_5) rfl rfl ?_
    refine st2.trans ?_
    refine XS.iconst X2.here hx rfl (hb hby at_9) ?_
    refine XS.icmpNo X2.here hx rfl (hb hby at_10) rfl (teq (by decide : (4 : Int32) = (4 : Int32))).2 ?_
    refine XS.aloadN X2.here hx rfl (hb hby at_13) rfl rfl ?_
    refine XS.iconst X2.here hx rfl (hb hby at_14) ?_
    refine st3.trans ?_
    show Steps p.tables e below (T3.setTop (mkF m 18 #[.val (.int p0), .val (.ref b1_0), .unset] [(.int ((((((((48 : Int32) - (((((-p0) / (10 : Int32)) / (10 : Int32)) / (10 : Int32)) % (10 : Int32))).toInt8.toInt32).toInt8.toInt32) &&& (255 : Int32)).toUInt32.toUInt16.toUInt32.toInt32).toUInt32.toUInt16.toUInt32.toInt32).toUInt32.toUInt16.toUInt32.toInt32))])) _
    refine XS.bipush X3.here hx rfl (hb hby at_18) ?_
    refine XS.icmpYes X3.here hx rfl (pc0 := 20) (pc' := 27) rfl (hb hby at_20) rfl (teq hp3).1 (by decide) (by decide) ?_
    refine XS.iconst X3.here hx rfl (hb hby at_27) ?_
    refine XS.istoreN X3.here hx rfl (hb hby at_28) rfl (l' := #[.val (.int p0), .val (.ref b1_0), .val (.int (0 : Int32))]) rfl ?_
    refine XS.iloadN X3.here hx rfl (hb hby at_29) rfl ?_
    refine st4 _ ?_
    refine XS.iloadN X4.here hx rfl (hb hby at_33) rfl ?_
    refine XS.icmpNo X4.here hx rfl (hb hby at_34) rfl (teq (by decide : (0 : Int32) = (0 : Int32))).2 ?_
    refine XS.iconst X4.here hx rfl (hb hby at_37) ?_
    refine XS.goto X4.here hx rfl (pc0 := 38) (pc' := 42) rfl (hb hby at_38) (by decide) (by decide) ?_
    show Steps p.tables e below (T4.setTop (mkF m 42 #[.val (.int p0), .val (.ref b1_0), .val (.int (0 : Int32))] [(.int (1 : Int32))])) _
    exact retN X4 hx (t := .boolean) Bd.returns (by simp) (hb hby at_42) hr
  · show OL (some (.int (1 : Int32))) Z.heap.size _ T4.heap _
    exact ⟨rfl, N4⟩
theorem d14_14 : decode prog_22_method_5_code 14 = .ok (.iconst 1, 1) := by decide +kernel
theorem d14_15 : decode prog_22_method_5_code 15 = .ok (.goto 4, 3) := by decide +kernel
set_option maxRecDepth 65536 in
set_option maxHeartbeats 40000000 in
theorem rm_138 (l : Launch) (Z : State) (a0 : Array Value) (hw : ∀ d ∈ tables_1, d.before a0 Z = true) (w : Nat → Addr) (kk : Nat → ClassId) (iw : Nat → Int32) (vw : Nat → Value) (hN : Wd Z w kk iw vw) (ws : List Jvm.Cond) (p0 : Int32) (h0 : Heap) (O0 : Old Z Z.heap.size h0) (hp0 : ¬ (p0 < (1000 : Int32))) (hp1 : ¬ ((9999 : Int32) < p0)) :
    Met l Z (⟨s_1, s_15, "(I)Z"⟩ : MethodName) (Jvm.Cond.code (⟨s_1, s_15, "(I)Z"⟩ : MethodName) prog_22_method_5_code 1 (some .boolean)) ws (Rm 0 0 0 0) #[(.int p0)] h0 (OQ (some (.int (1 : Int32))) h0 Z.heap.size) := by
  have hN' := hN
  obtain ⟨hS0, hE0, hS1, hE1, hS2, hE2, hI0, hJ0, hR0, hRr0, hEq0⟩ := hN'
  refine own_body (plainFor_of_name pn_0) hisR ?_
  intro p e s m below meth c s₁ hx hby hml hown hnm hret X0 hZ e0
  have N0 := Fr.nil Z.heap.size
  refine ⟨s₁, some (.int (1 : Int32)), _, _, _, by decide, by decide, X0, nofun, (by rw [e0]; exact ⟨rfl, N0, rfl⟩), fun fs hr => castTop (ef_11 m (.int p0) rfl) ?_⟩
  show Steps p.tables e below (s₁.setTop (mkF m 0 #[.val (.int p0)] [])) _
  refine XS.iloadN X0.here hx rfl (hb hby d14_0) rfl ?_
  refine XS.sipush X0.here hx rfl (hb hby d14_1) ?_
  refine XS.icmpNo X0.here hx rfl (hb hby d14_4) rfl (flt hp0).1 ?_
  refine XS.iloadN X0.here hx rfl (hb hby d14_7) rfl ?_
  refine XS.sipush X0.here hx rfl (hb hby d14_8) ?_
  refine XS.icmpNo X0.here hx rfl (hb hby d14_11) rfl (flt hp1).2.2.1 ?_
  refine XS.iconst X0.here hx rfl (hb hby d14_14) ?_
  refine XS.goto X0.here hx rfl (pc0 := 15) (pc' := 19) rfl (hb hby d14_15) (by decide) (by decide) ?_
  show Steps p.tables e below (s₁.setTop (mkF m 19 #[.val (.int p0)] [(.int (1 : Int32))])) _
  exact retN X0 hx (t := .boolean) hret (by simp) (hb hby d14_19) hr
set_option maxRecDepth 65536 in
set_option maxHeartbeats 40000000 in
theorem law_139 (l : Launch) (Z : State) (a0 : Array Value) (hw : ∀ d ∈ tables_1, d.before a0 Z = true) (w : Nat → Addr) (kk : Nat → ClassId) (iw : Nat → Int32) (vw : Nat → Value) (hN : Wd Z w kk iw vw) (ws : List Jvm.Cond) (p0 : Int32) (h0 : Heap) (O0 : Old Z Z.heap.size h0) (hp0 : ¬ (p0 < (0 : Int32))) (hp1 : ¬ ((9999 : Int32) < p0)) (hp2 : ((-p0) / (10000 : Int32)) = (0 : Int32)) (hp3 : ¬ (((((((((48 : Int32) - (((((-p0) / (10 : Int32)) / (10 : Int32)) / (10 : Int32)) % (10 : Int32))).toInt8.toInt32).toInt8.toInt32) &&& (255 : Int32)).toUInt32.toUInt16.toUInt32.toInt32).toUInt32.toUInt16.toUInt32.toInt32).toUInt32.toUInt16.toUInt32.toInt32) = (48 : Int32))) (hp4 : ¬ (p0 < (1000 : Int32))) :
    MetFree l x (head1 (Jvm.Cond.code x code maxLocals ret :: ws) room_1) (fun a U => a = #[(.int p0)] ∧ Z.Warmed39 U.vm ∧ U.heap = h0) (fun _ _ _ _ _ => True) (fun _ U o U' => ∃ v L, o = .returned v ∧ OL (some (.int (1 : Int32))) Z.heap.size v U'.heap L ∧ FrameEnd U o U' L 16 128) := by
  have hN' := hN
  obtain ⟨hS0, hE0, hS1, hE1, hS2, hE2, hI0, hJ0, hR0, hRr0, hEq0⟩ := hN'
  refine MetFree.of_bodySF (plainFor_of_name pn_5) hisR ?_
  intro p e s m args below meth c s₁ Bd hml0 hP hK
  obtain ⟨rfl, hZ, hh⟩ := hP
  have hx := Bd.exec
  have hby := Bd.bytes
  have hml : c.maxLocals = 3 := hml0
  have hown : s.vm.findClass s_3 = some m.cls := findClass_of_methodNamed Bd.named
  have hnm := (name_of_methodNamed Bd.named Bd.method).1
  have X0 : Stand p l e room_1 s m #[(.int p0)] below meth c s₁ [] 0 0 := Stand.of_body Bd
  have e0 : s₁.heap = h0 := by rw [← hh, Bd.state]; rfl
  have N0 := Fr.nil Z.heap.size
  obtain ⟨_, _, ⟨T1, L1, k1, n1⟩, -, X1, ⟨Lc1, hQ1, l1, y1, z1⟩, st1⟩ := Jvm.LawKit.callS X0 hx (y := (⟨s_1, "yearText", s_4⟩ : MethodName)) hown (mvT hZ (W hw 0 rfl)) (mvT hZ (W hw 1 rfl)) (mvT hZ (W hw 2 rfl)) (mvT hZ (W hw 3 rfl)) (by decide) (backOf (W := 0) (rm_129 l Z a0 hw w kk iw vw hN [] p0 h0 O0 hp0 hp1 hp2) hZ (W hw 3 rfl) (W hw 2 rfl) (by decide) (by decide)) (g := (mkF m 1 #[.val (.int p0), .unset, .unset] [(.int p0)])) rfl (by rw [hml]; rfl) (argsL := [(.int p0)]) (rest := []) (lenOf pd_10 rfl) rfl (by show 2 * 0 + _ ≤ _; exact Nat.le_of_eq rfl) (hb hby at_1) (fun _ _ => ⟨rfl, e0, (by decide : 0 + 3 ≤ _), (by decide : 0 + 19 ≤ _)⟩)
  dsimp only [Pt.U, Pt.locs, Pt.cells, Pt.slots] at X1 l1 y1 z1 st1 hQ1
  subst l1 y1 z1
  obtain ⟨b1_0, b1_1, kb1_0, rfl, N1q, Kq1, tk1_0, tk1_1, tk1_2, tk1_3, tk1_4, tk1_5, tk1_6, tk1_7⟩ := hQ1
  have N1 := Fr.app N0 N1q
  have gn_b1_0 : Z.heap.size ≤ b1_0 := Nat.le_trans O0.2.1 tk1_0
  have gn_b1_1 : Z.heap.size ≤ b1_1 := Nat.le_trans O0.2.1 tk1_1
  have O1 := O0.keep Kq1 all0
  obtain ⟨cq2, kq2, q2a, q2b, q2c⟩ := isOf hZ rfl tk1_3
  obtain ⟨_, _, ⟨T2, L2, k2, n2⟩, -, X2, ⟨Lc2, hQ2, l2, y2, z2⟩, st2⟩ := X1.virtualBack hx (y := (⟨s_0, "length", "()I"⟩ : MethodName)) (z := (⟨s_0, "length", "()I"⟩ : MethodName)) hown (mvT hZ (W hw 67 rfl)) (mvT hZ (W hw 68 rfl)) (notFace_of_selects (args := #[]) (mvT hZ (W hw 70 rfl))) (mvT hZ (W hw 70 rfl)) (mvT hZ (W hw 69 rfl)) (by decide) (backOf (W := 0) (rm_131 l Z a0 hw w kk iw vw hN [] b1_0 b1_1 ((((48 : Int32) - (((((-p0) / (10 : Int32)) / (10 : Int32)) / (10 : Int32)) % (10 : Int32))).toInt8.toInt32).toInt8.toInt32) ((((48 : Int32) - ((((-p0) / (10 : Int32)) / (10 : Int32)) % (10 : Int32))).toInt8.toInt32).toInt8.toInt32) ((((48 : Int32) - (((-p0) / (10 : Int32)) % (10 : Int32))).toInt8.toInt32).toInt8.toInt32) ((((48 : Int32) - ((-p0) % (10 : Int32))).toInt8.toInt32).toInt8.toInt32) kb1_0 T1.heap O1 gn_b1_0 tk1_3.lt tk1_3 gn_b1_1 tk1_6.lt tk1_4 tk1_5 tk1_6 tk1_7 tk1_2) hZ (W hw 71 rfl) (W hw 13 rfl) (by decide) (by decide)) q2a q2c (g := (mkF m 6 #[.val (.int p0), .val (.ref b1_0), .unset] [(.ref b1_0)])) rfl (by rw [hml]; rfl) (Steps.refl _) (argsL := []) (rest := []) (lenOf pd_12 rfl) rfl (by show 2 * 0 + _ ≤ _; exact Nat.le_of_eq rfl) (hb hby at_6) (fun _ _ => ⟨rfl, rfl, (by decide : 3 + 0 ≤ _), (by decide : 19 + 0 ≤ _)⟩)
  dsimp only [Pt.U, Pt.locs, Pt.cells, Pt.slots] at X2 l2 y2 z2 st2 hQ2
  subst l2 y2 z2
  obtain ⟨rfl, N2q, e2⟩ := hQ2
  have N2 := Fr.app N1 N2q
  obtain ⟨cq3, kq3, q3a, q3b, q3c⟩ := isOf hZ e2 tk1_3
  obtain ⟨_, _, ⟨T3, L3, k3, n3⟩, -, X3, ⟨Lc3, hQ3, l3, y3, z3⟩, st3⟩ := X2.virtualBack hx (y := (⟨s_0, "charAt", "(I)C"⟩ : MethodName)) (z := (⟨s_0, "charAt", "(I)C"⟩ : MethodName)) hown (mvT hZ (W hw 77 rfl)) (mvT hZ (W hw 78 rfl)) (notFace_of_selects (args := #[]) (mvT hZ (W hw 80 rfl))) (mvT hZ (W hw 80 rfl)) (mvT hZ (W hw 79 rfl)) (by decide) (backOf (W := 0) (rm_136 l Z a0 hw w kk iw vw hN [] b1_0 b1_1 ((((48 : Int32) - (((((-p0) / (10 : Int32)) / (10 : Int32)) / (10 : Int32)) % (10 : Int32))).toInt8.toInt32).toInt8.toInt32) ((((48 : Int32) - ((((-p0) / (10 : Int32)) / (10 : Int32)) % (10 : Int32))).toInt8.toInt32).toInt8.toInt32) ((((48 : Int32) - (((-p0) / (10 : Int32)) % (10 : Int32))).toInt8.toInt32).toInt8.toInt32) ((((48 : Int32) - ((-p0) % (10 : Int32))).toInt8.toInt32).toInt8.toInt32) kb1_0 T1.heap O1 gn_b1_0 tk1_3.lt tk1_3 gn_b1_1 tk1_6.lt tk1_4 tk1_5 tk1_6 tk1_7 tk1_2) hZ (W hw 81 rfl) (W hw 13 rfl) (by decide) (by decide)) q3a q3c (g := (mkF m 15 #[.val (.int p0), .val (.ref b1_0), .unset] [(.int (0 : Int32)), (.ref b1_0)])) rfl (by rw [hml]; rfl) (Steps.refl _) (argsL := [(.int (0 : Int32))]) (rest := []) (lenOf pd_17 rfl) rfl (by show 2 * 0 + _ ≤ _; exact Nat.le_of_eq rfl) (hb hby at_15) (fun _ _ => ⟨rfl, e2, (by decide : 3 + 0 ≤ _), (by decide : 19 + 0 ≤ _)⟩)
  dsimp only [Pt.U, Pt.locs, Pt.cells, Pt.slots] at X3 l3 y3 z3 st3 hQ3
  subst l3 y3 z3
  obtain ⟨rfl, N3q, e3⟩ := hQ3
  have N3 := Fr.app N2 N3q
  obtain ⟨_, _, ⟨T4, L4, k4, n4⟩, -, X4, ⟨Lc4, hQ4, l4, y4, z4⟩, st4⟩ := Jvm.LawKit.callS X3 hx (y := (⟨s_1, s_15, "(I)Z"⟩ : MethodName)) hown (mvT hZ (W hw 97 rfl)) (mvT hZ (W hw 98 rfl)) (mvT hZ (W hw 2 rfl)) (mvT hZ (W hw 99 rfl)) (by decide) (backOf (W := 0) (rm_138 l Z a0 hw w kk iw vw hN [] p0 T1.heap O1 hp4 hp1) hZ (W hw 99 rfl) (W hw 2 rfl) (by decide) (by decide)) (g := (mkF m 30 #[.val (.int p0), .val (.ref b1_0), .val (.int (1 : Int32))] [(.int p0)])) rfl (by rw [hml]; rfl) (argsL := [(.int p0)]) (rest := []) (lenOf pd_13 rfl) rfl (by show 2 * 0 + _ ≤ _; exact Nat.le_of_eq rfl) (hb hby at_30) (fun _ _ => ⟨rfl, e3, (by decide : 3 + 0 ≤ _), (by decide : 19 + 0 ≤ _)⟩)
  dsimp only [Pt.U, Pt.locs, Pt.cells, Pt.slots] at X4 l4 y4 z4 st4 hQ4
  subst l4 y4 z4
  obtain ⟨rfl, N4q, e4⟩ := hQ4
  have N4 := Fr.app N3 N4q
  obtain ⟨fs, hr, hrun, hended, hW, hsame⟩ := X4.leave (v := some (.int (1 : Int32))) (fun h => by rw [Bd.returns] at h; cases h)
  refine ⟨_, _, castTop (ef_12 m (.int p0) rfl) ?_, hrun, hended, _, _, rfl, ?_, ⟨_, rfl⟩, hW, hsame.mono (by decide) (by decide)⟩
  · show Steps p.tables e below (s₁.setTop (mkF m 0 #[.val (.int p0), .unset, .unset] [])) _
    refine XS.iloadN X0.here hx rfl (hb hby at_0) rfl ?_
    refine st1 _ ?_
    refine XS.astoreN X1.here hx rfl (hb hby at_4) rfl rfl (l' := #[.val (.int p0), .val (.ref b1_0), .unset]) rfl ?_
    refine XS.aloadN X1.here hx rfl (hb hby at_5) rfl rfl ?_
    refine st2.trans ?_
    refine XS.iconst X2.here hx rfl (hb hby at_9) ?_
    refine XS.icmpNo X2.here hx rfl (hb hby at_10) rfl (teq (by decide : (4 : Int32) = (4 : Int32))).2 ?_
    refine XS.aloadN X2.here hx rfl (hb hby at_13) rfl rfl ?_
    refine XS.iconst X2.here hx rfl (hb hby at_14) ?_
    refine st3.trans ?_
    show Steps p.tables e below (T3.setTop (mkF m 18 #[.val (.int p0), .val (.ref b1_0), .unset] [(.int ((((((((48 : Int32) - (((((-p0) / (10 : Int32)) / (10 : Int32)) / (10 : Int32)) % (10 : Int32))).toInt8.toInt32).toInt8.toInt32) &&& (255 : Int32)).toUInt32.toUInt16.toUInt32.toInt32).toUInt32.toUInt16.toUInt32.toInt32).toUInt32.toUInt16.toUInt32.toInt32))])) _
    refine XS.bipush X3.here hx rfl (hb hby at_18) ?_
    refine XS.icmpNo X3.here hx rfl (hb hby at_20) rfl (feq hp3).1 ?_
    refine XS.iconst X3.here hx rfl (hb hby at_23) ?_
    refine XS.goto X3.here hx rfl (pc0 := 24) (pc' := 28) rfl (hb hby at_24) (by decide) (by decide) ?_
    refine XS.istoreN X3.here hx rfl (hb hby at_28) rfl (l' := #[.val (.int p0), .val (.ref b1_0), .val (.int (1 : Int32))]) rfl ?_
    refine XS.iloadN X3.here hx rfl (hb hby at_29) rfl ?_
    refine st4 _ ?_
    refine XS.iloadN X4.here hx rfl (hb hby at_33) rfl ?_
    refine XS.icmpNo X4.here hx rfl (hb hby at_34) rfl (teq (by decide : (1 : Int32) = (1 : Int32))).2 ?_
    refine XS.iconst X4.here hx rfl (hb hby at_37) ?_
    show Steps p.tables e below (T4.setTop (mkF m 38 #[.val (.int p0), .val (.ref b1_0), .val (.int (1 : Int32))] [(.int (1 : Int32))])) _
    refine XS.goto X4.here hx rfl (pc0 := 38) (pc' := 42) rfl (hb hby at_38) (by decide) (by decide) ?_
    show Steps p.tables e below (T4.setTop (mkF m 42 #[.val (.int p0), .val (.ref b1_0), .val (.int (1 : Int32))] [(.int (1 : Int32))])) _
    exact retN X4 hx (t := .boolean) Bd.returns (by simp) (hb hby at_42) hr
  · show OL (some (.int (1 : Int32))) Z.heap.size _ T4.heap _
    exact ⟨rfl, N4⟩
set_option maxRecDepth 65536 in
set_option maxHeartbeats 40000000 in
theorem law_all (l : Launch) (Z : State) (a0 : Array Value) (hw : ∀ d ∈ tables_1, d.before a0 Z = true) (w : Nat → Addr) (kk : Nat → ClassId) (iw : Nat → Int32) (vw : Nat → Value) (hN : Wd Z w kk iw vw) (ws : List Jvm.Cond) (p0 : Int32) (h0 : Heap) (O0 : Old Z Z.heap.size h0) :
    MetFree l x (head1 (Jvm.Cond.code x code maxLocals ret :: ws) room_1) (fun a U => a = #[(.int p0)] ∧ Z.Warmed39 U.vm ∧ U.heap = h0) (fun _ _ _ _ _ => True) (fun _ U o U' => ∃ v L, o = .returned v ∧ OL (some (.int (1 : Int32))) Z.heap.size v U'.heap L ∧ FrameEnd U o U' L 16 128) := by
  by_cases hd0 : p0 < (0 : Int32)
  · by_cases hd1 : (p0 / (10000 : Int32)) = (0 : Int32)
    · have hi3_0 : p0 < (1000 : Int32) := own_neg hd0
      exact law_17 l Z a0 hw w kk iw vw hN ws p0 h0 O0 hd0 hd1 hi3_0
    · by_cases hd2 : ((p0 / (10000 : Int32)) / (10 : Int32)) = (0 : Int32)
      · have hi4_0 : p0 < (1000 : Int32) := own_neg hd0
        exact law_32 l Z a0 hw w kk iw vw hN ws p0 h0 O0 hd0 hd1 hd2 hi4_0
      · by_cases hd3 : (((p0 / (10000 : Int32)) / (10 : Int32)) / (10 : Int32)) = (0 : Int32)
        · have hi5_0 : p0 < (1000 : Int32) := own_neg hd0
          exact law_46 l Z a0 hw w kk iw vw hN ws p0 h0 O0 hd0 hd1 hd2 hd3 hi5_0
        · by_cases hd4 : ((((p0 / (10000 : Int32)) / (10 : Int32)) / (10 : Int32)) / (10 : Int32)) = (0 : Int32)
          · have hi6_0 : p0 < (1000 : Int32) := own_neg hd0
            exact law_60 l Z a0 hw w kk iw vw hN ws p0 h0 O0 hd0 hd1 hd2 hd3 hd4 hi6_0
          · by_cases hd5 : (((((p0 / (10000 : Int32)) / (10 : Int32)) / (10 : Int32)) / (10 : Int32)) / (10 : Int32)) = (0 : Int32)
            · have hi7_0 : p0 < (1000 : Int32) := own_neg hd0
              exact law_74 l Z a0 hw w kk iw vw hN ws p0 h0 O0 hd0 hd1 hd2 hd3 hd4 hd5 hi7_0
            · by_cases hd6 : ((((((p0 / (10000 : Int32)) / (10 : Int32)) / (10 : Int32)) / (10 : Int32)) / (10 : Int32)) / (10 : Int32)) = (0 : Int32)
              · have hi8_0 : p0 < (1000 : Int32) := own_neg hd0
                exact law_88 l Z a0 hw w kk iw vw hN ws p0 h0 O0 hd0 hd1 hd2 hd3 hd4 hd5 hd6 hi8_0
              · have hi8_0 : (((((((p0 / (10000 : Int32)) / (10 : Int32)) / (10 : Int32)) / (10 : Int32)) / (10 : Int32)) / (10 : Int32)) / (10 : Int32)) = (0 : Int32) := own_six p0
                have hi8_1 : p0 < (1000 : Int32) := own_neg hd0
                exact law_99 l Z a0 hw w kk iw vw hN ws p0 h0 O0 hd0 hd1 hd2 hd3 hd4 hd5 hd6 hi8_0 hi8_1
  · by_cases hd1 : (9999 : Int32) < p0
    · by_cases hd2 : (((-p0) / (10000 : Int32)) / (10 : Int32)) = (0 : Int32)
      · have hi4_0 : ¬ (((-p0) / (10000 : Int32)) = (0 : Int32)) := (own_big hd0 hd1).2
        have hi4_1 : ¬ (p0 < (1000 : Int32)) := (own_big hd0 hd1).1
        exact law_103 l Z a0 hw w kk iw vw hN ws p0 h0 O0 hd0 hd1 hi4_0 hd2 hi4_1
      · by_cases hd3 : ((((-p0) / (10000 : Int32)) / (10 : Int32)) / (10 : Int32)) = (0 : Int32)
        · have hi5_0 : ¬ (((-p0) / (10000 : Int32)) = (0 : Int32)) := (own_big hd0 hd1).2
          have hi5_1 : ¬ (p0 < (1000 : Int32)) := (own_big hd0 hd1).1
          exact law_106 l Z a0 hw w kk iw vw hN ws p0 h0 O0 hd0 hd1 hi5_0 hd2 hd3 hi5_1
        · by_cases hd4 : (((((-p0) / (10000 : Int32)) / (10 : Int32)) / (10 : Int32)) / (10 : Int32)) = (0 : Int32)
          · have hi6_0 : ¬ (((-p0) / (10000 : Int32)) = (0 : Int32)) := (own_big hd0 hd1).2
            have hi6_1 : ¬ (p0 < (1000 : Int32)) := (own_big hd0 hd1).1
            exact law_109 l Z a0 hw w kk iw vw hN ws p0 h0 O0 hd0 hd1 hi6_0 hd2 hd3 hd4 hi6_1
          · by_cases hd5 : ((((((-p0) / (10000 : Int32)) / (10 : Int32)) / (10 : Int32)) / (10 : Int32)) / (10 : Int32)) = (0 : Int32)
            · have hi7_0 : ¬ (((-p0) / (10000 : Int32)) = (0 : Int32)) := (own_big hd0 hd1).2
              have hi7_1 : ¬ (p0 < (1000 : Int32)) := (own_big hd0 hd1).1
              exact law_112 l Z a0 hw w kk iw vw hN ws p0 h0 O0 hd0 hd1 hi7_0 hd2 hd3 hd4 hd5 hi7_1
            · by_cases hd6 : (((((((-p0) / (10000 : Int32)) / (10 : Int32)) / (10 : Int32)) / (10 : Int32)) / (10 : Int32)) / (10 : Int32)) = (0 : Int32)
              · have hi8_0 : ¬ (((-p0) / (10000 : Int32)) = (0 : Int32)) := (own_big hd0 hd1).2
                have hi8_1 : ¬ (p0 < (1000 : Int32)) := (own_big hd0 hd1).1
                exact law_115 l Z a0 hw w kk iw vw hN ws p0 h0 O0 hd0 hd1 hi8_0 hd2 hd3 hd4 hd5 hd6 hi8_1
              · have hi8_0 : ¬ (((-p0) / (10000 : Int32)) = (0 : Int32)) := (own_big hd0 hd1).2
                have hi8_1 : ((((((((-p0) / (10000 : Int32)) / (10 : Int32)) / (10 : Int32)) / (10 : Int32)) / (10 : Int32)) / (10 : Int32)) / (10 : Int32)) = (0 : Int32) := own_six (-p0)
                have hi8_2 : ¬ (p0 < (1000 : Int32)) := (own_big hd0 hd1).1
                exact law_118 l Z a0 hw w kk iw vw hN ws p0 h0 O0 hd0 hd1 hi8_0 hd2 hd3 hd4 hd5 hd6 hi8_1 hi8_2
    · by_cases hd2 : ((((((((48 : Int32) - (((((-p0) / (10 : Int32)) / (10 : Int32)) / (10 : Int32)) % (10 : Int32))).toInt8.toInt32).toInt8.toInt32) &&& (255 : Int32)).toUInt32.toUInt16.toUInt32.toInt32).toUInt32.toUInt16.toUInt32.toInt32).toUInt32.toUInt16.toUInt32.toInt32) = (48 : Int32)
      · have hi4_0 : ((-p0) / (10000 : Int32)) = (0 : Int32) := own_in hd0 hd1
        have hi4_1 : p0 < (1000 : Int32) := (own_dig hd0 hd1).mp hd2
        exact law_137 l Z a0 hw w kk iw vw hN ws p0 h0 O0 hd0 hd1 hi4_0 hd2 hi4_1
      · have hi4_0 : ((-p0) / (10000 : Int32)) = (0 : Int32) := own_in hd0 hd1
        have hi4_1 : ¬ (p0 < (1000 : Int32)) := fun q => hd2 ((own_dig hd0 hd1).mpr q)
        exact law_139 l Z a0 hw w kk iw vw hN ws p0 h0 O0 hd0 hd1 hi4_0 hd2 hi4_1
set_option maxRecDepth 65536 in
set_option maxHeartbeats 40000000 in
theorem comes_1 {Post : Tables → Env → Array Value → State → Outcome → State → Prop} (hpost : ∀ tb e args s v u, (limb_1_1.after args s (.returned v) u = true ∧ limb_1_2.after args s (.returned v) u = true ∧ True) → FrameEnd s (.returned v) u (Jvm.fieldLocs frame_1_writes args s ++ Jvm.arrayLocs frame_1_arrays args s ++ Jvm.staticLocs frame_1_statics s) 16 128 → Post tb e args s (.returned v) u) :
    ArmFor flags0 classFile x code maxLocals ret World_1 tables_1 room_1 Calls_1 rest_1 Pre_1 Post := by
  intro l hfl _ _ p e ha hc hk s m args below hf hA hF happ hP
  obtain ⟨hcalls, hrest, hpre⟩ := hP
  obtain ⟨-, -, -, hnamed, -, -, -, hat⟩ := (Spec.applies_iff hf).mp happ
  obtain ⟨hg, hn⟩ := and_e (Cond.before_iff.mp (show (Jvm.Cond.and given_1 narrow_1).before args s = true from hpre))
  obtain ⟨g1, g2⟩ := and_e hg
  obtain ⟨w0, rfl⟩ : ∃ w0 : Value, args = #[w0] := by
    have hs : args.size = 1 := by simpa [Cond.value, given_1] using g1
    obtain ⟨L⟩ := args
    match L, hs with
    | [w0], _ => exact ⟨w0, rfl⟩
  have hw := fun d (hd : d ∈ tables_1) => atoms_spec (ws := Jvm.Cond.code x code maxLocals ret :: tables_1) hat d (List.mem_cons_of_mem _ hd)
  have hfit : Fit s := fun {y c} hc i hi => by
    obtain ⟨ha, rfl⟩ := Array.getElem?_eq_some_iff.mp hc
    have q := List.all_eq_true.mp ((Array.all_eq_true_iff_forall_mem.mp hF) _ (Array.getElem_mem ha)) i (List.mem_range.mpr hi)
    simpa [Array.getElem?_eq_getElem hi] using q
  obtain ⟨i0, ei0⟩ := is_v g2
  obtain rfl : w0 = (.int i0) := Option.some.inj ei0
  obtain ⟨hsets, hown0⟩ := atoms_of _ (rest_1_c_eq ▸ (show rest_1_c.before _ s = true from hrest))
  obtain ⟨x0, v0⟩ := exa_v (Cond.before_iff.mp (hsets _ (List.mem_of_getElem? (i := 5) rfl)))
  obtain ⟨x1, v1⟩ := exa_v (Cond.before_iff.mp (hsets _ (List.mem_of_getElem? (i := 17) rfl)))
  obtain ⟨x2, v2⟩ := exa_v (Cond.before_iff.mp (hsets _ (List.mem_of_getElem? (i := 20) rfl)))
  obtain ⟨ci0, vi0⟩ := is_v (Cond.before_iff.mp (hsets _ (List.mem_of_getElem? (i := 7) rfl)))
  obtain ⟨cr0, vr0, rr0⟩ := isR_v (Cond.before_iff.mp (hsets _ (List.mem_of_getElem? (i := 14) rfl)))
  have hN : Wd s (fun n => [x0, x1, x2].getD n 0) (fun n => [0, 0, 0].getD n 0) (fun n => [ci0].getD n 0) (fun n => [cr0].getD n .null) := ⟨Sta.start v0 (Or.inl (hsets _ (List.mem_of_getElem? (i := 1) rfl))), Exa.start v0 (Cond.before_iff.mp (hsets _ (List.mem_of_getElem? (i := 5) rfl))), Sta.start v1 (Or.inl (hsets _ (List.mem_of_getElem? (i := 16) rfl))), Exa.start v1 (Cond.before_iff.mp (hsets _ (List.mem_of_getElem? (i := 17) rfl))), Sta.start v2 (Or.inl (hsets _ (List.mem_of_getElem? (i := 19) rfl))), Exa.start v2 (Cond.before_iff.mp (hsets _ (List.mem_of_getElem? (i := 20) rfl))), Sta.start vi0 (Or.inl (hsets _ (List.mem_of_getElem? (i := 6) rfl))), own_nz vi0 (Cond.before_iff.mp (hsets _ (List.mem_of_getElem? (i := 8) rfl))), Sta.start vr0 (Or.inl (hsets _ (List.mem_of_getElem? (i := 13) rfl))), rr0, (Value.ref.inj (Option.some.inj (v0.symm.trans (own_eqv (Cond.before_iff.mp (hsets _ (List.mem_of_getElem? (i := 4) rfl))) v2))))⟩
  obtain ⟨n, o, h1, h2, h3, _, L, rfl, ⟨rfl, N⟩, hq⟩ := law_all l s _ hw _ _ _ _ hN tables_1 i0 s.heap (Old.start s) p e ha hc hk s m _ below hf ((Spec.applies_iff_loose hf).mp happ).1 ⟨rfl, State.Warmed39.refl s, rfl⟩ trivial
  refine ⟨n, _, h1, h2, h3, hpost _ _ _ _ _ _ ⟨Cond.after_iff.mpr rfl, Cond.after_iff.mpr (eq_i res_at (Term.int_eval (1)) rfl), trivial⟩ ⟨hq.1, hq.2.1, (hq.2.2.sift fun y hy => Or.inr (N y hy)).mono (by decide) (by decide)⟩⟩
theorem main_1_1 : Claimed_1_1 := comes_1 fun _ _ _ _ _ _ h hF => ⟨h.1, hF⟩
theorem main_1_2 : Claimed_1_2 := comes_1 fun _ _ _ _ _ _ h hF => ⟨h.2.1, hF⟩
end Jvm.Pilot.@@N@@
namespace Jvm.Pilot.@@N@@
open Jvm Jvm.ClassFile Sem Op Lib Jvm.Free Jvm.Stand Jvm.Pilot.@@N@@.Jvm.D
/-! MADE BY PROGRAM (witnessworld.py) out of the Statement's table words and the real class files: 27 classes; the members and pool entries that the words name. The judged class is class 1, her method 1. -/
namespace start1
open Jvm.ClassFile
def u (s : String) : CpInfo := .utf8 (stringToUtf16 s)
/-- a pool by its gaps: so many unusable entries, then the entry; so many at the end -/
def gap : Nat → List CpInfo → List CpInfo
  | 0, r => r
  | n + 1, r => .unusable :: gap n r
def poolList (es : List (Nat × CpInfo)) (last : Nat) : List CpInfo := es.foldr (fun e r => gap e.1 (e.2 :: r)) (gap last [])
def pool (es : List (Nat × CpInfo)) (last : Nat) : Array CpInfo := ⟨poolList es last⟩
def fileOf (pool : Array CpInfo) (this : Nat) (attrs : Array Attribute := #[]) (ms : Array MethodInfo := #[]) (fl : Nat := 33) (sup : Nat := 0) (ifs : Array Nat := #[]) (fds : Array FieldInfo := #[]) : ClassFile where
  minorVersion := 0
  majorVersion := 65
  constantPool := pool
  accessFlags := fl
  thisClass := this
  superClass := sup
  interfaces := ifs
  fields := fds
  methods := ms
  attributes := attrs
def plain (name : String) (sup : Option ClassId) : Class where
  name := name
  kind := .ordinary
  loader := none
  accessFlags := 33
  super := sup
  interfaces := #[]
  cf := none
  fields := #[]
  methods := #[]
  instanceTypes := #[]
  staticTypes := #[]
  resolved := #[]
  callSites := []
  init := .initialized
  statics := none
  mirror := none

def pool0 : Array CpInfo := pool [(5, u "<init>"), (0, u "()V"), (1, .class_ 10), (1, u "java/lang/Object"), (85, u "clone"), (0, u "()Ljava/lang/Object;")] 26

def k0c0 : Code := { maxStack := 0, maxLocals := 1, code := object_method_1_code, exceptionTable := #[], attributes := #[] }
def k0m0 : Method := { name := "<init>", desc := "()V", sig := { parameters := [], returnType := none }, accessFlags := 1, code := some k0c0 }
def k0m1 : Method := { name := "clone", desc := "()Ljava/lang/Object;", sig := { parameters := [], returnType := some (.object "java/lang/Object") }, accessFlags := 260, code := none }
/-- java/lang/Object -/
def k0 : Class := { plain "java/lang/Object" none with
  accessFlags := 33
  interfaces := #[]
  cf := some (fileOf pool0 8 #[] #[{ accessFlags := 1, nameIndex := 5, descriptorIndex := 6, attributes := #[] }, { accessFlags := 260, nameIndex := 96, descriptorIndex := 97, attributes := #[] }] 33 0 #[] #[])
  fields := #[]
  methods := #[k0m0, k0m1]
  instanceTypes := #[]
  staticTypes := #[]
  resolved := Array.replicate 124 none
  statics := none }

def pool1 : Array CpInfo := pool [(2, .class_ 4), (1, u "java/lang/Object"), (0, u "<init>"), (0, u "()V"), (0, .methodref 8 9), (0, .class_ 10), (0, .nameAndType 11 12), (0, u "com/example/kalendae/kalendae/calendar/IsoText"), (0, u "yearText"), (0, u "(I)Ljava/lang/String;"), (0, .methodref 14 15), (0, .class_ 16), (0, .nameAndType 17 18), (0, u "java/lang/String"), (0, u "length"), (0, u "()I"), (0, .methodref 14 20), (0, .nameAndType 21 22), (0, u "charAt"), (0, u "(I)C"), (0, .methodref 8 24), (0, .nameAndType 25 26), (0, u "writesAsNumber"), (0, u "(I)Z"), (0, .class_ 28), (0, u "com/example/kalendae/kalendae/calendar/IsoTextWritesAsNumberPinLaw"), (2, u "law")] 3

def k1m0 : Method := { name := "<init>", desc := "()V", sig := { parameters := [], returnType := none }, accessFlags := 2, code := none }
def k1c1 : Code := { maxStack := 2, maxLocals := 3, code := code, exceptionTable := #[], attributes := #[] }
def k1m1 : Method := { name := "law", desc := "(I)Z", sig := { parameters := [.int], returnType := some .boolean }, accessFlags := 9, code := some k1c1 }
/-- com/example/kalendae/kalendae/calendar/IsoTextWritesAsNumberPinLaw -/
def k1 : Class := { plain "com/example/kalendae/kalendae/calendar/IsoTextWritesAsNumberPinLaw" (some 0) with
  accessFlags := 49
  interfaces := #[]
  cf := some (fileOf pool1 27 #[] #[{ accessFlags := 2, nameIndex := 5, descriptorIndex := 6, attributes := #[] }, { accessFlags := 9, nameIndex := 31, descriptorIndex := 26, attributes := #[] }] 49 2 #[] #[])
  fields := #[]
  methods := #[k1m0, k1m1]
  instanceTypes := #[]
  staticTypes := #[]
  resolved := Array.replicate 35 none
  statics := none }

def pool2 : Array CpInfo := pool [(4, .class_ 6), (1, u "java/lang/Object"), (0, u "<init>"), (0, u "()V"), (0, .class_ 10), (0, u "com/example/kalendae/kalendae/calendar/IsoText"), (0, .methodref 9 12), (0, .nameAndType 13 14), (0, u "writeYear"), (0, u "([BI)I"), (4, .methodref 9 20), (0, .nameAndType 21 22), (0, u "string"), (0, u "([BI)Ljava/lang/String;"), (0, .class_ 24), (0, u "java/lang/String"), (0, .fieldref 26 27), (0, .class_ 28), (0, .nameAndType 29 30), (0, u "java/nio/charset/StandardCharsets"), (0, u "ISO_8859_1"), (0, u "Ljava/nio/charset/Charset;"), (0, .methodref 23 32), (0, .nameAndType 7 33), (0, u "([BIILjava/nio/charset/Charset;)V"), (46, u "NOT_A_YEAR"), (0, u "I"), (1, u "LONGEST_YEAR"), (1, u "MOST_DIGITS_READ"), (7, u "yearText"), (0, u "(I)Ljava/lang/String;"), (0, u "writesAsNumber"), (0, u "(I)Z")] 25

def k2m0 : Method := { name := "<init>", desc := "()V", sig := { parameters := [], returnType := none }, accessFlags := 2, code := none }
def k2c1 : Code := { maxStack := 3, maxLocals := 2, code := prog_22_method_4_code, exceptionTable := #[], attributes := #[] }
def k2m1 : Method := { name := "yearText", desc := "(I)Ljava/lang/String;", sig := { parameters := [.int], returnType := some (.object "java/lang/String") }, accessFlags := 8, code := some k2c1 }
def k2c2 : Code := { maxStack := 2, maxLocals := 1, code := prog_22_method_5_code, exceptionTable := #[], attributes := #[] }
def k2m2 : Method := { name := "writesAsNumber", desc := "(I)Z", sig := { parameters := [.int], returnType := some .boolean }, accessFlags := 8, code := some k2c2 }
def k2c3 : Code := { maxStack := 5, maxLocals := 7, code := prog_22_method_7_code, exceptionTable := #[], attributes := #[] }
def k2m3 : Method := { name := "writeYear", desc := "([BI)I", sig := { parameters := [(.array .byte), .int], returnType := some .int }, accessFlags := 10, code := some k2c3 }
def k2c4 : Code := { maxStack := 6, maxLocals := 2, code := prog_22_method_9_code, exceptionTable := #[], attributes := #[] }
def k2m4 : Method := { name := "string", desc := "([BI)Ljava/lang/String;", sig := { parameters := [(.array .byte), .int], returnType := some (.object "java/lang/String") }, accessFlags := 10, code := some k2c4 }
/-- com/example/kalendae/kalendae/calendar/IsoText -/
def k2 : Class := { plain "com/example/kalendae/kalendae/calendar/IsoText" (some 0) with
  accessFlags := 32
  interfaces := #[]
  cf := some (fileOf pool2 9 #[] #[{ accessFlags := 2, nameIndex := 7, descriptorIndex := 8, attributes := #[] }, { accessFlags := 8, nameIndex := 93, descriptorIndex := 94, attributes := #[] }, { accessFlags := 8, nameIndex := 95, descriptorIndex := 96, attributes := #[] }, { accessFlags := 10, nameIndex := 13, descriptorIndex := 14, attributes := #[] }, { accessFlags := 10, nameIndex := 21, descriptorIndex := 22, attributes := #[] }] 32 4 #[] #[{ accessFlags := 26, nameIndex := 80, descriptorIndex := 81, attributes := #[] }, { accessFlags := 26, nameIndex := 83, descriptorIndex := 81, attributes := #[] }, { accessFlags := 26, nameIndex := 85, descriptorIndex := 81, attributes := #[] }])
  fields := #[{ name := "NOT_A_YEAR", type := .int, accessFlags := 26, slot := 0, constantValue := 0 }, { name := "LONGEST_YEAR", type := .int, accessFlags := 26, slot := 1, constantValue := 0 }, { name := "MOST_DIGITS_READ", type := .int, accessFlags := 26, slot := 2, constantValue := 0 }]
  methods := #[k2m0, k2m1, k2m2, k2m3, k2m4]
  instanceTypes := #[]
  staticTypes := #[.int, .int, .int]
  resolved := Array.replicate 122 none
  statics := none }

def pool3 : Array CpInfo := pool [(1, .class_ 2), (0, u "java/io/Serializable"), (0, .class_ 4), (0, u "java/lang/Object")] 2

/-- java/io/Serializable -/
def k3 : Class := { plain "java/io/Serializable" (some 0) with
  accessFlags := 1537
  interfaces := #[]
  cf := some (fileOf pool3 1 #[] #[] 1537 3 #[] #[])
  fields := #[]
  methods := #[]
  instanceTypes := #[]
  staticTypes := #[]
  resolved := Array.replicate 7 none
  statics := none }

def pool4 : Array CpInfo := pool [(1, .class_ 2), (0, u "java/lang/Comparable"), (0, .class_ 4), (0, u "java/lang/Object")] 7

/-- java/lang/Comparable -/
def k4 : Class := { plain "java/lang/Comparable" (some 0) with
  accessFlags := 1537
  interfaces := #[]
  cf := some (fileOf pool4 1 #[] #[] 1537 3 #[] #[])
  fields := #[]
  methods := #[]
  instanceTypes := #[]
  staticTypes := #[]
  resolved := Array.replicate 12 none
  statics := none }

def pool5 : Array CpInfo := pool [(2, .class_ 4), (1, u "java/lang/CharSequence"), (42, .class_ 48), (0, u "java/lang/CharSequence$1CodePointIterator"), (10, .class_ 60), (0, u "java/lang/CharSequence$1CharIterator"), (5, .class_ 67), (0, u "java/lang/Object")] 63

/-- java/lang/CharSequence -/
def k5 : Class := { plain "java/lang/CharSequence" (some 0) with
  accessFlags := 1537
  interfaces := #[]
  cf := some (fileOf pool5 2 #[.nestMembers #[47, 59]] #[] 1537 66 #[] #[])
  fields := #[]
  methods := #[]
  instanceTypes := #[]
  staticTypes := #[]
  resolved := Array.replicate 131 none
  statics := none }

def pool6 : Array CpInfo := pool [(1, .class_ 2), (0, u "java/lang/constant/Constable"), (0, .class_ 4), (0, u "java/lang/Object")] 6

/-- java/lang/constant/Constable -/
def k6 : Class := { plain "java/lang/constant/Constable" (some 0) with
  accessFlags := 1537
  interfaces := #[]
  cf := some (fileOf pool6 1 #[] #[] 1537 3 #[] #[])
  fields := #[]
  methods := #[]
  instanceTypes := #[]
  staticTypes := #[]
  resolved := Array.replicate 11 none
  statics := none }

def pool7 : Array CpInfo := pool [(1, .class_ 2), (0, u "java/lang/constant/ConstantDesc"), (0, .class_ 4), (0, u "java/lang/Object")] 32

/-- java/lang/constant/ConstantDesc -/
def k7 : Class := { plain "java/lang/constant/ConstantDesc" (some 0) with
  accessFlags := 1537
  interfaces := #[]
  cf := some (fileOf pool7 1 #[] #[] 1537 3 #[] #[])
  fields := #[]
  methods := #[]
  instanceTypes := #[]
  staticTypes := #[]
  resolved := Array.replicate 37 none
  statics := none }

def pool8 : Array CpInfo := pool [(1, .methodref 2 3), (0, .class_ 4), (0, .nameAndType 5 6), (0, u "java/lang/Object"), (0, u "<init>"), (0, u "()V"), (2, .fieldref 10 11), (0, .class_ 12), (0, .nameAndType 13 14), (0, u "java/lang/String"), (0, u "value"), (0, u "[B"), (0, .fieldref 10 16), (0, .nameAndType 17 18), (0, u "coder"), (0, u "B"), (2, u "hash"), (0, u "I"), (2, u "hashIsZero"), (0, u "Z"), (7, .methodref 10 35), (0, .nameAndType 36 37), (0, u "checkBoundsOffCount"), (0, u "(III)I"), (0, .fieldref 10 39), (0, .nameAndType 40 26), (0, u "COMPACT_STRINGS"), (13, .methodref 55 56), (0, .class_ 57), (0, .nameAndType 58 59), (0, u "java/util/Arrays"), (0, u "copyOfRange"), (0, u "([BII)[B"), (15, .methodref 10 76), (0, .nameAndType 5 77), (0, u "(Ljava/nio/charset/Charset;[BII)V"), (0, .methodref 79 80), (0, .class_ 81), (0, .nameAndType 82 83), (0, u "java/util/Objects"), (0, u "requireNonNull"), (0, u "(Ljava/lang/Object;)Ljava/lang/Object;"), (0, .class_ 85), (0, u "java/nio/charset/Charset"), (0, .fieldref 87 88), (0, .class_ 89), (0, .nameAndType 90 91), (0, u "sun/nio/cs/UTF_8"), (0, u "INSTANCE"), (0, u "Lsun/nio/cs/UTF_8;"), (15, .class_ 109), (1, u "java/lang/StringLatin1"), (6, .fieldref 117 118), (0, .class_ 119), (0, .nameAndType 90 120), (0, u "sun/nio/cs/ISO_8859_1"), (0, u "Lsun/nio/cs/ISO_8859_1;"), (21, u "()Z"), (95, u "([BIILjava/nio/charset/Charset;)V"), (95, u "()I"), (0, .methodref 10 336), (0, .nameAndType 17 337), (0, u "()B"), (25, u "([BI)C"), (27, u "(II)V"), (35, u "(I)C"), (64, .methodref 10 493), (0, .nameAndType 494 142), (0, u "isLatin1"), (0, .methodref 107 496), (0, .nameAndType 497 363), (0, u "charAt"), (3, u "checkIndex"), (5, u "length"), (67, .class_ 576), (0, u "java/lang/CharSequence"), (22, u "CASE_INSENSITIVE_ORDER"), (0, u "Ljava/util/Comparator;"), (452, .fieldref 1054 1055), (0, .class_ 1056), (0, .nameAndType 1057 1058), (0, u "jdk/internal/util/Preconditions"), (0, u "SIOOBE_FORMATTER"), (0, u "Ljava/util/function/BiFunction;"), (0, .methodref 1054 1060), (0, .nameAndType 501 1061), (0, u "(IILjava/util/function/BiFunction;)I"), (2, u "(IIILjava/util/function/BiFunction;)I"), (0, .methodref 1054 1066), (0, .nameAndType 1067 1064), (0, u "checkFromIndexSize"), (33, u "serialPersistentFields"), (0, u "[Ljava/io/ObjectStreamField;"), (0, .class_ 1104), (0, u "java/lang/String$CaseInsensitiveComparator"), (1, .class_ 1107), (0, u "java/io/Serializable"), (0, .class_ 1109), (0, u "java/lang/Comparable"), (0, .class_ 1111), (0, u "java/lang/constant/Constable"), (0, .class_ 1113), (0, u "java/lang/constant/ConstantDesc"), (2, u "serialVersionUID"), (0, u "J"), (3, u "REPL"), (0, u "C"), (2, u "LATIN1"), (1, u "UTF16")] 323

def k8m0 : Method := { name := "<init>", desc := "()V", sig := { parameters := [], returnType := none }, accessFlags := 1, code := none }
def k8c1 : Code := { maxStack := 6, maxLocals := 5, code := jdk_42_method_10_code, exceptionTable := #[], attributes := #[] }
def k8m1 : Method := { name := "<init>", desc := "([BIILjava/nio/charset/Charset;)V", sig := { parameters := [(.array .byte), .int, .int, (.object "java/nio/charset/Charset")], returnType := none }, accessFlags := 1, code := some k8c1 }
def k8c2 : Code := { maxStack := 6, maxLocals := 11, code := jdk_42_method_11_code, exceptionTable := #[{ startPc := 800, endPc := 813, handlerPc := 816, catchType := 202 }], attributes := #[] }
def k8m2 : Method := { name := "<init>", desc := "(Ljava/nio/charset/Charset;[BII)V", sig := { parameters := [(.object "java/nio/charset/Charset"), (.array .byte), .int, .int], returnType := none }, accessFlags := 2, code := some k8c2 }
def k8c3 : Code := { maxStack := 2, maxLocals := 1, code := jdk_42_method_54_code, exceptionTable := #[], attributes := #[] }
def k8m3 : Method := { name := "length", desc := "()I", sig := { parameters := [], returnType := some .int }, accessFlags := 1, code := some k8c3 }
def k8c4 : Code := { maxStack := 2, maxLocals := 2, code := jdk_42_method_56_code, exceptionTable := #[], attributes := #[] }
def k8m4 : Method := { name := "charAt", desc := "(I)C", sig := { parameters := [.int], returnType := some .char }, accessFlags := 1, code := some k8c4 }
def k8c5 : Code := { maxStack := 1, maxLocals := 1, code := jdk_42_method_152_code, exceptionTable := #[], attributes := #[] }
def k8m5 : Method := { name := "coder", desc := "()B", sig := { parameters := [], returnType := some .byte }, accessFlags := 0, code := some k8c5 }
def k8c6 : Code := { maxStack := 1, maxLocals := 1, code := jdk_42_method_154_code, exceptionTable := #[], attributes := #[] }
def k8m6 : Method := { name := "isLatin1", desc := "()Z", sig := { parameters := [], returnType := some .boolean }, accessFlags := 0, code := some k8c6 }
def k8c7 : Code := { maxStack := 3, maxLocals := 2, code := jdk_42_method_155_code, exceptionTable := #[], attributes := #[] }
def k8m7 : Method := { name := "checkIndex", desc := "(II)V", sig := { parameters := [.int, .int], returnType := none }, accessFlags := 8, code := some k8c7 }
def k8c8 : Code := { maxStack := 4, maxLocals := 3, code := jdk_42_method_157_code, exceptionTable := #[], attributes := #[] }
def k8m8 : Method := { name := "checkBoundsOffCount", desc := "(III)I", sig := { parameters := [.int, .int, .int], returnType := some .int }, accessFlags := 8, code := some k8c8 }
/-- java/lang/String -/
def k8 : Class := { plain "java/lang/String" (some 0) with
  accessFlags := 49
  interfaces := #[3, 4, 5, 6, 7]
  cf := some (fileOf pool8 10 #[.nestMembers #[1103]] #[{ accessFlags := 1, nameIndex := 5, descriptorIndex := 6, attributes := #[] }, { accessFlags := 1, nameIndex := 5, descriptorIndex := 238, attributes := #[] }, { accessFlags := 2, nameIndex := 5, descriptorIndex := 77, attributes := #[] }, { accessFlags := 1, nameIndex := 507, descriptorIndex := 334, attributes := #[] }, { accessFlags := 1, nameIndex := 497, descriptorIndex := 427, attributes := #[] }, { accessFlags := 0, nameIndex := 17, descriptorIndex := 337, attributes := #[] }, { accessFlags := 0, nameIndex := 494, descriptorIndex := 142, attributes := #[] }, { accessFlags := 8, nameIndex := 501, descriptorIndex := 391, attributes := #[] }, { accessFlags := 8, nameIndex := 36, descriptorIndex := 37, attributes := #[] }] 49 2 #[1106, 1108, 575, 1110, 1112] #[{ accessFlags := 18, nameIndex := 13, descriptorIndex := 14, attributes := #[] }, { accessFlags := 18, nameIndex := 17, descriptorIndex := 18, attributes := #[] }, { accessFlags := 2, nameIndex := 21, descriptorIndex := 22, attributes := #[] }, { accessFlags := 2, nameIndex := 25, descriptorIndex := 26, attributes := #[] }, { accessFlags := 26, nameIndex := 1116, descriptorIndex := 1117, attributes := #[] }, { accessFlags := 24, nameIndex := 40, descriptorIndex := 26, attributes := #[] }, { accessFlags := 26, nameIndex := 1101, descriptorIndex := 1102, attributes := #[] }, { accessFlags := 26, nameIndex := 1121, descriptorIndex := 1122, attributes := #[] }, { accessFlags := 25, nameIndex := 599, descriptorIndex := 600, attributes := #[] }, { accessFlags := 24, nameIndex := 1125, descriptorIndex := 18, attributes := #[] }, { accessFlags := 24, nameIndex := 1127, descriptorIndex := 18, attributes := #[] }])
  fields := #[{ name := "value", type := (.array .byte), accessFlags := 18, slot := 0, constantValue := 0 }, { name := "coder", type := .byte, accessFlags := 18, slot := 1, constantValue := 0 }, { name := "hash", type := .int, accessFlags := 2, slot := 2, constantValue := 0 }, { name := "hashIsZero", type := .boolean, accessFlags := 2, slot := 3, constantValue := 0 }, { name := "serialVersionUID", type := .long, accessFlags := 26, slot := 0, constantValue := 0 }, { name := "COMPACT_STRINGS", type := .boolean, accessFlags := 24, slot := 1, constantValue := 0 }, { name := "serialPersistentFields", type := (.array (.object "java/io/ObjectStreamField")), accessFlags := 26, slot := 2, constantValue := 0 }, { name := "REPL", type := .char, accessFlags := 26, slot := 3, constantValue := 0 }, { name := "CASE_INSENSITIVE_ORDER", type := (.object "java/util/Comparator"), accessFlags := 25, slot := 4, constantValue := 0 }, { name := "LATIN1", type := .byte, accessFlags := 24, slot := 5, constantValue := 0 }, { name := "UTF16", type := .byte, accessFlags := 24, slot := 6, constantValue := 0 }]
  methods := #[k8m0, k8m1, k8m2, k8m3, k8m4, k8m5, k8m6, k8m7, k8m8]
  instanceTypes := #[(.array .byte), .byte, .int, .boolean]
  staticTypes := #[.long, .boolean, (.array (.object "java/io/ObjectStreamField")), .char, (.object "java/util/Comparator"), .byte, .byte]
  resolved := Array.replicate 1451 none
  statics := some 0 }

def pool9 : Array CpInfo := pool [(2, .class_ 4), (1, u "java/lang/Object"), (0, u "<init>"), (0, u "()V"), (14, .class_ 23), (1, u "java/nio/charset/StandardCharsets"), (0, u "US_ASCII"), (0, u "Ljava/nio/charset/Charset;"), (7, u "ISO_8859_1"), (7, u "UTF_8"), (5, u "UTF_16BE"), (5, u "UTF_16LE"), (5, u "UTF_16")] 8

def k9m0 : Method := { name := "<init>", desc := "()V", sig := { parameters := [], returnType := none }, accessFlags := 2, code := none }
/-- java/nio/charset/StandardCharsets -/
def k9 : Class := { plain "java/nio/charset/StandardCharsets" (some 0) with
  accessFlags := 49
  interfaces := #[]
  cf := some (fileOf pool9 21 #[] #[{ accessFlags := 2, nameIndex := 5, descriptorIndex := 6, attributes := #[] }] 49 2 #[] #[{ accessFlags := 25, nameIndex := 24, descriptorIndex := 25, attributes := #[] }, { accessFlags := 25, nameIndex := 33, descriptorIndex := 25, attributes := #[] }, { accessFlags := 25, nameIndex := 41, descriptorIndex := 25, attributes := #[] }, { accessFlags := 25, nameIndex := 47, descriptorIndex := 25, attributes := #[] }, { accessFlags := 25, nameIndex := 53, descriptorIndex := 25, attributes := #[] }, { accessFlags := 25, nameIndex := 59, descriptorIndex := 25, attributes := #[] }])
  fields := #[{ name := "US_ASCII", type := (.object "java/nio/charset/Charset"), accessFlags := 25, slot := 0, constantValue := 0 }, { name := "ISO_8859_1", type := (.object "java/nio/charset/Charset"), accessFlags := 25, slot := 1, constantValue := 0 }, { name := "UTF_8", type := (.object "java/nio/charset/Charset"), accessFlags := 25, slot := 2, constantValue := 0 }, { name := "UTF_16BE", type := (.object "java/nio/charset/Charset"), accessFlags := 25, slot := 3, constantValue := 0 }, { name := "UTF_16LE", type := (.object "java/nio/charset/Charset"), accessFlags := 25, slot := 4, constantValue := 0 }, { name := "UTF_16", type := (.object "java/nio/charset/Charset"), accessFlags := 25, slot := 5, constantValue := 0 }]
  methods := #[k9m0]
  instanceTypes := #[]
  staticTypes := #[(.object "java/nio/charset/Charset"), (.object "java/nio/charset/Charset"), (.object "java/nio/charset/Charset"), (.object "java/nio/charset/Charset"), (.object "java/nio/charset/Charset"), (.object "java/nio/charset/Charset")]
  resolved := Array.replicate 68 none
  statics := some 1 }

def pool10 : Array CpInfo := pool [(2, .class_ 4), (1, u "java/lang/Object"), (0, u "<init>"), (0, u "()V"), (35, .class_ 44), (1, u "java/util/Objects"), (0, u "requireNonNull"), (0, u "(Ljava/lang/Object;)Ljava/lang/Object;")] 137

def k10m0 : Method := { name := "<init>", desc := "()V", sig := { parameters := [], returnType := none }, accessFlags := 2, code := none }
def k10c1 : Code := { maxStack := 2, maxLocals := 1, code := jdk_31_method_10_code, exceptionTable := #[], attributes := #[] }
def k10m1 : Method := { name := "requireNonNull", desc := "(Ljava/lang/Object;)Ljava/lang/Object;", sig := { parameters := [(.object "java/lang/Object")], returnType := some (.object "java/lang/Object") }, accessFlags := 9, code := some k10c1 }
/-- java/util/Objects -/
def k10 : Class := { plain "java/util/Objects" (some 0) with
  accessFlags := 49
  interfaces := #[]
  cf := some (fileOf pool10 42 #[] #[{ accessFlags := 2, nameIndex := 5, descriptorIndex := 6, attributes := #[] }, { accessFlags := 9, nameIndex := 45, descriptorIndex := 46, attributes := #[] }] 49 2 #[] #[])
  fields := #[]
  methods := #[k10m0, k10m1]
  instanceTypes := #[]
  staticTypes := #[]
  resolved := Array.replicate 184 none
  statics := none }

def pool11 : Array CpInfo := pool [(18, .class_ 20), (1, u "java/nio/charset/Charset"), (0, u "cache1"), (0, u "[Ljava/lang/Object;"), (2, u "cache2"), (0, .class_ 27), (0, u "java/lang/Object"), (0, .class_ 29), (0, u "java/nio/charset/Charset$1"), (4, .class_ 36), (1, u "java/nio/charset/Charset$ThreadTrackHolder"), (21, .class_ 59), (0, u "java/nio/charset/Charset$2"), (11, .class_ 73), (1, u "java/nio/charset/Charset$ExtendedProviderHolder"), (22, u "standardProvider"), (0, u "Ljava/nio/charset/spi/CharsetProvider;"), (29, u "name"), (7, .class_ 136), (0, u "java/nio/charset/Charset$3"), (5, u "defaultCharset"), (0, u "Ljava/nio/charset/Charset;"), (14, u "zeroAliases"), (0, u "[Ljava/lang/String;"), (29, u "Ljava/lang/String;"), (2, u "aliases"), (2, u "aliasSet"), (0, u "Ljava/util/Set;"), (82, .class_ 280), (0, u "java/lang/Comparable"), (84, .class_ 366), (0, u "java/nio/charset/Charset$ExtendedProviderHolder$1")] 3

/-- java/nio/charset/Charset -/
def k11 : Class := { plain "java/nio/charset/Charset" (some 0) with
  accessFlags := 1057
  interfaces := #[4]
  cf := some (fileOf pool11 18 #[.nestMembers #[71, 365, 34, 135, 58, 28]] #[] 1057 26 #[279] #[{ accessFlags := 26, nameIndex := 96, descriptorIndex := 97, attributes := #[] }, { accessFlags := 26, nameIndex := 158, descriptorIndex := 159, attributes := #[] }, { accessFlags := 74, nameIndex := 21, descriptorIndex := 22, attributes := #[] }, { accessFlags := 74, nameIndex := 25, descriptorIndex := 22, attributes := #[] }, { accessFlags := 10, nameIndex := 142, descriptorIndex := 143, attributes := #[] }, { accessFlags := 18, nameIndex := 127, descriptorIndex := 189, attributes := #[] }, { accessFlags := 18, nameIndex := 192, descriptorIndex := 159, attributes := #[] }, { accessFlags := 2, nameIndex := 195, descriptorIndex := 196, attributes := #[] }])
  fields := #[{ name := "standardProvider", type := (.object "java/nio/charset/spi/CharsetProvider"), accessFlags := 26, slot := 0, constantValue := 0 }, { name := "zeroAliases", type := (.array (.object "java/lang/String")), accessFlags := 26, slot := 1, constantValue := 0 }, { name := "cache1", type := (.array (.object "java/lang/Object")), accessFlags := 74, slot := 2, constantValue := 0 }, { name := "cache2", type := (.array (.object "java/lang/Object")), accessFlags := 74, slot := 3, constantValue := 0 }, { name := "defaultCharset", type := (.object "java/nio/charset/Charset"), accessFlags := 10, slot := 4, constantValue := 0 }, { name := "name", type := (.object "java/lang/String"), accessFlags := 18, slot := 0, constantValue := 0 }, { name := "aliases", type := (.array (.object "java/lang/String")), accessFlags := 18, slot := 1, constantValue := 0 }, { name := "aliasSet", type := (.object "java/util/Set"), accessFlags := 2, slot := 2, constantValue := 0 }]
  methods := #[]
  instanceTypes := #[(.object "java/lang/String"), (.array (.object "java/lang/String")), (.object "java/util/Set")]
  staticTypes := #[(.object "java/nio/charset/spi/CharsetProvider"), (.array (.object "java/lang/String")), (.array (.object "java/lang/Object")), (.array (.object "java/lang/Object")), (.object "java/nio/charset/Charset")]
  resolved := Array.replicate 370 none
  statics := none }

def pool12 : Array CpInfo := pool [(1, .class_ 2), (0, u "sun/nio/cs/HistoricallyNamedCharset"), (0, .class_ 4), (0, u "java/lang/Object")] 4

/-- sun/nio/cs/HistoricallyNamedCharset -/
def k12 : Class := { plain "sun/nio/cs/HistoricallyNamedCharset" (some 0) with
  accessFlags := 1537
  interfaces := #[]
  cf := some (fileOf pool12 1 #[] #[] 1537 3 #[] #[])
  fields := #[]
  methods := #[]
  instanceTypes := #[]
  staticTypes := #[]
  resolved := Array.replicate 9 none
  statics := none }

def pool13 : Array CpInfo := pool [(10, .class_ 12), (1, u "java/nio/charset/Charset"), (0, u "<init>"), (5, .class_ 20), (0, u "sun/nio/cs/ISO_8859_1"), (0, .class_ 22), (0, u "sun/nio/cs/ISO_8859_1$Decoder"), (3, .class_ 27), (0, u "sun/nio/cs/ISO_8859_1$Encoder"), (3, u "()V"), (2, u "INSTANCE"), (0, u "Lsun/nio/cs/ISO_8859_1;"), (0, .class_ 37), (0, u "sun/nio/cs/HistoricallyNamedCharset")] 22

def k13m0 : Method := { name := "<init>", desc := "()V", sig := { parameters := [], returnType := none }, accessFlags := 1, code := none }
/-- sun/nio/cs/ISO_8859_1 -/
def k13 : Class := { plain "sun/nio/cs/ISO_8859_1" (some 11) with
  accessFlags := 33
  interfaces := #[12]
  cf := some (fileOf pool13 19 #[.nestMembers #[26, 21]] #[{ accessFlags := 1, nameIndex := 13, descriptorIndex := 31, attributes := #[] }] 33 10 #[36] #[{ accessFlags := 25, nameIndex := 34, descriptorIndex := 35, attributes := #[] }])
  fields := #[{ name := "INSTANCE", type := (.object "sun/nio/cs/ISO_8859_1"), accessFlags := 25, slot := 0, constantValue := 0 }]
  methods := #[k13m0]
  instanceTypes := #[(.object "java/lang/String"), (.array (.object "java/lang/String")), (.object "java/util/Set")]
  staticTypes := #[(.object "sun/nio/cs/ISO_8859_1")]
  resolved := Array.replicate 60 none
  statics := some 2 }

def pool14 : Array CpInfo := pool [(2, .class_ 4), (1, u "java/lang/Object"), (0, u "<init>"), (0, u "()V"), (17, .class_ 26), (1, u "jdk/internal/util/Preconditions"), (6, u "checkIndex"), (15, u "checkFromIndexSize"), (5, .class_ 56), (0, u "jdk/internal/util/Preconditions$4"), (57, .class_ 115), (0, u "jdk/internal/util/Preconditions$1"), (7, u "SIOOBE_FORMATTER"), (0, u "Ljava/util/function/BiFunction;"), (0, .class_ 126), (0, u "jdk/internal/util/Preconditions$2"), (3, u "AIOOBE_FORMATTER"), (0, .class_ 132), (0, u "jdk/internal/util/Preconditions$3"), (3, u "IOOBE_FORMATTER"), (41, u "(IILjava/util/function/BiFunction;)I"), (4, u "(IIILjava/util/function/BiFunction;)I")] 10

def k14m0 : Method := { name := "<init>", desc := "()V", sig := { parameters := [], returnType := none }, accessFlags := 1, code := none }
def k14c1 : Code := { maxStack := 3, maxLocals := 3, code := jdk_41_method_11_code, exceptionTable := #[], attributes := #[] }
def k14m1 : Method := { name := "checkIndex", desc := "(IILjava/util/function/BiFunction;)I", sig := { parameters := [.int, .int, (.object "java/util/function/BiFunction")], returnType := some .int }, accessFlags := 9, code := some k14c1 }
def k14c2 : Code := { maxStack := 4, maxLocals := 4, code := jdk_41_method_13_code, exceptionTable := #[], attributes := #[] }
def k14m2 : Method := { name := "checkFromIndexSize", desc := "(IIILjava/util/function/BiFunction;)I", sig := { parameters := [.int, .int, .int, (.object "java/util/function/BiFunction")], returnType := some .int }, accessFlags := 9, code := some k14c2 }
/-- jdk/internal/util/Preconditions -/
def k14 : Class := { plain "jdk/internal/util/Preconditions" (some 0) with
  accessFlags := 33
  interfaces := #[]
  cf := some (fileOf pool14 24 #[.nestMembers #[55, 131, 125, 114]] #[{ accessFlags := 1, nameIndex := 5, descriptorIndex := 6, attributes := #[] }, { accessFlags := 9, nameIndex := 33, descriptorIndex := 178, attributes := #[] }, { accessFlags := 9, nameIndex := 49, descriptorIndex := 183, attributes := #[] }] 33 2 #[] #[{ accessFlags := 25, nameIndex := 123, descriptorIndex := 124, attributes := #[] }, { accessFlags := 25, nameIndex := 130, descriptorIndex := 124, attributes := #[] }, { accessFlags := 25, nameIndex := 136, descriptorIndex := 124, attributes := #[] }])
  fields := #[{ name := "SIOOBE_FORMATTER", type := (.object "java/util/function/BiFunction"), accessFlags := 25, slot := 0, constantValue := 0 }, { name := "AIOOBE_FORMATTER", type := (.object "java/util/function/BiFunction"), accessFlags := 25, slot := 1, constantValue := 0 }, { name := "IOOBE_FORMATTER", type := (.object "java/util/function/BiFunction"), accessFlags := 25, slot := 2, constantValue := 0 }]
  methods := #[k14m0, k14m1, k14m2]
  instanceTypes := #[]
  staticTypes := #[(.object "java/util/function/BiFunction"), (.object "java/util/function/BiFunction"), (.object "java/util/function/BiFunction")]
  resolved := Array.replicate 194 none
  statics := some 3 }

def pool15 : Array CpInfo := pool [(2, .class_ 4), (1, u "java/nio/charset/Charset"), (130, .class_ 136), (0, u "sun/nio/cs/Unicode"), (0, .class_ 138), (0, u "sun/nio/cs/HistoricallyNamedCharset")] 15

/-- sun/nio/cs/Unicode -/
def k15 : Class := { plain "sun/nio/cs/Unicode" (some 11) with
  accessFlags := 1056
  interfaces := #[12]
  cf := some (fileOf pool15 135 #[] #[] 1056 2 #[137] #[])
  fields := #[]
  methods := #[]
  instanceTypes := #[(.object "java/lang/String"), (.array (.object "java/lang/String")), (.object "java/util/Set")]
  staticTypes := #[]
  resolved := Array.replicate 154 none
  statics := none }

def pool16 : Array CpInfo := pool [(10, .class_ 12), (1, u "sun/nio/cs/Unicode"), (0, u "<init>"), (3, .class_ 18), (0, u "sun/nio/cs/UTF_8$Decoder"), (3, .class_ 23), (0, u "sun/nio/cs/UTF_8$Encoder"), (15, .class_ 40), (0, u "sun/nio/cs/UTF_8"), (2, u "()V"), (2, u "INSTANCE"), (0, u "Lsun/nio/cs/UTF_8;"), (8, u "JLA"), (0, u "Ljdk/internal/access/JavaLangAccess;")] 26

def k16m0 : Method := { name := "<init>", desc := "()V", sig := { parameters := [], returnType := none }, accessFlags := 1, code := none }
/-- sun/nio/cs/UTF_8 -/
def k16 : Class := { plain "sun/nio/cs/UTF_8" (some 15) with
  accessFlags := 49
  interfaces := #[]
  cf := some (fileOf pool16 39 #[.nestMembers #[22, 17]] #[{ accessFlags := 1, nameIndex := 13, descriptorIndex := 43, attributes := #[] }] 49 10 #[] #[{ accessFlags := 25, nameIndex := 46, descriptorIndex := 47, attributes := #[] }, { accessFlags := 26, nameIndex := 56, descriptorIndex := 57, attributes := #[] }])
  fields := #[{ name := "INSTANCE", type := (.object "sun/nio/cs/UTF_8"), accessFlags := 25, slot := 0, constantValue := 0 }, { name := "JLA", type := (.object "jdk/internal/access/JavaLangAccess"), accessFlags := 26, slot := 1, constantValue := 0 }]
  methods := #[k16m0]
  instanceTypes := #[(.object "java/lang/String"), (.array (.object "java/lang/String")), (.object "java/util/Set")]
  staticTypes := #[(.object "sun/nio/cs/UTF_8"), (.object "jdk/internal/access/JavaLangAccess")]
  resolved := Array.replicate 84 none
  statics := some 4 }

def pool17 : Array CpInfo := pool [(2, .class_ 4), (1, u "java/lang/Object"), (0, u "<init>"), (0, u "()V"), (7, .class_ 16), (1, u "java/util/Arrays"), (57, .class_ 76), (1, u "java/util/Arrays$NaturalOrder"), (32, u "()Ljava/lang/Object;"), (3, .class_ 115), (1, u "java/util/Arrays$LegacyMergeSort"), (1, u "Z"), (10, .nameAndType 129 109), (0, u "clone"), (9, u "copyOfRange"), (10, .methodref 151 152), (0, .class_ 153), (0, .nameAndType 154 155), (0, u "java/lang/System"), (0, u "arraycopy"), (0, u "(Ljava/lang/Object;ILjava/lang/Object;II)V"), (148, .methodref 305 306), (0, .class_ 307), (0, .nameAndType 308 309), (0, u "java/lang/Math"), (0, u "min"), (0, u "(II)I"), (0, .methodref 311 128), (0, .class_ 312), (0, u "[B"), (26, .methodref 14 340), (0, .nameAndType 341 342), (0, u "copyOfRangeByte"), (0, u "([BII)[B"), (0, .methodref 14 344), (0, .nameAndType 345 346), (0, u "checkLength"), (0, u "(II)V"), (28, .class_ 376), (0, u "java/util/Arrays$ArrayList"), (68, u "$assertionsDisabled"), (269, u "MIN_ARRAY_SORT_GRAN"), (0, u "I"), (2, u "INSERTIONSORT_THRESHOLD"), (255, .class_ 976), (0, u "java/util/Arrays$ArrayItr")] 52

def k17m0 : Method := { name := "<init>", desc := "()V", sig := { parameters := [], returnType := none }, accessFlags := 2, code := none }
def k17c1 : Code := { maxStack := 4, maxLocals := 2, code := jdk_65_method_131_code, exceptionTable := #[], attributes := #[] }
def k17m1 : Method := { name := "checkLength", desc := "(II)V", sig := { parameters := [.int, .int], returnType := none }, accessFlags := 10, code := some k17c1 }
def k17c2 : Code := { maxStack := 3, maxLocals := 3, code := jdk_65_method_132_code, exceptionTable := #[], attributes := #[] }
def k17m2 : Method := { name := "copyOfRange", desc := "([BII)[B", sig := { parameters := [(.array .byte), .int, .int], returnType := some (.array .byte) }, accessFlags := 9, code := some k17c2 }
def k17c3 : Code := { maxStack := 6, maxLocals := 5, code := jdk_65_method_133_code, exceptionTable := #[], attributes := #[] }
def k17m3 : Method := { name := "copyOfRangeByte", desc := "([BII)[B", sig := { parameters := [(.array .byte), .int, .int], returnType := some (.array .byte) }, accessFlags := 10, code := some k17c3 }
/-- java/util/Arrays -/
def k17 : Class := { plain "java/util/Arrays" (some 0) with
  accessFlags := 49
  interfaces := #[]
  cf := some (fileOf pool17 14 #[.nestMembers #[975, 375, 113, 74]] #[{ accessFlags := 2, nameIndex := 5, descriptorIndex := 6, attributes := #[] }, { accessFlags := 10, nameIndex := 345, descriptorIndex := 346, attributes := #[] }, { accessFlags := 9, nameIndex := 139, descriptorIndex := 342, attributes := #[] }, { accessFlags := 10, nameIndex := 341, descriptorIndex := 342, attributes := #[] }] 49 2 #[] #[{ accessFlags := 26, nameIndex := 715, descriptorIndex := 716, attributes := #[] }, { accessFlags := 26, nameIndex := 719, descriptorIndex := 716, attributes := #[] }, { accessFlags := 4120, nameIndex := 445, descriptorIndex := 117, attributes := #[] }])
  fields := #[{ name := "MIN_ARRAY_SORT_GRAN", type := .int, accessFlags := 26, slot := 0, constantValue := 0 }, { name := "INSERTIONSORT_THRESHOLD", type := .int, accessFlags := 26, slot := 1, constantValue := 0 }, { name := "$assertionsDisabled", type := .boolean, accessFlags := 4120, slot := 2, constantValue := 0 }]
  methods := #[k17m0, k17m1, k17m2, k17m3]
  instanceTypes := #[]
  staticTypes := #[.int, .int, .boolean]
  resolved := Array.replicate 1029 none
  statics := none }

def pool18 : Array CpInfo := pool [(1, .class_ 2), (0, u "java/lang/Math"), (1, .class_ 6), (1, u "java/lang/Object"), (0, u "<init>"), (0, u "()V"), (89, .class_ 100), (1, u "java/lang/Math$RandomNumberGeneratorHolder"), (71, u "negativeZeroFloatBits"), (0, u "J"), (2, u "negativeZeroDoubleBits"), (24, u "min"), (43, u "$assertionsDisabled"), (0, u "Z"), (88, u "(II)I"), (2, u "twoToTheDoubleScaleDown"), (0, u "D"), (4, u "twoToTheDoubleScaleUp"), (9, u "E"), (3, u "PI"), (2, u "TAU"), (2, u "DEGREES_TO_RADIANS"), (0, u "RADIANS_TO_DEGREES")] 94

def k18m0 : Method := { name := "<init>", desc := "()V", sig := { parameters := [], returnType := none }, accessFlags := 2, code := none }
def k18c1 : Code := { maxStack := 2, maxLocals := 2, code := jdk_29_method_69_code, exceptionTable := #[], attributes := #[] }
def k18m1 : Method := { name := "min", desc := "(II)I", sig := { parameters := [.int, .int], returnType := some .int }, accessFlags := 9, code := some k18c1 }
/-- java/lang/Math -/
def k18 : Class := { plain "java/lang/Math" (some 0) with
  accessFlags := 49
  interfaces := #[]
  cf := some (fileOf pool18 1 #[.nestMembers #[98]] #[{ accessFlags := 2, nameIndex := 7, descriptorIndex := 8, attributes := #[] }, { accessFlags := 9, nameIndex := 201, descriptorIndex := 335, attributes := #[] }] 49 4 #[] #[{ accessFlags := 25, nameIndex := 354, descriptorIndex := 339, attributes := #[] }, { accessFlags := 25, nameIndex := 358, descriptorIndex := 339, attributes := #[] }, { accessFlags := 25, nameIndex := 361, descriptorIndex := 339, attributes := #[] }, { accessFlags := 26, nameIndex := 364, descriptorIndex := 339, attributes := #[] }, { accessFlags := 26, nameIndex := 365, descriptorIndex := 339, attributes := #[] }, { accessFlags := 26, nameIndex := 172, descriptorIndex := 173, attributes := #[] }, { accessFlags := 26, nameIndex := 176, descriptorIndex := 173, attributes := #[] }, { accessFlags := 8, nameIndex := 344, descriptorIndex := 339, attributes := #[] }, { accessFlags := 8, nameIndex := 338, descriptorIndex := 339, attributes := #[] }, { accessFlags := 4120, nameIndex := 245, descriptorIndex := 246, attributes := #[] }])
  fields := #[{ name := "E", type := .double, accessFlags := 25, slot := 0, constantValue := 0 }, { name := "PI", type := .double, accessFlags := 25, slot := 1, constantValue := 0 }, { name := "TAU", type := .double, accessFlags := 25, slot := 2, constantValue := 0 }, { name := "DEGREES_TO_RADIANS", type := .double, accessFlags := 26, slot := 3, constantValue := 0 }, { name := "RADIANS_TO_DEGREES", type := .double, accessFlags := 26, slot := 4, constantValue := 0 }, { name := "negativeZeroFloatBits", type := .long, accessFlags := 26, slot := 5, constantValue := 0 }, { name := "negativeZeroDoubleBits", type := .long, accessFlags := 26, slot := 6, constantValue := 0 }, { name := "twoToTheDoubleScaleUp", type := .double, accessFlags := 8, slot := 7, constantValue := 0 }, { name := "twoToTheDoubleScaleDown", type := .double, accessFlags := 8, slot := 8, constantValue := 0 }, { name := "$assertionsDisabled", type := .boolean, accessFlags := 4120, slot := 9, constantValue := 0 }]
  methods := #[k18m0, k18m1]
  instanceTypes := #[]
  staticTypes := #[.double, .double, .double, .double, .double, .long, .long, .double, .double, .boolean]
  resolved := Array.replicate 460 none
  statics := none }

def pool19 : Array CpInfo := pool [(2, .class_ 4), (1, u "java/lang/Object"), (0, u "<init>"), (0, u "()V"), (1, .class_ 10), (1, u "java/lang/System"), (0, u "allowSecurityManager"), (0, u "I"), (16, u "cons"), (0, u "Ljava/io/Console;"), (77, .class_ 110), (1, u "java/lang/System$CallersHolder"), (43, u "initialErrStream"), (0, u "Ljava/io/PrintStream;"), (19, u "security"), (0, u "Ljava/lang/SecurityManager;"), (31, .class_ 209), (0, u "java/lang/System$1"), (7, u "props"), (0, u "Ljava/util/Properties;"), (2, u "lineSeparator"), (0, u "Ljava/lang/String;"), (96, .class_ 321), (1, u "java/lang/System$LoggerFinder"), (5, .class_ 328), (0, u "java/lang/System$Logger"), (67, u "err"), (2, u "out"), (91, u "notSupportedJnuEncoding"), (15, u "in"), (17, u "initialIn"), (0, u "Ljava/io/InputStream;"), (35, u "bootLayer"), (0, u "Ljava/lang/ModuleLayer;"), (99, .class_ 664), (0, u "java/lang/System$2"), (9, u "NEVER"), (2, u "MAYBE"), (49, u "arraycopy"), (0, u "(Ljava/lang/Object;ILjava/lang/Object;II)V"), (72, .class_ 802), (0, u "java/lang/System$Logger$Level")] 31

def k19m0 : Method := { name := "<init>", desc := "()V", sig := { parameters := [], returnType := none }, accessFlags := 2, code := none }
def k19m1 : Method := { name := "arraycopy", desc := "(Ljava/lang/Object;ILjava/lang/Object;II)V", sig := { parameters := [(.object "java/lang/Object"), .int, (.object "java/lang/Object"), .int, .int], returnType := none }, accessFlags := 265, code := none }
/-- java/lang/System -/
def k19 : Class := { plain "java/lang/System" (some 0) with
  accessFlags := 49
  interfaces := #[]
  cf := some (fileOf pool19 8 #[.nestMembers #[319, 327, 801, 108, 663, 208]] #[{ accessFlags := 2, nameIndex := 5, descriptorIndex := 6, attributes := #[] }, { accessFlags := 265, nameIndex := 727, descriptorIndex := 728, attributes := #[] }] 49 2 #[] #[{ accessFlags := 25, nameIndex := 507, descriptorIndex := 526, attributes := #[] }, { accessFlags := 25, nameIndex := 399, descriptorIndex := 155, attributes := #[] }, { accessFlags := 25, nameIndex := 396, descriptorIndex := 155, attributes := #[] }, { accessFlags := 10, nameIndex := 525, descriptorIndex := 526, attributes := #[] }, { accessFlags := 26, nameIndex := 674, descriptorIndex := 12, attributes := #[] }, { accessFlags := 26, nameIndex := 677, descriptorIndex := 12, attributes := #[] }, { accessFlags := 10, nameIndex := 11, descriptorIndex := 12, attributes := #[] }, { accessFlags := 74, nameIndex := 175, descriptorIndex := 176, attributes := #[] }, { accessFlags := 10, nameIndex := 491, descriptorIndex := 222, attributes := #[] }, { accessFlags := 74, nameIndex := 29, descriptorIndex := 30, attributes := #[] }, { accessFlags := 74, nameIndex := 154, descriptorIndex := 155, attributes := #[] }, { accessFlags := 10, nameIndex := 217, descriptorIndex := 218, attributes := #[] }, { accessFlags := 10, nameIndex := 221, descriptorIndex := 222, attributes := #[] }, { accessFlags := 8, nameIndex := 562, descriptorIndex := 563, attributes := #[] }])
  fields := #[{ name := "in", type := (.object "java/io/InputStream"), accessFlags := 25, slot := 0, constantValue := 0 }, { name := "out", type := (.object "java/io/PrintStream"), accessFlags := 25, slot := 1, constantValue := 0 }, { name := "err", type := (.object "java/io/PrintStream"), accessFlags := 25, slot := 2, constantValue := 0 }, { name := "initialIn", type := (.object "java/io/InputStream"), accessFlags := 10, slot := 3, constantValue := 0 }, { name := "NEVER", type := .int, accessFlags := 26, slot := 4, constantValue := 0 }, { name := "MAYBE", type := .int, accessFlags := 26, slot := 5, constantValue := 0 }, { name := "allowSecurityManager", type := .int, accessFlags := 10, slot := 6, constantValue := 0 }, { name := "security", type := (.object "java/lang/SecurityManager"), accessFlags := 74, slot := 7, constantValue := 0 }, { name := "notSupportedJnuEncoding", type := (.object "java/lang/String"), accessFlags := 10, slot := 8, constantValue := 0 }, { name := "cons", type := (.object "java/io/Console"), accessFlags := 74, slot := 9, constantValue := 0 }, { name := "initialErrStream", type := (.object "java/io/PrintStream"), accessFlags := 74, slot := 10, constantValue := 0 }, { name := "props", type := (.object "java/util/Properties"), accessFlags := 10, slot := 11, constantValue := 0 }, { name := "lineSeparator", type := (.object "java/lang/String"), accessFlags := 10, slot := 12, constantValue := 0 }, { name := "bootLayer", type := (.object "java/lang/ModuleLayer"), accessFlags := 8, slot := 13, constantValue := 0 }]
  methods := #[k19m0, k19m1]
  instanceTypes := #[]
  staticTypes := #[(.object "java/io/InputStream"), (.object "java/io/PrintStream"), (.object "java/io/PrintStream"), (.object "java/io/InputStream"), .int, .int, .int, (.object "java/lang/SecurityManager"), (.object "java/lang/String"), (.object "java/io/Console"), (.object "java/io/PrintStream"), (.object "java/util/Properties"), (.object "java/lang/String"), (.object "java/lang/ModuleLayer")]
  resolved := Array.replicate 834 none
  statics := none }

def pool20 : Array CpInfo := pool [(1, .class_ 2), (0, u "java/lang/String"), (1, .class_ 6), (1, u "java/lang/Object"), (0, u "<init>"), (0, u "()V"), (0, .methodref 1 10), (0, .nameAndType 11 12), (0, u "checkIndex"), (0, u "(II)V"), (1, .class_ 16), (1, u "java/lang/StringLatin1"), (36, u "([BI)C"), (67, u "$assertionsDisabled"), (0, u "Z"), (98, .class_ 223), (1, u "java/lang/StringLatin1$LinesSpliterator"), (28, u "charAt"), (137, .class_ 391), (0, u "java/lang/StringLatin1$CharsSpliterator")] 3

def k20m0 : Method := { name := "<init>", desc := "()V", sig := { parameters := [], returnType := none }, accessFlags := 0, code := none }
def k20c1 : Code := { maxStack := 2, maxLocals := 2, code := jdk_43_method_2_code, exceptionTable := #[], attributes := #[] }
def k20m1 : Method := { name := "charAt", desc := "([BI)C", sig := { parameters := [(.array .byte), .int], returnType := some .char }, accessFlags := 9, code := some k20c1 }
/-- java/lang/StringLatin1 -/
def k20 : Class := { plain "java/lang/StringLatin1" (some 0) with
  accessFlags := 48
  interfaces := #[]
  cf := some (fileOf pool20 14 #[.nestMembers #[390, 221]] #[{ accessFlags := 0, nameIndex := 7, descriptorIndex := 8, attributes := #[] }, { accessFlags := 9, nameIndex := 252, descriptorIndex := 53, attributes := #[] }] 48 4 #[] #[{ accessFlags := 4120, nameIndex := 121, descriptorIndex := 122, attributes := #[] }])
  fields := #[{ name := "$assertionsDisabled", type := .boolean, accessFlags := 4120, slot := 0, constantValue := 0 }]
  methods := #[k20m0, k20m1]
  instanceTypes := #[]
  staticTypes := #[.boolean]
  resolved := Array.replicate 395 none
  statics := none }

def pool21 : Array CpInfo := pool [(1, .class_ 2), (0, u "java/lang/Cloneable"), (0, .class_ 4), (0, u "java/lang/Object")] 2

/-- java/lang/Cloneable -/
def k21 : Class := { plain "java/lang/Cloneable" (some 0) with
  accessFlags := 1537
  interfaces := #[]
  cf := some (fileOf pool21 1 #[] #[] 1537 3 #[] #[])
  fields := #[]
  methods := #[]
  instanceTypes := #[]
  staticTypes := #[]
  resolved := Array.replicate 7 none
  statics := none }

def pool22 : Array CpInfo := pool [(9, u "<init>"), (6, .class_ 18), (1, u "java/lang/Object"), (0, u "()V"), (1, .class_ 23), (1, u "jdk/internal/util/ArraysSupport"), (0, u "LOG2_ARRAY_LONG_INDEX_SCALE"), (0, u "I"), (2, u "U"), (0, u "Ljdk/internal/misc/Unsafe;"), (8, u "BIG_ENDIAN"), (0, u "Z"), (8, u "LOG2_BYTE_BIT_SIZE"), (4, u "LOG2_ARRAY_INT_INDEX_SCALE"), (54, u "JLA"), (0, u "Ljdk/internal/access/JavaLangAccess;"), (11, u "LOG2_ARRAY_BOOLEAN_INDEX_SCALE"), (9, u "LOG2_ARRAY_BYTE_INDEX_SCALE"), (5, u "LOG2_ARRAY_CHAR_INDEX_SCALE"), (5, u "LOG2_ARRAY_SHORT_INDEX_SCALE"), (18, u "LOG2_ARRAY_FLOAT_INDEX_SCALE"), (24, u "LOG2_ARRAY_DOUBLE_INDEX_SCALE"), (89, u "T_BOOLEAN"), (2, u "T_CHAR"), (1, u "T_FLOAT"), (1, u "T_DOUBLE"), (1, u "T_BYTE"), (1, u "T_SHORT"), (1, u "T_INT"), (1, u "T_LONG"), (1, u "SOFT_MAX_ARRAY_LENGTH")] 83

def k22m0 : Method := { name := "<init>", desc := "()V", sig := { parameters := [], returnType := none }, accessFlags := 2, code := none }
/-- jdk/internal/util/ArraysSupport -/
def k22 : Class := { plain "jdk/internal/util/ArraysSupport" (some 0) with
  accessFlags := 33
  interfaces := #[]
  cf := some (fileOf pool22 21 #[] #[{ accessFlags := 2, nameIndex := 9, descriptorIndex := 19, attributes := #[] }] 33 16 #[] #[{ accessFlags := 24, nameIndex := 28, descriptorIndex := 29, attributes := #[] }, { accessFlags := 26, nameIndex := 38, descriptorIndex := 39, attributes := #[] }, { accessFlags := 25, nameIndex := 121, descriptorIndex := 25, attributes := #[] }, { accessFlags := 25, nameIndex := 131, descriptorIndex := 25, attributes := #[] }, { accessFlags := 25, nameIndex := 137, descriptorIndex := 25, attributes := #[] }, { accessFlags := 25, nameIndex := 143, descriptorIndex := 25, attributes := #[] }, { accessFlags := 25, nameIndex := 53, descriptorIndex := 25, attributes := #[] }, { accessFlags := 25, nameIndex := 24, descriptorIndex := 25, attributes := #[] }, { accessFlags := 25, nameIndex := 162, descriptorIndex := 25, attributes := #[] }, { accessFlags := 25, nameIndex := 187, descriptorIndex := 25, attributes := #[] }, { accessFlags := 26, nameIndex := 48, descriptorIndex := 25, attributes := #[] }, { accessFlags := 25, nameIndex := 277, descriptorIndex := 25, attributes := #[] }, { accessFlags := 25, nameIndex := 280, descriptorIndex := 25, attributes := #[] }, { accessFlags := 25, nameIndex := 282, descriptorIndex := 25, attributes := #[] }, { accessFlags := 25, nameIndex := 284, descriptorIndex := 25, attributes := #[] }, { accessFlags := 25, nameIndex := 286, descriptorIndex := 25, attributes := #[] }, { accessFlags := 25, nameIndex := 288, descriptorIndex := 25, attributes := #[] }, { accessFlags := 25, nameIndex := 290, descriptorIndex := 25, attributes := #[] }, { accessFlags := 25, nameIndex := 292, descriptorIndex := 25, attributes := #[] }, { accessFlags := 26, nameIndex := 108, descriptorIndex := 109, attributes := #[] }, { accessFlags := 25, nameIndex := 294, descriptorIndex := 25, attributes := #[] }])
  fields := #[{ name := "U", type := (.object "jdk/internal/misc/Unsafe"), accessFlags := 24, slot := 0, constantValue := 0 }, { name := "BIG_ENDIAN", type := .boolean, accessFlags := 26, slot := 1, constantValue := 0 }, { name := "LOG2_ARRAY_BOOLEAN_INDEX_SCALE", type := .int, accessFlags := 25, slot := 2, constantValue := 0 }, { name := "LOG2_ARRAY_BYTE_INDEX_SCALE", type := .int, accessFlags := 25, slot := 3, constantValue := 0 }, { name := "LOG2_ARRAY_CHAR_INDEX_SCALE", type := .int, accessFlags := 25, slot := 4, constantValue := 0 }, { name := "LOG2_ARRAY_SHORT_INDEX_SCALE", type := .int, accessFlags := 25, slot := 5, constantValue := 0 }, { name := "LOG2_ARRAY_INT_INDEX_SCALE", type := .int, accessFlags := 25, slot := 6, constantValue := 0 }, { name := "LOG2_ARRAY_LONG_INDEX_SCALE", type := .int, accessFlags := 25, slot := 7, constantValue := 0 }, { name := "LOG2_ARRAY_FLOAT_INDEX_SCALE", type := .int, accessFlags := 25, slot := 8, constantValue := 0 }, { name := "LOG2_ARRAY_DOUBLE_INDEX_SCALE", type := .int, accessFlags := 25, slot := 9, constantValue := 0 }, { name := "LOG2_BYTE_BIT_SIZE", type := .int, accessFlags := 26, slot := 10, constantValue := 0 }, { name := "T_BOOLEAN", type := .int, accessFlags := 25, slot := 11, constantValue := 0 }, { name := "T_CHAR", type := .int, accessFlags := 25, slot := 12, constantValue := 0 }, { name := "T_FLOAT", type := .int, accessFlags := 25, slot := 13, constantValue := 0 }, { name := "T_DOUBLE", type := .int, accessFlags := 25, slot := 14, constantValue := 0 }, { name := "T_BYTE", type := .int, accessFlags := 25, slot := 15, constantValue := 0 }, { name := "T_SHORT", type := .int, accessFlags := 25, slot := 16, constantValue := 0 }, { name := "T_INT", type := .int, accessFlags := 25, slot := 17, constantValue := 0 }, { name := "T_LONG", type := .int, accessFlags := 25, slot := 18, constantValue := 0 }, { name := "JLA", type := (.object "jdk/internal/access/JavaLangAccess"), accessFlags := 26, slot := 19, constantValue := 0 }, { name := "SOFT_MAX_ARRAY_LENGTH", type := .int, accessFlags := 25, slot := 20, constantValue := 0 }]
  methods := #[k22m0]
  instanceTypes := #[]
  staticTypes := #[(.object "jdk/internal/misc/Unsafe"), .boolean, .int, .int, .int, .int, .int, .int, .int, .int, .int, .int, .int, .int, .int, .int, .int, .int, .int, (.object "jdk/internal/access/JavaLangAccess"), .int]
  resolved := Array.replicate 378 none
  statics := none }

/-- the primitive byte -/
def k23 : Class := { plain "byte" none with kind := .primitive 'B', accessFlags := 0x411 }
/-- [B -/
def k24 : Class := { plain "[B" (some 0) with kind := .array 23 .byte, interfaces := #[21, 3], accessFlags := 1041 }

/-- the primitive int -/
def k25 : Class := { plain "int" none with kind := .primitive 'I', accessFlags := 0x411 }
/-- [I -/
def k26 : Class := { plain "[I" (some 0) with kind := .array 25 .int, interfaces := #[21, 3], accessFlags := 1041 }

def heap : Heap := #[{ cls := 8, slots := #[.long 0, .int 1, .null, .int 0, .null, .int 0, .int 0], vm := .statics 8 },
  { cls := 9, slots := #[.null, .ref 5, .null, .null, .null, .null], vm := .statics 9 },
  { cls := 13, slots := #[.ref 5], vm := .statics 13 },
  { cls := 14, slots := #[.null, .null, .null], vm := .statics 14 },
  { cls := 16, slots := #[.ref 6, .null], vm := .statics 16 },
  { cls := 13, slots := #[.null, .null, .null], vm := .none },
  { cls := 16, slots := #[.null, .null, .null], vm := .none }]
def classes : Array Class := #[k0, k1, k2, k3, k4, k5, k6, k7, k8, k9, k10, k11, k12, k13, k14, k15, k16, k17, k18, k19, k20, k21, k22, k23, k24, k25, k26]
def interned : List (Array UInt16 × Addr) := []
def slotsUsed : Nat := 25
def theMethod : MethodId := ⟨1, 1⟩
def args0 : Array Value := #[.int 5]
def aboutOver (below : List Frame) : State where
  vm := { classes := classes, interned := interned.toArray }
  heap := heap
  slotsUsed := slotsUsed
  threads := #[{ frames := .invoking theMethod args0 :: below }]
def below0 : List Frame := [.native { method := ⟨0, 0⟩, args := #[] }]
def about1 : State := aboutOver below0
def p0 : Program := .bare "" "" ""
def e0 : Env := launch0.env 0 0 0
theorem w_frames : about1.frames = Frame.invoking theMethod args0 :: below0 := rfl
set_option maxRecDepth 65536 in
theorem w_args : argsFit about1.vm theMethod args0 = true := by decide +kernel
set_option maxRecDepth 65536 in
theorem w_heap : heapFits about1 = true := by decide +kernel
set_option maxRecDepth 65536 in
theorem w_runnable : about1.curStatus? = some .runnable := by decide +kernel
set_option maxRecDepth 65536 in
theorem w_alone : about1.alone = true := by decide +kernel
set_option maxRecDepth 65536 in
theorem w_named : about1.methodNamed? x = some theMethod := by decide +kernel
set_option maxRecDepth 65536 in
theorem w_hears : about1.hears theMethod below0 = true := by decide +kernel
set_option maxRecDepth 65536 in
theorem w_ripe : about1.ripe theMethod args0 below0 = true := by decide +kernel
theorem w_running : about1.status = .running := rfl
set_option maxRecDepth 65536 in
theorem w_room : about1.hasRoom e0.platform room_1 = true :=
  launch0.hasRoom_least _ room_1 (by decide +kernel) (by decide +kernel) (by decide +kernel) (by decide +kernel) (by decide +kernel) (by decide +kernel)
theorem allAtoms_all (ts : List Jvm.Cond) (a : Array Jvm.Value) (st : Jvm.State) : (allAtoms ts).before a st = ts.all (fun c => c.before a st) := by
  induction ts with
  | nil => rfl
  | cons c t ih =>
    show (Jvm.Cond.and c (allAtoms t)).before a st = _
    rw [Jvm.Cond.before_and, ih, List.all_cons]
def words1 : List Jvm.Cond := Jvm.Cond.code x code maxLocals ret :: tables_1
/-- a 'code' word, met by the world's own term for the bytes: nothing is compared byte by byte -/
theorem code_word {y : MethodName} {bytes : ByteArray} {mx : Nat} {rt : Option FieldType} {a : Array Value} {s : State} {m : MethodId} {meth : Method} {c : Code} (h1 : s.methodNamed? y = some m) (h2 : s.vm.method? m = some meth) (h3 : meth.code = some c) (h4 : c.code = bytes)
    (h5 : (c.maxLocals == mx && c.exceptionTable.isEmpty && decide (c.maxStack ≤ mostOperands) && decide (meth.sig.returnType = rt) && !meth.locks && decide (parseMethodDescriptor y.desc = some meth.sig)) = true) : (Jvm.Cond.code y bytes mx rt).before a s = true := by
  simp only [Bool.and_eq_true, beq_iff_eq, Bool.not_eq_true', decide_eq_true_eq] at h5
  obtain ⟨⟨⟨⟨⟨g1, g2⟩, g3⟩, g4⟩, g5⟩, g6⟩ := h5
  simp [Cond.before, Cond.holds, Cond.value, h1, h2, h3, h4, g1, g2, g3, g4, g5, g6]
def isCode : Jvm.Cond → Bool
  | .code _ _ _ _ => true
  | .codeWith _ _ _ _ _ => true
  | _ => false
theorem all_split {L : List Jvm.Cond} {P : Jvm.Cond → Bool} (h1 : L.all (fun c => isCode c || P c) = true) (h2 : ∀ c ∈ L.filter isCode, P c = true) : L.all P = true := by
  refine List.all_eq_true.mpr fun c hc => ?_
  have h := List.all_eq_true.mp h1 c hc
  rcases Bool.eq_false_or_eq_true (isCode c) with hi | hi
  · exact h2 c (List.mem_filter.mpr ⟨hc, hi⟩)
  · simpa [hi] using h
set_option maxRecDepth 65536 in
theorem w_c0 : (Jvm.Cond.code x code maxLocals ret).before args0 about1 = true := code_word (m := ⟨1, 1⟩) (meth := k1m1) (c := k1c1) (by decide +kernel) rfl rfl rfl (by decide +kernel)
set_option maxRecDepth 65536 in
theorem w_c1 : (Jvm.Cond.code ({ cls := "com/example/kalendae/kalendae/calendar/IsoText", name := "yearText", desc := "(I)Ljava/lang/String;" } : Jvm.MethodName) prog_22_method_4_code (2 : Nat) (Option.some (Jvm.ClassFile.FieldType.object "java/lang/String"))).before args0 about1 = true := code_word (m := ⟨2, 1⟩) (meth := k2m1) (c := k2c1) (by decide +kernel) rfl rfl rfl (by decide +kernel)
set_option maxRecDepth 65536 in
theorem w_c2 : (Jvm.Cond.code ({ cls := "com/example/kalendae/kalendae/calendar/IsoText", name := "writeYear", desc := "([BI)I" } : Jvm.MethodName) prog_22_method_7_code (7 : Nat) (Option.some Jvm.ClassFile.FieldType.int)).before args0 about1 = true := code_word (m := ⟨2, 3⟩) (meth := k2m3) (c := k2c3) (by decide +kernel) rfl rfl rfl (by decide +kernel)
set_option maxRecDepth 65536 in
theorem w_c3 : (Jvm.Cond.code ({ cls := "com/example/kalendae/kalendae/calendar/IsoText", name := "string", desc := "([BI)Ljava/lang/String;" } : Jvm.MethodName) prog_22_method_9_code (2 : Nat) (Option.some (Jvm.ClassFile.FieldType.object "java/lang/String"))).before args0 about1 = true := code_word (m := ⟨2, 4⟩) (meth := k2m4) (c := k2c4) (by decide +kernel) rfl rfl rfl (by decide +kernel)
set_option maxRecDepth 65536 in
theorem w_c4 : (Jvm.Cond.code ({ cls := "java/lang/String", name := "<init>", desc := "([BIILjava/nio/charset/Charset;)V" } : Jvm.MethodName) jdk_42_method_10_code (5 : Nat) (Option.none : Option Jvm.ClassFile.FieldType)).before args0 about1 = true := code_word (m := ⟨8, 1⟩) (meth := k8m1) (c := k8c1) (by decide +kernel) rfl rfl rfl (by decide +kernel)
set_option maxRecDepth 65536 in
theorem w_c5 : (Jvm.Cond.code ({ cls := "java/util/Objects", name := "requireNonNull", desc := "(Ljava/lang/Object;)Ljava/lang/Object;" } : Jvm.MethodName) jdk_31_method_10_code (1 : Nat) (Option.some (Jvm.ClassFile.FieldType.object "java/lang/Object"))).before args0 about1 = true := code_word (m := ⟨10, 1⟩) (meth := k10m1) (c := k10c1) (by decide +kernel) rfl rfl rfl (by decide +kernel)
set_option maxRecDepth 65536 in
theorem w_c6 : (Jvm.Cond.code ({ cls := "java/lang/String", name := "checkBoundsOffCount", desc := "(III)I" } : Jvm.MethodName) jdk_42_method_157_code (3 : Nat) (Option.some Jvm.ClassFile.FieldType.int)).before args0 about1 = true := code_word (m := ⟨8, 8⟩) (meth := k8m8) (c := k8c8) (by decide +kernel) rfl rfl rfl (by decide +kernel)
set_option maxRecDepth 65536 in
theorem w_c7 : (Jvm.Cond.code ({ cls := "jdk/internal/util/Preconditions", name := "checkFromIndexSize", desc := "(IIILjava/util/function/BiFunction;)I" } : Jvm.MethodName) jdk_41_method_13_code (4 : Nat) (Option.some Jvm.ClassFile.FieldType.int)).before args0 about1 = true := code_word (m := ⟨14, 2⟩) (meth := k14m2) (c := k14c2) (by decide +kernel) rfl rfl rfl (by decide +kernel)
set_option maxRecDepth 65536 in
theorem w_c8 : (Jvm.Cond.code ({ cls := "java/lang/Object", name := "<init>", desc := "()V" } : Jvm.MethodName) object_method_1_code (1 : Nat) (Option.none : Option Jvm.ClassFile.FieldType)).before args0 about1 = true := code_word (m := ⟨0, 0⟩) (meth := k0m0) (c := k0c0) (by decide +kernel) rfl rfl rfl (by decide +kernel)
set_option maxRecDepth 65536 in
theorem w_c9 : (Jvm.Cond.code ({ cls := "java/util/Arrays", name := "copyOfRange", desc := "([BII)[B" } : Jvm.MethodName) jdk_65_method_132_code (3 : Nat) (Option.some (Jvm.ClassFile.FieldType.array Jvm.ClassFile.FieldType.byte))).before args0 about1 = true := code_word (m := ⟨17, 2⟩) (meth := k17m2) (c := k17c2) (by decide +kernel) rfl rfl rfl (by decide +kernel)
set_option maxRecDepth 65536 in
theorem w_c10 : (Jvm.Cond.code ({ cls := "java/util/Arrays", name := "copyOfRangeByte", desc := "([BII)[B" } : Jvm.MethodName) jdk_65_method_133_code (5 : Nat) (Option.some (Jvm.ClassFile.FieldType.array Jvm.ClassFile.FieldType.byte))).before args0 about1 = true := code_word (m := ⟨17, 3⟩) (meth := k17m3) (c := k17c3) (by decide +kernel) rfl rfl rfl (by decide +kernel)
set_option maxRecDepth 65536 in
theorem w_c11 : (Jvm.Cond.code ({ cls := "java/util/Arrays", name := "checkLength", desc := "(II)V" } : Jvm.MethodName) jdk_65_method_131_code (2 : Nat) (Option.none : Option Jvm.ClassFile.FieldType)).before args0 about1 = true := code_word (m := ⟨17, 1⟩) (meth := k17m1) (c := k17c1) (by decide +kernel) rfl rfl rfl (by decide +kernel)
set_option maxRecDepth 65536 in
theorem w_c12 : (Jvm.Cond.code ({ cls := "java/lang/Math", name := "min", desc := "(II)I" } : Jvm.MethodName) jdk_29_method_69_code (2 : Nat) (Option.some Jvm.ClassFile.FieldType.int)).before args0 about1 = true := code_word (m := ⟨18, 1⟩) (meth := k18m1) (c := k18c1) (by decide +kernel) rfl rfl rfl (by decide +kernel)
set_option maxRecDepth 65536 in
theorem w_c13 : (Jvm.Cond.code ({ cls := "java/lang/String", name := "length", desc := "()I" } : Jvm.MethodName) jdk_42_method_54_code (1 : Nat) (Option.some Jvm.ClassFile.FieldType.int)).before args0 about1 = true := code_word (m := ⟨8, 3⟩) (meth := k8m3) (c := k8c3) (by decide +kernel) rfl rfl rfl (by decide +kernel)
set_option maxRecDepth 65536 in
theorem w_c14 : (Jvm.Cond.code ({ cls := "java/lang/String", name := "coder", desc := "()B" } : Jvm.MethodName) jdk_42_method_152_code (1 : Nat) (Option.some Jvm.ClassFile.FieldType.byte)).before args0 about1 = true := code_word (m := ⟨8, 5⟩) (meth := k8m5) (c := k8c5) (by decide +kernel) rfl rfl rfl (by decide +kernel)
set_option maxRecDepth 65536 in
theorem w_c15 : (Jvm.Cond.code ({ cls := "java/lang/String", name := "charAt", desc := "(I)C" } : Jvm.MethodName) jdk_42_method_56_code (2 : Nat) (Option.some Jvm.ClassFile.FieldType.char)).before args0 about1 = true := code_word (m := ⟨8, 4⟩) (meth := k8m4) (c := k8c4) (by decide +kernel) rfl rfl rfl (by decide +kernel)
set_option maxRecDepth 65536 in
theorem w_c16 : (Jvm.Cond.code ({ cls := "java/lang/String", name := "isLatin1", desc := "()Z" } : Jvm.MethodName) jdk_42_method_154_code (1 : Nat) (Option.some Jvm.ClassFile.FieldType.boolean)).before args0 about1 = true := code_word (m := ⟨8, 6⟩) (meth := k8m6) (c := k8c6) (by decide +kernel) rfl rfl rfl (by decide +kernel)
set_option maxRecDepth 65536 in
theorem w_c17 : (Jvm.Cond.code ({ cls := "java/lang/StringLatin1", name := "charAt", desc := "([BI)C" } : Jvm.MethodName) jdk_43_method_2_code (2 : Nat) (Option.some Jvm.ClassFile.FieldType.char)).before args0 about1 = true := code_word (m := ⟨20, 1⟩) (meth := k20m1) (c := k20c1) (by decide +kernel) rfl rfl rfl (by decide +kernel)
set_option maxRecDepth 65536 in
theorem w_c18 : (Jvm.Cond.code ({ cls := "java/lang/String", name := "checkIndex", desc := "(II)V" } : Jvm.MethodName) jdk_42_method_155_code (2 : Nat) (Option.none : Option Jvm.ClassFile.FieldType)).before args0 about1 = true := code_word (m := ⟨8, 7⟩) (meth := k8m7) (c := k8c7) (by decide +kernel) rfl rfl rfl (by decide +kernel)
set_option maxRecDepth 65536 in
theorem w_c19 : (Jvm.Cond.code ({ cls := "jdk/internal/util/Preconditions", name := "checkIndex", desc := "(IILjava/util/function/BiFunction;)I" } : Jvm.MethodName) jdk_41_method_11_code (3 : Nat) (Option.some Jvm.ClassFile.FieldType.int)).before args0 about1 = true := code_word (m := ⟨14, 1⟩) (meth := k14m1) (c := k14c1) (by decide +kernel) rfl rfl rfl (by decide +kernel)
set_option maxRecDepth 65536 in
theorem w_c20 : (Jvm.Cond.code ({ cls := "com/example/kalendae/kalendae/calendar/IsoText", name := "writesAsNumber", desc := "(I)Z" } : Jvm.MethodName) prog_22_method_5_code (1 : Nat) (Option.some Jvm.ClassFile.FieldType.boolean)).before args0 about1 = true := code_word (m := ⟨2, 2⟩) (meth := k2m2) (c := k2c2) (by decide +kernel) rfl rfl rfl (by decide +kernel)
theorem codeWith_word {y : MethodName} {bytes : ByteArray} {mx : Nat} {rt : Option FieldType} {hs : List (Nat × Nat × Nat × Nat)} {a : Array Value} {s : State} {m : MethodId} {meth : Method} {c : Code} (h1 : s.methodNamed? y = some m) (h2 : s.vm.method? m = some meth) (h3 : meth.code = some c) (h4 : c.code = bytes)
    (h5 : (c.maxLocals == mx && decide (c.exceptionTable.toList.map (fun h => (h.startPc, h.endPc, h.handlerPc, h.catchType)) = hs) && decide (c.maxStack ≤ mostOperands) && decide (meth.sig.returnType = rt) && !meth.locks && decide (parseMethodDescriptor y.desc = some meth.sig)) = true) : (Jvm.Cond.codeWith y bytes mx rt hs).before a s = true := by
  simp only [Bool.and_eq_true, beq_iff_eq, Bool.not_eq_true', decide_eq_true_eq] at h5
  obtain ⟨⟨⟨⟨⟨g1, g2⟩, g3⟩, g4⟩, g5⟩, g6⟩ := h5
  simp [Cond.before, Cond.holds, Cond.value, h1, h2, h3, h4, g1, g2, g3, g4, g5, g6]
set_option maxRecDepth 65536 in
theorem w_cW : (Jvm.Cond.codeWith ({ cls := "java/lang/String", name := "<init>", desc := "(Ljava/nio/charset/Charset;[BII)V" } : Jvm.MethodName) jdk_42_method_11_code (11 : Nat) (Option.none : Option Jvm.ClassFile.FieldType) [((800 : Nat), (813 : Nat), (816 : Nat), (202 : Nat))]).before args0 about1 = true := codeWith_word (m := ⟨8, 2⟩) (meth := k8m2) (c := k8c2) (by decide +kernel) rfl rfl rfl (by decide +kernel)
def codes1 : List Jvm.Cond := [Jvm.Cond.code x code maxLocals ret, Jvm.Cond.code ({ cls := "com/example/kalendae/kalendae/calendar/IsoText", name := "yearText", desc := "(I)Ljava/lang/String;" } : Jvm.MethodName) prog_22_method_4_code (2 : Nat) (Option.some (Jvm.ClassFile.FieldType.object "java/lang/String")), Jvm.Cond.code ({ cls := "com/example/kalendae/kalendae/calendar/IsoText", name := "writeYear", desc := "([BI)I" } : Jvm.MethodName) prog_22_method_7_code (7 : Nat) (Option.some Jvm.ClassFile.FieldType.int), Jvm.Cond.code ({ cls := "com/example/kalendae/kalendae/calendar/IsoText", name := "string", desc := "([BI)Ljava/lang/String;" } : Jvm.MethodName) prog_22_method_9_code (2 : Nat) (Option.some (Jvm.ClassFile.FieldType.object "java/lang/String")), Jvm.Cond.code ({ cls := "java/lang/String", name := "<init>", desc := "([BIILjava/nio/charset/Charset;)V" } : Jvm.MethodName) jdk_42_method_10_code (5 : Nat) (Option.none : Option Jvm.ClassFile.FieldType), Jvm.Cond.code ({ cls := "java/util/Objects", name := "requireNonNull", desc := "(Ljava/lang/Object;)Ljava/lang/Object;" } : Jvm.MethodName) jdk_31_method_10_code (1 : Nat) (Option.some (Jvm.ClassFile.FieldType.object "java/lang/Object")), Jvm.Cond.code ({ cls := "java/lang/String", name := "checkBoundsOffCount", desc := "(III)I" } : Jvm.MethodName) jdk_42_method_157_code (3 : Nat) (Option.some Jvm.ClassFile.FieldType.int), Jvm.Cond.code ({ cls := "jdk/internal/util/Preconditions", name := "checkFromIndexSize", desc := "(IIILjava/util/function/BiFunction;)I" } : Jvm.MethodName) jdk_41_method_13_code (4 : Nat) (Option.some Jvm.ClassFile.FieldType.int), Jvm.Cond.codeWith ({ cls := "java/lang/String", name := "<init>", desc := "(Ljava/nio/charset/Charset;[BII)V" } : Jvm.MethodName) jdk_42_method_11_code (11 : Nat) (Option.none : Option Jvm.ClassFile.FieldType) [((800 : Nat), (813 : Nat), (816 : Nat), (202 : Nat))], Jvm.Cond.code ({ cls := "java/lang/Object", name := "<init>", desc := "()V" } : Jvm.MethodName) object_method_1_code (1 : Nat) (Option.none : Option Jvm.ClassFile.FieldType), Jvm.Cond.code ({ cls := "java/util/Arrays", name := "copyOfRange", desc := "([BII)[B" } : Jvm.MethodName) jdk_65_method_132_code (3 : Nat) (Option.some (Jvm.ClassFile.FieldType.array Jvm.ClassFile.FieldType.byte)), Jvm.Cond.code ({ cls := "java/util/Arrays", name := "copyOfRangeByte", desc := "([BII)[B" } : Jvm.MethodName) jdk_65_method_133_code (5 : Nat) (Option.some (Jvm.ClassFile.FieldType.array Jvm.ClassFile.FieldType.byte)), Jvm.Cond.code ({ cls := "java/util/Arrays", name := "checkLength", desc := "(II)V" } : Jvm.MethodName) jdk_65_method_131_code (2 : Nat) (Option.none : Option Jvm.ClassFile.FieldType), Jvm.Cond.code ({ cls := "java/lang/Math", name := "min", desc := "(II)I" } : Jvm.MethodName) jdk_29_method_69_code (2 : Nat) (Option.some Jvm.ClassFile.FieldType.int), Jvm.Cond.code ({ cls := "java/lang/String", name := "length", desc := "()I" } : Jvm.MethodName) jdk_42_method_54_code (1 : Nat) (Option.some Jvm.ClassFile.FieldType.int), Jvm.Cond.code ({ cls := "java/lang/String", name := "coder", desc := "()B" } : Jvm.MethodName) jdk_42_method_152_code (1 : Nat) (Option.some Jvm.ClassFile.FieldType.byte), Jvm.Cond.code ({ cls := "java/lang/String", name := "charAt", desc := "(I)C" } : Jvm.MethodName) jdk_42_method_56_code (2 : Nat) (Option.some Jvm.ClassFile.FieldType.char), Jvm.Cond.code ({ cls := "java/lang/String", name := "isLatin1", desc := "()Z" } : Jvm.MethodName) jdk_42_method_154_code (1 : Nat) (Option.some Jvm.ClassFile.FieldType.boolean), Jvm.Cond.code ({ cls := "java/lang/StringLatin1", name := "charAt", desc := "([BI)C" } : Jvm.MethodName) jdk_43_method_2_code (2 : Nat) (Option.some Jvm.ClassFile.FieldType.char), Jvm.Cond.code ({ cls := "java/lang/String", name := "checkIndex", desc := "(II)V" } : Jvm.MethodName) jdk_42_method_155_code (2 : Nat) (Option.none : Option Jvm.ClassFile.FieldType), Jvm.Cond.code ({ cls := "jdk/internal/util/Preconditions", name := "checkIndex", desc := "(IILjava/util/function/BiFunction;)I" } : Jvm.MethodName) jdk_41_method_11_code (3 : Nat) (Option.some Jvm.ClassFile.FieldType.int), Jvm.Cond.code ({ cls := "com/example/kalendae/kalendae/calendar/IsoText", name := "writesAsNumber", desc := "(I)Z" } : Jvm.MethodName) prog_22_method_5_code (1 : Nat) (Option.some Jvm.ClassFile.FieldType.boolean)]
set_option maxRecDepth 65536 in
theorem codes_eq : words1.filter isCode = codes1 := rfl
theorem w_codes : ∀ c ∈ words1.filter isCode, c.before args0 about1 = true := by
  rw [codes_eq]
  intro c hc
  simp only [codes1, List.mem_cons, List.not_mem_nil, or_false] at hc
  rcases hc with rfl | rfl | rfl | rfl | rfl | rfl | rfl | rfl | rfl | rfl | rfl | rfl | rfl | rfl | rfl | rfl | rfl | rfl | rfl | rfl | rfl | rfl
  · exact w_c0
  · exact w_c1
  · exact w_c2
  · exact w_c3
  · exact w_c4
  · exact w_c5
  · exact w_c6
  · exact w_c7
  · exact w_cW
  · exact w_c8
  · exact w_c9
  · exact w_c10
  · exact w_c11
  · exact w_c12
  · exact w_c13
  · exact w_c14
  · exact w_c15
  · exact w_c16
  · exact w_c17
  · exact w_c18
  · exact w_c19
  · exact w_c20
set_option maxRecDepth 65536 in
theorem w_t1 : (words1.take 24).all (fun c => isCode c || c.before args0 about1) = true := by decide +kernel
set_option maxRecDepth 65536 in
theorem w_t2 : ((words1.drop 24).take 24).all (fun c => isCode c || c.before args0 about1) = true := by decide +kernel
set_option maxRecDepth 65536 in
theorem w_t3 : (((words1.drop 24).drop 24).take 24).all (fun c => isCode c || c.before args0 about1) = true := by decide +kernel
set_option maxRecDepth 65536 in
theorem w_t4 : ((((words1.drop 24).drop 24).drop 24).take 24).all (fun c => isCode c || c.before args0 about1) = true := by decide +kernel
set_option maxRecDepth 65536 in
theorem w_t5 : ((((words1.drop 24).drop 24).drop 24).drop 24).all (fun c => isCode c || c.before args0 about1) = true := by decide +kernel
theorem w_tables : (allAtoms (Jvm.Cond.code x code maxLocals ret :: tables_1)).before args0 about1 = true := by
  rw [allAtoms_all]
  show words1.all (fun c => c.before args0 about1) = true
  refine all_split ?_ w_codes
  rw [← List.take_append_drop 24 words1, List.all_append, w_t1, ← List.take_append_drop 24 (words1.drop 24), List.all_append, w_t2, ← List.take_append_drop 24 ((words1.drop 24).drop 24), List.all_append, w_t3, ← List.take_append_drop 24 (((words1.drop 24).drop 24).drop 24), List.all_append, w_t4, w_t5]
  rfl
set_option maxRecDepth 65536 in
theorem w_rest : rest_1_c.before args0 about1 = true := by decide +kernel
set_option maxRecDepth 65536 in
theorem w_case : (Jvm.Cond.and given_1 narrow_1).before args0 about1 = true := by decide +kernel
theorem w_applies : (headSpec (Jvm.Cond.code x code maxLocals ret :: tables_1) room_1).applies x e0.platform about1 = true :=
  (Spec.applies_iff w_frames).mpr ⟨w_running, w_runnable, w_alone, w_named, w_hears, w_ripe, w_room, w_tables⟩
theorem atStart : AtStart classFile x code maxLocals ret World_1 tables_1 room_1 Calls_1 rest_1 Pre_1 launch0 p0 e0 about1 theMethod args0 below0 :=
  ⟨lists_1, trivial, launch0.admits_env _ _ _, launch0.least_env, fairChoices_fair.cas, fairChoices_fair.clock, w_frames, w_args, w_heap, w_applies, trivial, w_rest, w_case⟩
end start1
theorem witness_1 : WitnessClaimed_1 := ⟨start1.p0, start1.e0, start1.about1, start1.theMethod, start1.args0, start1.below0, start1.atStart⟩
end Jvm.Pilot.@@N@@
