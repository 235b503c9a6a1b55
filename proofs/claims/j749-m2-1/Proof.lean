import JvmDerived
import JvmDerived.Pilot.@@N@@Statement
import JvmDerived.Pilot.@@N@@Code
set_option linter.unusedVariables false
set_option linter.unusedSimpArgs false
@@BLOCK:NumsL.lean.txt@@
namespace Jvm.Pilot.@@N@@
open Jvm Jvm.ClassFile Sem Op Lib Jvm.Free Jvm.Stand Jvm.LawKit Jvm.RoadKit Bundle Jvm.Pilot.@@N@@.Jvm.D
theorem own_m {Z : State} {aw : Array Value} (hw : ∀ d ∈ tables_1, d.before aw Z = true) (i : Nat) {d : Jvm.Cond} (h : tables_1[i]? = some d) : d.before aw Z = true := hw d (List.mem_of_getElem? h)
theorem own_tnc (x : Int32) : x.toNatClampNeg = x.toInt.toNat := rfl
theorem own_lc (x y : Int64) : lcmpW x y = if x > y then 1 else if x = y then 0 else -1 := rfl
theorem own_lt (x y : Int64) : lcmpW x y < 0 ↔ x < y := by
  rw [own_lc]; split
  · rename_i h; exact ⟨fun q => absurd q (by decide), fun q => absurd h (Int64.lt_asymm q)⟩
  · split
    · rename_i h1 h2; subst h2; exact ⟨fun q => absurd q (by decide), fun q => absurd q Int64.lt_irrefl⟩
    · rename_i h1 h2; exact ⟨fun _ => (Int64.lt_or_lt_of_ne h2).resolve_right h1, fun _ => by decide⟩
theorem own_gt (x y : Int64) : 0 < lcmpW x y ↔ y < x := by
  rw [own_lc]; split
  · rename_i h; exact ⟨fun _ => h, fun _ => by decide⟩
  · split
    · rename_i h1 h2; exact ⟨fun q => absurd q (by decide), fun q => absurd q h1⟩
    · rename_i h1 h2; exact ⟨fun q => absurd q (by decide), fun q => absurd q h1⟩
theorem own_eq (x y : Int64) : lcmpW x y = 0 ↔ x = y := by
  rw [own_lc]; split
  · rename_i h; exact ⟨fun q => absurd q (by decide), fun q => absurd (q ▸ h) Int64.lt_irrefl⟩
  · split
    · rename_i h1 h2; exact ⟨fun _ => h2, fun _ => rfl⟩
    · rename_i h1 h2; exact ⟨fun q => absurd q (by decide), fun q => absurd q h2⟩
theorem d1_0 : decode prog_95_method_1_code 0 = .ok (.aload_n 0, 1) := by decide +kernel
theorem d1_1 : decode prog_95_method_1_code 1 = .ok (.invokespecial 1, 3) := by decide +kernel
theorem d1_4 : decode prog_95_method_1_code 4 = .ok (.aload_n 0, 1) := by decide +kernel
theorem d1_5 : decode prog_95_method_1_code 5 = .ok (.aload_n 1, 1) := by decide +kernel
theorem d1_6 : decode prog_95_method_1_code 6 = .ok (.putfield 7, 3) := by decide +kernel
theorem d1_9 : decode prog_95_method_1_code 9 = .ok (.aload_n 0, 1) := by decide +kernel
theorem d1_10 : decode prog_95_method_1_code 10 = .ok (.aload_n 2, 1) := by decide +kernel
theorem d1_11 : decode prog_95_method_1_code 11 = .ok (.putfield 13, 3) := by decide +kernel
theorem d1_14 : decode prog_95_method_1_code 14 = .ok (.return_, 1) := by decide +kernel
theorem pn_1 : plainName "com/example/pathfield/pathfield/store/LongColumn" = true := by first | (simp [plainName, overriddenIn]; done) | decide +kernel
theorem ef1a (m : MethodId) (x0 : Addr) (x1 : Addr) (x2 : Addr) : entryFrame m #[(.ref x0), (.ref x1), (.ref x2)] 3 = mkF m 0 #[.val (.ref x0), .val (.ref x1), .val (.ref x2)] [] := by first | (simp [entryFrame, mkF, argsToLocals, Value.category]; done) | rfl
abbrev rr1a : Room := { frames := 1, cells := 0, slots := 0, locals := 12 }
def Q1a (Z : State) (a0 : Addr) (a1 : Addr) (a2 : Addr) (h0 : Heap) (n0 : Nat) (v : Option Value) (h : Heap) (L : List Loc) : Prop := v = none ∧ Fr n0 L ∧ Keep h0 h [a0] ∧ Exa Z h a0 "com/example/pathfield/pathfield/store/LongColumn" ∧ Fld Z h a0 "com/example/pathfield/pathfield/store/LongColumn" "values" "[J" (.ref a1) ∧ Fld Z h a0 "com/example/pathfield/pathfield/store/LongColumn" "present" "[J" (.ref a2)
set_option maxRecDepth 65536 in
set_option maxHeartbeats 40000000 in
theorem rm1a (l : Launch) (Z : State) (aw : Array Value) (hw : ∀ d ∈ tables_1, d.before aw Z = true) (ws : List Jvm.Cond) (a0 : Addr) (a1 : Addr) (a2 : Addr) (h0 : Heap) (n0 : Nat) (Z0 : n0 ≤ h0.size) (E_a0 : Exa Z h0 a0 "com/example/pathfield/pathfield/store/LongColumn") (F_values_a0 : Fld Z h0 a0 "com/example/pathfield/pathfield/store/LongColumn" "values" "[J" .null) (F_present_a0 : Fld Z h0 a0 "com/example/pathfield/pathfield/store/LongColumn" "present" "[J" .null) (g_a0 : n0 ≤ a0) :
    MetFree l (⟨"com/example/pathfield/pathfield/store/LongColumn", "<init>", "([J[J)V"⟩ : MethodName) (head1 (Jvm.Cond.code (⟨"com/example/pathfield/pathfield/store/LongColumn", "<init>", "([J[J)V"⟩ : MethodName) prog_95_method_1_code 3 none :: ws) rr1a) (fun a U => a = #[(.ref a0), (.ref a1), (.ref a2)] ∧ Z.Warmed39 U.vm ∧ U.heap = h0) (fun _ _ _ _ _ => True) (fun _ U o U' => ∃ v L, o = .returned v ∧ Q1a Z a0 a1 a2 h0 n0 v U'.heap L ∧ FrameEnd U o U' L rr1a.cells rr1a.slots) := by
  refine MetFree.of_bodySF (plainFor_of_name pn_1) hisR ?_
  intro p e s m args below meth c s₁ Bd hml0 hP hK
  obtain ⟨rfl, hZ, hh⟩ := hP
  have hx := Bd.exec
  have hby := Bd.bytes
  have hml : c.maxLocals = 3 := hml0
  have hown : s.vm.findClass "com/example/pathfield/pathfield/store/LongColumn" = some m.cls := findClass_of_methodNamed Bd.named
  have hnm := (name_of_methodNamed Bd.named Bd.method).1
  have X0 : Stand p l e rr1a s m #[(.ref a0), (.ref a1), (.ref a2)] below meth c s₁ [] 0 0 := Stand.of_body Bd
  have e0 : s₁.heap = h0 := by rw [← hh, Bd.state]; rfl
  have N0 := Fr.nil n0
  have K0 := Keep.refl h0 [a0]
  have pre0 : ∀ t, Steps p.tables e below (s₁.setTop (mkF m 0 #[.val (.ref a0), .val (.ref a1), .val (.ref a2)] [])) t → Steps p.tables e below (s₁.setTop (entryFrame m #[(.ref a0), (.ref a1), (.ref a2)] 3)) t := fun t k => castTop (ef1a m a0 a1 a2) k
  obtain ⟨T1, X1, e1, st1⟩ := initO X0 hx hZ hown (hw _ (List.mem_of_getElem? (i := 7) rfl)) (hw _ (List.mem_of_getElem? (i := 8) rfl)) (hw _ (List.mem_of_getElem? (i := 9) rfl)) e0 (g := (mkF m 1 #[.val (.ref a0), .val (.ref a1), .val (.ref a2)] [(.ref a0)])) rfl (by rw [hml]; rfl) rfl (hb hby d1_1) (by decide) (W := 0) (by show 2 * 0 + _ ≤ _; exact Nat.le_of_eq rfl) (by decide)
  obtain ⟨T2, h2, X2, e2, W2, st2⟩ := putF X1 hx hZ hown (host := "") (Or.inl (hw _ (List.mem_of_getElem? (i := 10) rfl))) Via.refl e1 F_values_a0 E_a0 (Or.inr ⟨(hw _ (List.mem_of_getElem? (i := 11) rfl)), rfl, hnm⟩) (hw _ (List.mem_of_getElem? (i := 2) rfl)) (ty := (.array .long)) (by decide) rfl rfl (g := (mkF m 6 #[.val (.ref a0), .val (.ref a1), .val (.ref a2)] [(.ref a1), (.ref a0)])) rfl rfl (hb hby d1_6)
  have f2w : Fld Z h2 a0 "com/example/pathfield/pathfield/store/LongColumn" "values" "[J" (.ref a1) := F_values_a0.same W2
  have f3 := E_a0.wr W2
  have f5 := F_present_a0.other W2 (Or.inr (slot_ne (Or.inr (hw _ (List.mem_of_getElem? (i := 13) rfl))) (Or.inr (hw _ (List.mem_of_getElem? (i := 11) rfl))) (by decide) (t := (.array .long)) (t' := (.array .long)) (by decide) (by decide)))
  have K6 := K0.wr W2 (Or.inl (List.mem_of_getElem? (i := 0) rfl))
  have Z7 := Nat.le_trans Z0 (Keep.of_wr W2).1
  have N8 := Fr.snoc X2 N0 g_a0
  obtain ⟨T9, h9, X9, e9, W9, st9⟩ := putF X2 hx hZ hown (host := "") (Or.inl (hw _ (List.mem_of_getElem? (i := 12) rfl))) Via.refl e2 f5 f3 (Or.inr ⟨(hw _ (List.mem_of_getElem? (i := 13) rfl)), rfl, hnm⟩) (hw _ (List.mem_of_getElem? (i := 2) rfl)) (ty := (.array .long)) (by decide) rfl rfl (g := (mkF m 11 #[.val (.ref a0), .val (.ref a1), .val (.ref a2)] [(.ref a2), (.ref a0)])) rfl rfl (hb hby d1_11)
  have f9w : Fld Z h9 a0 "com/example/pathfield/pathfield/store/LongColumn" "present" "[J" (.ref a2) := f5.same W9
  have f10 := f3.wr W9
  have f11 := f2w.other W9 (Or.inr (slot_ne (Or.inr (hw _ (List.mem_of_getElem? (i := 11) rfl))) (Or.inr (hw _ (List.mem_of_getElem? (i := 13) rfl))) (by decide) (t := (.array .long)) (t' := (.array .long)) (by decide) (by decide)))
  have K13 := K6.wr W9 (Or.inl (List.mem_of_getElem? (i := 0) rfl))
  have Z14 := Nat.le_trans Z7 (Keep.of_wr W9).1
  have N15 := Fr.snoc X9 N8 g_a0
  obtain ⟨fs, hr, hrun, hended, hW, hsame⟩ := X9.leave (v := none) (fun _ => rfl)
  refine ⟨_, _, pre0 _ ?_, hrun, hended, _, _, rfl, ?_, ⟨_, rfl⟩, hW, hsame.mono (by decide) (by decide)⟩
  · skip
    show Steps p.tables e below (s₁.setTop (mkF m 0 #[.val (.ref a0), .val (.ref a1), .val (.ref a2)] [])) _
    refine XS.aloadN X0.here hx rfl (hb hby d1_0) rfl rfl ?_
    show Steps p.tables e below (s₁.setTop (mkF m 1 #[.val (.ref a0), .val (.ref a1), .val (.ref a2)] [(.ref a0)])) _
    refine st1 _ ?_
    show Steps p.tables e below (T1.setTop (mkF m 4 #[.val (.ref a0), .val (.ref a1), .val (.ref a2)] [])) _
    refine XS.aloadN X1.here hx rfl (hb hby d1_4) rfl rfl ?_
    show Steps p.tables e below (T1.setTop (mkF m 5 #[.val (.ref a0), .val (.ref a1), .val (.ref a2)] [(.ref a0)])) _
    refine XS.aloadN X1.here hx rfl (hb hby d1_5) rfl rfl ?_
    show Steps p.tables e below (T1.setTop (mkF m 6 #[.val (.ref a0), .val (.ref a1), .val (.ref a2)] [(.ref a1), (.ref a0)])) _
    refine st2 _ ?_
    show Steps p.tables e below (T2.setTop (mkF m 9 #[.val (.ref a0), .val (.ref a1), .val (.ref a2)] [])) _
    refine XS.aloadN X2.here hx rfl (hb hby d1_9) rfl rfl ?_
    show Steps p.tables e below (T2.setTop (mkF m 10 #[.val (.ref a0), .val (.ref a1), .val (.ref a2)] [(.ref a0)])) _
    refine XS.aloadN X2.here hx rfl (hb hby d1_10) rfl rfl ?_
    show Steps p.tables e below (T2.setTop (mkF m 11 #[.val (.ref a0), .val (.ref a1), .val (.ref a2)] [(.ref a2), (.ref a0)])) _
    refine st9 _ ?_
    show Steps p.tables e below (T9.setTop (mkF m 14 #[.val (.ref a0), .val (.ref a1), .val (.ref a2)] [])) _
    exact X9.returnOut hx Bd.returns (hb hby d1_14) hr
  · show Q1a Z a0 a1 a2 h0 n0 _ T9.heap _
    rw [e9]
    exact ⟨rfl, N15, K13, f10, f11, f9w⟩
theorem ef1n (m : MethodId) (x0 : Addr) (x1 : Addr) : entryFrame m #[(.ref x0), (.ref x1), .null] 3 = mkF m 0 #[.val (.ref x0), .val (.ref x1), .val .null] [] := by first | (simp [entryFrame, mkF, argsToLocals, Value.category]; done) | rfl
abbrev rr1n : Room := { frames := 1, cells := 0, slots := 0, locals := 12 }
def Q1n (Z : State) (a0 : Addr) (a1 : Addr) (h0 : Heap) (n0 : Nat) (v : Option Value) (h : Heap) (L : List Loc) : Prop := v = none ∧ Fr n0 L ∧ Keep h0 h [a0] ∧ Exa Z h a0 "com/example/pathfield/pathfield/store/LongColumn" ∧ Fld Z h a0 "com/example/pathfield/pathfield/store/LongColumn" "values" "[J" (.ref a1) ∧ Fld Z h a0 "com/example/pathfield/pathfield/store/LongColumn" "present" "[J" .null
set_option maxRecDepth 65536 in
set_option maxHeartbeats 40000000 in
theorem rm1n (l : Launch) (Z : State) (aw : Array Value) (hw : ∀ d ∈ tables_1, d.before aw Z = true) (ws : List Jvm.Cond) (a0 : Addr) (a1 : Addr) (h0 : Heap) (n0 : Nat) (Z0 : n0 ≤ h0.size) (E_a0 : Exa Z h0 a0 "com/example/pathfield/pathfield/store/LongColumn") (F_values_a0 : Fld Z h0 a0 "com/example/pathfield/pathfield/store/LongColumn" "values" "[J" .null) (F_present_a0 : Fld Z h0 a0 "com/example/pathfield/pathfield/store/LongColumn" "present" "[J" .null) (g_a0 : n0 ≤ a0) :
    MetFree l (⟨"com/example/pathfield/pathfield/store/LongColumn", "<init>", "([J[J)V"⟩ : MethodName) (head1 (Jvm.Cond.code (⟨"com/example/pathfield/pathfield/store/LongColumn", "<init>", "([J[J)V"⟩ : MethodName) prog_95_method_1_code 3 none :: ws) rr1n) (fun a U => a = #[(.ref a0), (.ref a1), .null] ∧ Z.Warmed39 U.vm ∧ U.heap = h0) (fun _ _ _ _ _ => True) (fun _ U o U' => ∃ v L, o = .returned v ∧ Q1n Z a0 a1 h0 n0 v U'.heap L ∧ FrameEnd U o U' L rr1n.cells rr1n.slots) := by
  refine MetFree.of_bodySF (plainFor_of_name pn_1) hisR ?_
  intro p e s m args below meth c s₁ Bd hml0 hP hK
  obtain ⟨rfl, hZ, hh⟩ := hP
  have hx := Bd.exec
  have hby := Bd.bytes
  have hml : c.maxLocals = 3 := hml0
  have hown : s.vm.findClass "com/example/pathfield/pathfield/store/LongColumn" = some m.cls := findClass_of_methodNamed Bd.named
  have hnm := (name_of_methodNamed Bd.named Bd.method).1
  have X0 : Stand p l e rr1n s m #[(.ref a0), (.ref a1), .null] below meth c s₁ [] 0 0 := Stand.of_body Bd
  have e0 : s₁.heap = h0 := by rw [← hh, Bd.state]; rfl
  have N0 := Fr.nil n0
  have K0 := Keep.refl h0 [a0]
  have pre0 : ∀ t, Steps p.tables e below (s₁.setTop (mkF m 0 #[.val (.ref a0), .val (.ref a1), .val .null] [])) t → Steps p.tables e below (s₁.setTop (entryFrame m #[(.ref a0), (.ref a1), .null] 3)) t := fun t k => castTop (ef1n m a0 a1) k
  obtain ⟨T16, X16, e16, st16⟩ := initO X0 hx hZ hown (hw _ (List.mem_of_getElem? (i := 7) rfl)) (hw _ (List.mem_of_getElem? (i := 8) rfl)) (hw _ (List.mem_of_getElem? (i := 9) rfl)) e0 (g := (mkF m 1 #[.val (.ref a0), .val (.ref a1), .val .null] [(.ref a0)])) rfl (by rw [hml]; rfl) rfl (hb hby d1_1) (by decide) (W := 0) (by show 2 * 0 + _ ≤ _; exact Nat.le_of_eq rfl) (by decide)
  obtain ⟨T17, h17, X17, e17, W17, st17⟩ := putF X16 hx hZ hown (host := "") (Or.inl (hw _ (List.mem_of_getElem? (i := 10) rfl))) Via.refl e16 F_values_a0 E_a0 (Or.inr ⟨(hw _ (List.mem_of_getElem? (i := 11) rfl)), rfl, hnm⟩) (hw _ (List.mem_of_getElem? (i := 2) rfl)) (ty := (.array .long)) (by decide) rfl rfl (g := (mkF m 6 #[.val (.ref a0), .val (.ref a1), .val .null] [(.ref a1), (.ref a0)])) rfl rfl (hb hby d1_6)
  have f17w : Fld Z h17 a0 "com/example/pathfield/pathfield/store/LongColumn" "values" "[J" (.ref a1) := F_values_a0.same W17
  have f18 := E_a0.wr W17
  have f20 := F_present_a0.other W17 (Or.inr (slot_ne (Or.inr (hw _ (List.mem_of_getElem? (i := 13) rfl))) (Or.inr (hw _ (List.mem_of_getElem? (i := 11) rfl))) (by decide) (t := (.array .long)) (t' := (.array .long)) (by decide) (by decide)))
  have K21 := K0.wr W17 (Or.inl (List.mem_of_getElem? (i := 0) rfl))
  have Z22 := Nat.le_trans Z0 (Keep.of_wr W17).1
  have N23 := Fr.snoc X17 N0 g_a0
  obtain ⟨T24, h24, X24, e24, W24, st24⟩ := putF X17 hx hZ hown (host := "") (Or.inl (hw _ (List.mem_of_getElem? (i := 12) rfl))) Via.refl e17 f20 f18 (Or.inr ⟨(hw _ (List.mem_of_getElem? (i := 13) rfl)), rfl, hnm⟩) (hw _ (List.mem_of_getElem? (i := 2) rfl)) (ty := (.array .long)) (by decide) rfl rfl (g := (mkF m 11 #[.val (.ref a0), .val (.ref a1), .val .null] [.null, (.ref a0)])) rfl rfl (hb hby d1_11)
  have f24w : Fld Z h24 a0 "com/example/pathfield/pathfield/store/LongColumn" "present" "[J" .null := f20.same W24
  have f25 := f18.wr W24
  have f26 := f17w.other W24 (Or.inr (slot_ne (Or.inr (hw _ (List.mem_of_getElem? (i := 11) rfl))) (Or.inr (hw _ (List.mem_of_getElem? (i := 13) rfl))) (by decide) (t := (.array .long)) (t' := (.array .long)) (by decide) (by decide)))
  have K28 := K21.wr W24 (Or.inl (List.mem_of_getElem? (i := 0) rfl))
  have Z29 := Nat.le_trans Z22 (Keep.of_wr W24).1
  have N30 := Fr.snoc X24 N23 g_a0
  obtain ⟨fs, hr, hrun, hended, hW, hsame⟩ := X24.leave (v := none) (fun _ => rfl)
  refine ⟨_, _, pre0 _ ?_, hrun, hended, _, _, rfl, ?_, ⟨_, rfl⟩, hW, hsame.mono (by decide) (by decide)⟩
  · skip
    show Steps p.tables e below (s₁.setTop (mkF m 0 #[.val (.ref a0), .val (.ref a1), .val .null] [])) _
    refine XS.aloadN X0.here hx rfl (hb hby d1_0) rfl rfl ?_
    show Steps p.tables e below (s₁.setTop (mkF m 1 #[.val (.ref a0), .val (.ref a1), .val .null] [(.ref a0)])) _
    refine st16 _ ?_
    show Steps p.tables e below (T16.setTop (mkF m 4 #[.val (.ref a0), .val (.ref a1), .val .null] [])) _
    refine XS.aloadN X16.here hx rfl (hb hby d1_4) rfl rfl ?_
    show Steps p.tables e below (T16.setTop (mkF m 5 #[.val (.ref a0), .val (.ref a1), .val .null] [(.ref a0)])) _
    refine XS.aloadN X16.here hx rfl (hb hby d1_5) rfl rfl ?_
    show Steps p.tables e below (T16.setTop (mkF m 6 #[.val (.ref a0), .val (.ref a1), .val .null] [(.ref a1), (.ref a0)])) _
    refine st17 _ ?_
    show Steps p.tables e below (T17.setTop (mkF m 9 #[.val (.ref a0), .val (.ref a1), .val .null] [])) _
    refine XS.aloadN X17.here hx rfl (hb hby d1_9) rfl rfl ?_
    show Steps p.tables e below (T17.setTop (mkF m 10 #[.val (.ref a0), .val (.ref a1), .val .null] [(.ref a0)])) _
    refine XS.aloadN X17.here hx rfl (hb hby d1_10) rfl rfl ?_
    show Steps p.tables e below (T17.setTop (mkF m 11 #[.val (.ref a0), .val (.ref a1), .val .null] [.null, (.ref a0)])) _
    refine st24 _ ?_
    show Steps p.tables e below (T24.setTop (mkF m 14 #[.val (.ref a0), .val (.ref a1), .val .null] [])) _
    exact X24.returnOut hx Bd.returns (hb hby d1_14) hr
  · show Q1n Z a0 a1 h0 n0 _ T24.heap _
    rw [e24]
    exact ⟨rfl, N30, K28, f25, f26, f24w⟩
def own_sel (w0 w1 : Int64) (i : Int32) : Int64 := if i < (64 : Int32) then w0 else w1
theorem own_six (i : Int32) (h0 : ¬ i < (0 : Int32)) (h1 : i < (128 : Int32)) : ((i.toUInt32 >>> ((6 : Int32) &&& 31).toUInt32).toInt32) = if i < (64 : Int32) then 0 else 1 := by
  have z : (0 : Int32).toInt = 0 := rfl
  have a : (128 : Int32).toInt = 128 := rfl
  have b : (64 : Int32).toInt = 64 := rfl
  have o : (1 : Int32).toInt = 1 := rfl
  rw [Int32.lt_iff_toInt_lt] at h0 h1
  have e := Jvm.Kit.i32_iushr (x := i) (n := ((6 : Int32) &&& 31).toUInt32) (k := 6) (Jvm.Kit.i32_nonneg.mpr (by omega)) (by decide) (by decide)
  split
  · rename_i h; rw [Int32.lt_iff_toInt_lt] at h; rw [← Int32.toInt_inj, e]; omega
  · rename_i h; rw [Int32.lt_iff_toInt_lt] at h; rw [← Int32.toInt_inj, e]; omega
theorem own_ix (i : Int32) (h0 : ¬ i < (0 : Int32)) (h1 : i < (128 : Int32)) : ¬ ((i.toUInt32 >>> ((6 : Int32) &&& 31).toUInt32).toInt32) < 0 ∧ ((i.toUInt32 >>> ((6 : Int32) &&& 31).toUInt32).toInt32) < (2 : Int32) := by
  rw [own_six i h0 h1]; split <;> decide
theorem own_get (w0 w1 : Int64) (i : Int32) (h0 : ¬ i < (0 : Int32)) (h1 : i < (128 : Int32)) : ([.long w0, .long w1] : List Value).getD ((i.toUInt32 >>> ((6 : Int32) &&& 31).toUInt32).toInt32).toNatClampNeg (.long (0 : Int64)) = .long (own_sel w0 w1 i) := by
  rw [own_six i h0 h1]; unfold own_sel; split <;> rfl
theorem d3_0 : decode prog_95_method_3_code 0 = .ok (.aload_n 0, 1) := by decide +kernel
theorem d3_1 : decode prog_95_method_3_code 1 = .ok (.getfield 13, 3) := by decide +kernel
theorem d3_4 : decode prog_95_method_3_code 4 = .ok (.ifnull 21, 3) := by decide +kernel
theorem d3_7 : decode prog_95_method_3_code 7 = .ok (.aload_n 0, 1) := by decide +kernel
theorem d3_8 : decode prog_95_method_3_code 8 = .ok (.getfield 13, 3) := by decide +kernel
theorem d3_11 : decode prog_95_method_3_code 11 = .ok (.iload_n 1, 1) := by decide +kernel
theorem d3_12 : decode prog_95_method_3_code 12 = .ok (.bipush 6, 2) := by decide +kernel
theorem d3_14 : decode prog_95_method_3_code 14 = .ok (.iushr, 1) := by decide +kernel
theorem d3_15 : decode prog_95_method_3_code 15 = .ok (.laload, 1) := by decide +kernel
theorem d3_16 : decode prog_95_method_3_code 16 = .ok (.lconst 1, 1) := by decide +kernel
theorem d3_17 : decode prog_95_method_3_code 17 = .ok (.iload_n 1, 1) := by decide +kernel
theorem d3_18 : decode prog_95_method_3_code 18 = .ok (.lshl, 1) := by decide +kernel
theorem d3_19 : decode prog_95_method_3_code 19 = .ok (.land, 1) := by decide +kernel
theorem d3_20 : decode prog_95_method_3_code 20 = .ok (.lconst 0, 1) := by decide +kernel
theorem d3_21 : decode prog_95_method_3_code 21 = .ok (.lcmp, 1) := by decide +kernel
theorem d3_22 : decode prog_95_method_3_code 22 = .ok (.ifCond .eq 7, 3) := by decide +kernel
theorem d3_29 : decode prog_95_method_3_code 29 = .ok (.iconst 0, 1) := by decide +kernel
theorem d3_25 : decode prog_95_method_3_code 25 = .ok (.iconst 1, 1) := by decide +kernel
theorem d3_26 : decode prog_95_method_3_code 26 = .ok (.goto 4, 3) := by decide +kernel
theorem d3_30 : decode prog_95_method_3_code 30 = .ok (.ireturn, 1) := by decide +kernel
def j3a_0 (p1 : Int32) (w0 : Int64) (w1 : Int64) : Int32 := (if ((own_sel w0 w1 p1) &&& ((1 : Int64) <<< (p1 &&& 0x3f).toInt64)) = (0 : Int64) then (0 : Int32) else (1 : Int32))
theorem ef3a (m : MethodId) (x0 : Addr) (x1 : Int32) : entryFrame m #[(.ref x0), (.int x1)] 2 = mkF m 0 #[.val (.ref x0), .val (.int x1)] [] := by first | (simp [entryFrame, mkF, argsToLocals, Value.category]; done) | rfl
abbrev rr3a : Room := { frames := 0, cells := 0, slots := 0, locals := 0 }
def Q3a (Z : State) (a0 : Addr) (p1 : Int32) (bb : Addr) (w0 : Int64) (w1 : Int64) (k_bb : ClassId) (h0 : Heap) (n0 : Nat) (v : Option Value) (h : Heap) (L : List Loc) : Prop := v = some (.int (nar .boolean (j3a_0 p1 w0 w1))) ∧ Fr n0 L ∧ h = h0
set_option maxRecDepth 65536 in
set_option maxHeartbeats 40000000 in
theorem rm3a (l : Launch) (Z : State) (aw : Array Value) (hw : ∀ d ∈ tables_1, d.before aw Z = true) (ws : List Jvm.Cond) (a0 : Addr) (p1 : Int32) (bb : Addr) (w0 : Int64) (w1 : Int64) (k_bb : ClassId) (h0 : Heap) (n0 : Nat) (Z0 : n0 ≤ h0.size) (E_a0 : Exa Z h0 a0 "com/example/pathfield/pathfield/store/LongColumn") (F_present_a0 : Fld Z h0 a0 "com/example/pathfield/pathfield/store/LongColumn" "present" "[J" (.ref bb)) (V_bb : Arv Z h0 bb k_bb .long (2 : Int32) [(.long w0), (.long w1)] (.long (0 : Int64))) (hi0 : ¬ p1 < (0 : Int32)) (hi1 : p1 < (128 : Int32)) :
    MetFree l (⟨"com/example/pathfield/pathfield/store/LongColumn", "has", "(I)Z"⟩ : MethodName) (head1 (Jvm.Cond.code (⟨"com/example/pathfield/pathfield/store/LongColumn", "has", "(I)Z"⟩ : MethodName) prog_95_method_3_code 2 (some .boolean) :: ws) rr3a) (fun a U => a = #[(.ref a0), (.int p1)] ∧ Z.Warmed39 U.vm ∧ U.heap = h0) (fun _ _ _ _ _ => True) (fun _ U o U' => ∃ v L, o = .returned v ∧ Q3a Z a0 p1 bb w0 w1 k_bb h0 n0 v U'.heap L ∧ FrameEnd U o U' L rr3a.cells rr3a.slots) := by
  refine MetFree.of_bodySF (plainFor_of_name pn_1) hisR ?_
  intro p e s m args below meth c s₁ Bd hml0 hP hK
  obtain ⟨rfl, hZ, hh⟩ := hP
  have hx := Bd.exec
  have hby := Bd.bytes
  have hml : c.maxLocals = 2 := hml0
  have hown : s.vm.findClass "com/example/pathfield/pathfield/store/LongColumn" = some m.cls := findClass_of_methodNamed Bd.named
  have hnm := (name_of_methodNamed Bd.named Bd.method).1
  have X0 : Stand p l e rr3a s m #[(.ref a0), (.int p1)] below meth c s₁ [] 0 0 := Stand.of_body Bd
  have e0 : s₁.heap = h0 := by rw [← hh, Bd.state]; rfl
  have N0 := Fr.nil n0
  have pre0 : ∀ t, Steps p.tables e below (s₁.setTop (mkF m 0 #[.val (.ref a0), .val (.int p1)] [])) t → Steps p.tables e below (s₁.setTop (entryFrame m #[(.ref a0), (.int p1)] 2)) t := fun t k => castTop (ef3a m a0 p1) k
  obtain ⟨T31, X31, e31, st31⟩ := getF X0 hx hZ hown (host := "") (Or.inl (hw _ (List.mem_of_getElem? (i := 12) rfl))) Via.refl e0 F_present_a0 (g := (mkF m 1 #[.val (.ref a0), .val (.int p1)] [(.ref a0)])) rfl rfl (hb hby d3_1)
  obtain ⟨T32, X32, e32, st32⟩ := getF X31 hx hZ hown (host := "") (Or.inl (hw _ (List.mem_of_getElem? (i := 12) rfl))) Via.refl e31 F_present_a0 (g := (mkF m 8 #[.val (.ref a0), .val (.int p1)] [(.ref a0)])) rfl rfl (hb hby d3_8)
  obtain ⟨cl33, Ar33, q33, S33, M33, H33, G33⟩ := id V_bb
  have hin34 : ¬ (((p1.toUInt32 >>> ((6 : Int32) &&& 31).toUInt32).toInt32) < 0 ∨ cl33.slots.size ≤ (((p1.toUInt32 >>> ((6 : Int32) &&& 31).toUInt32).toInt32)).toNatClampNeg) := inb_of S33 (own_ix p1 hi0 hi1)
  have hat35 : cl33.slots[(((p1.toUInt32 >>> ((6 : Int32) &&& 31).toUInt32).toInt32)).toNatClampNeg]? = some (.long (own_sel w0 w1 p1)) := H33.at hin34 (own_get w0 w1 p1 hi0 hi1)
  have pre36 := fun (t : State) (k : Steps p.tables e below (T32.setTop (mkF m 22 #[.val (.ref a0), .val (.int p1)] [(.int (lcmpW ((own_sel w0 w1 p1) &&& ((1 : Int64) <<< (p1 &&& 0x3f).toInt64)) (0 : Int64)))])) t) => pre0 t (by
    show Steps p.tables e below (s₁.setTop (mkF m 0 #[.val (.ref a0), .val (.int p1)] [])) _
    refine XS.aloadN X0.here hx rfl (hb hby d3_0) rfl rfl ?_
    show Steps p.tables e below (s₁.setTop (mkF m 1 #[.val (.ref a0), .val (.int p1)] [(.ref a0)])) _
    refine st31 _ ?_
    show Steps p.tables e below (T31.setTop (mkF m 4 #[.val (.ref a0), .val (.int p1)] [(.ref bb)])) _
    refine XS.ifnullNo X31.here hx rfl (hb hby d3_4) rfl ?_
    show Steps p.tables e below (T31.setTop (mkF m 7 #[.val (.ref a0), .val (.int p1)] [])) _
    refine XS.aloadN X31.here hx rfl (hb hby d3_7) rfl rfl ?_
    show Steps p.tables e below (T31.setTop (mkF m 8 #[.val (.ref a0), .val (.int p1)] [(.ref a0)])) _
    refine st32 _ ?_
    show Steps p.tables e below (T32.setTop (mkF m 11 #[.val (.ref a0), .val (.int p1)] [(.ref bb)])) _
    refine XS.iloadN X32.here hx rfl (hb hby d3_11) rfl ?_
    show Steps p.tables e below (T32.setTop (mkF m 12 #[.val (.ref a0), .val (.int p1)] [(.int p1), (.ref bb)])) _
    refine XS.bipush X32.here hx rfl (hb hby d3_12) ?_
    show Steps p.tables e below (T32.setTop (mkF m 14 #[.val (.ref a0), .val (.int p1)] [(.int (6 : Int32)), (.int p1), (.ref bb)])) _
    refine XS.iushr X32.here hx rfl (hb hby d3_14) rfl ?_
    show Steps p.tables e below (T32.setTop (mkF m 15 #[.val (.ref a0), .val (.int p1)] [(.int ((p1.toUInt32 >>> ((6 : Int32) &&& 31).toUInt32).toInt32)), (.ref bb)])) _
    refine X32.laload hx (j := ((p1.toUInt32 >>> ((6 : Int32) &&& 31).toUInt32).toInt32)) (v := (.long (own_sel w0 w1 p1))) (by rw [e32]; exact Ar33.1) (State.isArrayOf_alike hZ.alike Ar33.2.1) Ar33.2.2 hin34 hat35 (g := (mkF m 15 #[.val (.ref a0), .val (.int p1)] [(.int ((p1.toUInt32 >>> ((6 : Int32) &&& 31).toUInt32).toInt32)), (.ref bb)])) rfl rfl (hb hby d3_15) _ ?_
    show Steps p.tables e below (T32.setTop (mkF m 16 #[.val (.ref a0), .val (.int p1)] [(.long (own_sel w0 w1 p1))])) _
    refine XS.lconst X32.here hx rfl (hb hby d3_16) ?_
    show Steps p.tables e below (T32.setTop (mkF m 17 #[.val (.ref a0), .val (.int p1)] [(.long (1 : Int64)), (.long (own_sel w0 w1 p1))])) _
    refine XS.iloadN X32.here hx rfl (hb hby d3_17) rfl ?_
    show Steps p.tables e below (T32.setTop (mkF m 18 #[.val (.ref a0), .val (.int p1)] [(.int p1), (.long (1 : Int64)), (.long (own_sel w0 w1 p1))])) _
    refine XS.lshl X32.here hx rfl (hb hby d3_18) rfl ?_
    show Steps p.tables e below (T32.setTop (mkF m 19 #[.val (.ref a0), .val (.int p1)] [(.long ((1 : Int64) <<< (p1 &&& 0x3f).toInt64)), (.long (own_sel w0 w1 p1))])) _
    refine XS.land X32.here hx rfl (hb hby d3_19) rfl ?_
    show Steps p.tables e below (T32.setTop (mkF m 20 #[.val (.ref a0), .val (.int p1)] [(.long ((own_sel w0 w1 p1) &&& ((1 : Int64) <<< (p1 &&& 0x3f).toInt64)))])) _
    refine XS.lconst X32.here hx rfl (hb hby d3_20) ?_
    show Steps p.tables e below (T32.setTop (mkF m 21 #[.val (.ref a0), .val (.int p1)] [(.long (0 : Int64)), (.long ((own_sel w0 w1 p1) &&& ((1 : Int64) <<< (p1 &&& 0x3f).toInt64)))])) _
    refine XS.lcmp X32.here hx rfl (hb hby d3_21) rfl ?_
    exact k)
  have pre37 := fun (t : State) (k : Steps p.tables e below (T32.setTop (mkF m 30 #[.val (.ref a0), .val (.int p1)] [(.int (j3a_0 p1 w0 w1))])) t) => pre36 t (by
    by_cases hc38 : ((own_sel w0 w1 p1) &&& ((1 : Int64) <<< (p1 &&& 0x3f).toInt64)) = (0 : Int64)
    · skip
      show Steps p.tables e below (T32.setTop (mkF m 22 #[.val (.ref a0), .val (.int p1)] [(.int (lcmpW ((own_sel w0 w1 p1) &&& ((1 : Int64) <<< (p1 &&& 0x3f).toInt64)) (0 : Int64)))])) _
      refine XS.ifYes X32.here hx rfl (pc0 := 22) (pc' := 29) rfl (hb hby d3_22) rfl ((if0 _ _).trans (teq ((own_eq ((own_sel w0 w1 p1) &&& ((1 : Int64) <<< (p1 &&& 0x3f).toInt64)) (0 : Int64)).mpr hc38)).1) (by decide) (by decide) ?_
      show Steps p.tables e below (T32.setTop (mkF m 29 #[.val (.ref a0), .val (.int p1)] [])) _
      refine XS.iconst X32.here hx rfl (hb hby d3_29) ?_
      have hj39 : (j3a_0 p1 w0 w1) = (0 : Int32) := by unfold j3a_0; first | (rw [if_pos hc38]) | (simp only [if_pos hc38])
      rw [hj39] at k
      exact k
    · skip
      show Steps p.tables e below (T32.setTop (mkF m 22 #[.val (.ref a0), .val (.int p1)] [(.int (lcmpW ((own_sel w0 w1 p1) &&& ((1 : Int64) <<< (p1 &&& 0x3f).toInt64)) (0 : Int64)))])) _
      refine XS.ifNo X32.here hx rfl (hb hby d3_22) rfl ((if0 _ _).trans (feq (mt (own_eq ((own_sel w0 w1 p1) &&& ((1 : Int64) <<< (p1 &&& 0x3f).toInt64)) (0 : Int64)).mp hc38)).1) ?_
      show Steps p.tables e below (T32.setTop (mkF m 25 #[.val (.ref a0), .val (.int p1)] [])) _
      refine XS.iconst X32.here hx rfl (hb hby d3_25) ?_
      show Steps p.tables e below (T32.setTop (mkF m 26 #[.val (.ref a0), .val (.int p1)] [(.int (1 : Int32))])) _
      refine XS.goto X32.here hx rfl (pc0 := 26) (pc' := 30) rfl (hb hby d3_26) (by decide) (by decide) ?_
      have hj40 : (j3a_0 p1 w0 w1) = (1 : Int32) := by unfold j3a_0; first | (rw [if_neg hc38]) | (simp only [if_neg hc38])
      rw [hj40] at k
      exact k)
  obtain ⟨fs, hr, hrun, hended, hW, hsame⟩ := X32.leave (v := some (.int (nar .boolean (j3a_0 p1 w0 w1)))) (fun h => by rw [Bd.returns] at h; cases h)
  refine ⟨_, _, pre37 _ ?_, hrun, hended, _, _, rfl, ?_, ⟨_, rfl⟩, hW, hsame.mono (by decide) (by decide)⟩
  · skip
    show Steps p.tables e below (T32.setTop (mkF m 30 #[.val (.ref a0), .val (.int p1)] [(.int (j3a_0 p1 w0 w1))])) _
    exact retN X32 hx (t := .boolean) Bd.returns (by simp) (hb hby d3_30) hr
  · show Q3a Z a0 p1 bb w0 w1 k_bb h0 n0 _ T32.heap _
    rw [e32]
    exact ⟨rfl, N0, rfl⟩
theorem ef3n (m : MethodId) (x0 : Addr) (x1 : Int32) : entryFrame m #[(.ref x0), (.int x1)] 2 = mkF m 0 #[.val (.ref x0), .val (.int x1)] [] := by first | (simp [entryFrame, mkF, argsToLocals, Value.category]; done) | rfl
abbrev rr3n : Room := { frames := 0, cells := 0, slots := 0, locals := 0 }
def Q3n (Z : State) (a0 : Addr) (p1 : Int32) (h0 : Heap) (n0 : Nat) (v : Option Value) (h : Heap) (L : List Loc) : Prop := v = some (.int (1 : Int32)) ∧ Fr n0 L ∧ h = h0
set_option maxRecDepth 65536 in
set_option maxHeartbeats 40000000 in
theorem rm3n (l : Launch) (Z : State) (aw : Array Value) (hw : ∀ d ∈ tables_1, d.before aw Z = true) (ws : List Jvm.Cond) (a0 : Addr) (p1 : Int32) (h0 : Heap) (n0 : Nat) (Z0 : n0 ≤ h0.size) (E_a0 : Exa Z h0 a0 "com/example/pathfield/pathfield/store/LongColumn") (F_present_a0 : Fld Z h0 a0 "com/example/pathfield/pathfield/store/LongColumn" "present" "[J" .null) :
    MetFree l (⟨"com/example/pathfield/pathfield/store/LongColumn", "has", "(I)Z"⟩ : MethodName) (head1 (Jvm.Cond.code (⟨"com/example/pathfield/pathfield/store/LongColumn", "has", "(I)Z"⟩ : MethodName) prog_95_method_3_code 2 (some .boolean) :: ws) rr3n) (fun a U => a = #[(.ref a0), (.int p1)] ∧ Z.Warmed39 U.vm ∧ U.heap = h0) (fun _ _ _ _ _ => True) (fun _ U o U' => ∃ v L, o = .returned v ∧ Q3n Z a0 p1 h0 n0 v U'.heap L ∧ FrameEnd U o U' L rr3n.cells rr3n.slots) := by
  refine MetFree.of_bodySF (plainFor_of_name pn_1) hisR ?_
  intro p e s m args below meth c s₁ Bd hml0 hP hK
  obtain ⟨rfl, hZ, hh⟩ := hP
  have hx := Bd.exec
  have hby := Bd.bytes
  have hml : c.maxLocals = 2 := hml0
  have hown : s.vm.findClass "com/example/pathfield/pathfield/store/LongColumn" = some m.cls := findClass_of_methodNamed Bd.named
  have hnm := (name_of_methodNamed Bd.named Bd.method).1
  have X0 : Stand p l e rr3n s m #[(.ref a0), (.int p1)] below meth c s₁ [] 0 0 := Stand.of_body Bd
  have e0 : s₁.heap = h0 := by rw [← hh, Bd.state]; rfl
  have N0 := Fr.nil n0
  have pre0 : ∀ t, Steps p.tables e below (s₁.setTop (mkF m 0 #[.val (.ref a0), .val (.int p1)] [])) t → Steps p.tables e below (s₁.setTop (entryFrame m #[(.ref a0), (.int p1)] 2)) t := fun t k => castTop (ef3n m a0 p1) k
  obtain ⟨T41, X41, e41, st41⟩ := getF X0 hx hZ hown (host := "") (Or.inl (hw _ (List.mem_of_getElem? (i := 12) rfl))) Via.refl e0 F_present_a0 (g := (mkF m 1 #[.val (.ref a0), .val (.int p1)] [(.ref a0)])) rfl rfl (hb hby d3_1)
  obtain ⟨fs, hr, hrun, hended, hW, hsame⟩ := X41.leave (v := some (.int (1 : Int32))) (fun h => by rw [Bd.returns] at h; cases h)
  refine ⟨_, _, pre0 _ ?_, hrun, hended, _, _, rfl, ?_, ⟨_, rfl⟩, hW, hsame.mono (by decide) (by decide)⟩
  · skip
    show Steps p.tables e below (s₁.setTop (mkF m 0 #[.val (.ref a0), .val (.int p1)] [])) _
    refine XS.aloadN X0.here hx rfl (hb hby d3_0) rfl rfl ?_
    show Steps p.tables e below (s₁.setTop (mkF m 1 #[.val (.ref a0), .val (.int p1)] [(.ref a0)])) _
    refine st41 _ ?_
    show Steps p.tables e below (T41.setTop (mkF m 4 #[.val (.ref a0), .val (.int p1)] [.null])) _
    refine XS.ifnullYes X41.here hx rfl (pc0 := 4) (pc' := 25) rfl (hb hby d3_4) rfl (by decide) (by decide) ?_
    show Steps p.tables e below (T41.setTop (mkF m 25 #[.val (.ref a0), .val (.int p1)] [])) _
    refine XS.iconst X41.here hx rfl (hb hby d3_25) ?_
    show Steps p.tables e below (T41.setTop (mkF m 26 #[.val (.ref a0), .val (.int p1)] [(.int (1 : Int32))])) _
    refine XS.goto X41.here hx rfl (pc0 := 26) (pc' := 30) rfl (hb hby d3_26) (by decide) (by decide) ?_
    show Steps p.tables e below (T41.setTop (mkF m 30 #[.val (.ref a0), .val (.int p1)] [(.int (1 : Int32))])) _
    exact retN X41 hx (t := .boolean) Bd.returns (by simp) (hb hby d3_30) hr
  · show Q3n Z a0 p1 h0 n0 _ T41.heap _
    rw [e41]
    exact ⟨rfl, N0, rfl⟩
theorem d4_0 : decode method_3_code 0 = .ok (.iload 5, 2) := by decide +kernel
theorem d4_2 : decode method_3_code 2 = .ok (.ifCond .eq 5, 3) := by decide +kernel
theorem d4_7 : decode method_3_code 7 = .ok (.iload 4, 2) := by decide +kernel
theorem d4_9 : decode method_3_code 9 = .ok (.bipush 64, 2) := by decide +kernel
theorem d4_11 : decode method_3_code 11 = .ok (.if_icmp .ge 20, 3) := by decide +kernel
theorem d4_14 : decode method_3_code 14 = .ok (.lload_n 0, 1) := by decide +kernel
theorem d4_15 : decode method_3_code 15 = .ok (.iload 4, 2) := by decide +kernel
theorem d4_17 : decode method_3_code 17 = .ok (.lushr, 1) := by decide +kernel
theorem d4_18 : decode method_3_code 18 = .ok (.lconst 1, 1) := by decide +kernel
theorem d4_19 : decode method_3_code 19 = .ok (.land, 1) := by decide +kernel
theorem d4_20 : decode method_3_code 20 = .ok (.lconst 1, 1) := by decide +kernel
theorem d4_21 : decode method_3_code 21 = .ok (.lcmp, 1) := by decide +kernel
theorem d4_22 : decode method_3_code 22 = .ok (.ifCond .ne 7, 3) := by decide +kernel
theorem d4_25 : decode method_3_code 25 = .ok (.iconst 1, 1) := by decide +kernel
theorem d4_26 : decode method_3_code 26 = .ok (.goto 4, 3) := by decide +kernel
theorem d4_29 : decode method_3_code 29 = .ok (.iconst 0, 1) := by decide +kernel
theorem d4_30 : decode method_3_code 30 = .ok (.ireturn, 1) := by decide +kernel
theorem d4_31 : decode method_3_code 31 = .ok (.lload_n 2, 1) := by decide +kernel
theorem d4_32 : decode method_3_code 32 = .ok (.iload 4, 2) := by decide +kernel
theorem d4_34 : decode method_3_code 34 = .ok (.bipush 64, 2) := by decide +kernel
theorem d4_36 : decode method_3_code 36 = .ok (.isub, 1) := by decide +kernel
theorem d4_37 : decode method_3_code 37 = .ok (.lushr, 1) := by decide +kernel
theorem d4_38 : decode method_3_code 38 = .ok (.lconst 1, 1) := by decide +kernel
theorem d4_39 : decode method_3_code 39 = .ok (.land, 1) := by decide +kernel
theorem d4_40 : decode method_3_code 40 = .ok (.lconst 1, 1) := by decide +kernel
theorem d4_41 : decode method_3_code 41 = .ok (.lcmp, 1) := by decide +kernel
theorem d4_42 : decode method_3_code 42 = .ok (.ifCond .ne 7, 3) := by decide +kernel
theorem d4_45 : decode method_3_code 45 = .ok (.iconst 1, 1) := by decide +kernel
theorem d4_46 : decode method_3_code 46 = .ok (.goto 4, 3) := by decide +kernel
theorem d4_49 : decode method_3_code 49 = .ok (.iconst 0, 1) := by decide +kernel
theorem d4_50 : decode method_3_code 50 = .ok (.ireturn, 1) := by decide +kernel
theorem d4_5 : decode method_3_code 5 = .ok (.iconst 1, 1) := by decide +kernel
theorem d4_6 : decode method_3_code 6 = .ok (.ireturn, 1) := by decide +kernel
def j4_0 (q0 : Int64) (p2 : Int32) : Int32 := (if (((q0.toUInt64 >>> (p2 &&& 0x3f).toInt64.toUInt64).toInt64) &&& (1 : Int64)) = (1 : Int64) then (1 : Int32) else (0 : Int32))
def j4_1 (q1 : Int64) (p2 : Int32) : Int32 := (if (((q1.toUInt64 >>> ((p2 - (64 : Int32)) &&& 0x3f).toInt64.toUInt64).toInt64) &&& (1 : Int64)) = (1 : Int64) then (1 : Int32) else (0 : Int32))
def v4 (q0 : Int64) (q1 : Int64) (p2 : Int32) (p3 : Int32) : Int32 := (if p3 = (0 : Int32) then (if p2 < (64 : Int32) then (nar .boolean (j4_0 q0 p2)) else (nar .boolean (j4_1 q1 p2))) else (1 : Int32))
theorem pn_2 : plainName "com/example/pathfield/pathfield/store/LongColumnHasPinLaw" = true := by first | (simp [plainName, overriddenIn]; done) | decide +kernel
theorem ef4 (m : MethodId) (x0 : Int64) (x1 : Int64) (x2 : Int32) (x3 : Int32) : entryFrame m #[(.long x0), (.long x1), (.int x2), (.int x3)] 6 = mkF m 0 #[.val (.long x0), .second, .val (.long x1), .second, .val (.int x2), .val (.int x3)] [] := by first | (simp [entryFrame, mkF, argsToLocals, Value.category]; done) | rfl
abbrev rr4 : Room := { frames := 0, cells := 0, slots := 0, locals := 0 }
def Q4 (Z : State) (q0 : Int64) (q1 : Int64) (p2 : Int32) (p3 : Int32) (h0 : Heap) (n0 : Nat) (v : Option Value) (h : Heap) (L : List Loc) : Prop := v = some (.int (v4 q0 q1 p2 p3)) ∧ Fr n0 L ∧ h = h0
set_option maxRecDepth 65536 in
set_option maxHeartbeats 40000000 in
theorem rm4 (l : Launch) (Z : State) (aw : Array Value) (hw : ∀ d ∈ tables_1, d.before aw Z = true) (ws : List Jvm.Cond) (q0 : Int64) (q1 : Int64) (p2 : Int32) (p3 : Int32) (h0 : Heap) (n0 : Nat) (Z0 : n0 ≤ h0.size)  :
    MetFree l (⟨"com/example/pathfield/pathfield/store/LongColumnHasPinLaw", "expected", "(JJIZ)Z"⟩ : MethodName) (head1 (Jvm.Cond.code (⟨"com/example/pathfield/pathfield/store/LongColumnHasPinLaw", "expected", "(JJIZ)Z"⟩ : MethodName) method_3_code 6 (some .boolean) :: ws) rr4) (fun a U => a = #[(.long q0), (.long q1), (.int p2), (.int p3)] ∧ Z.Warmed39 U.vm ∧ U.heap = h0) (fun _ _ _ _ _ => True) (fun _ U o U' => ∃ v L, o = .returned v ∧ Q4 Z q0 q1 p2 p3 h0 n0 v U'.heap L ∧ FrameEnd U o U' L rr4.cells rr4.slots) := by
  refine MetFree.of_bodySF (plainFor_of_name pn_2) hisR ?_
  intro p e s m args below meth c s₁ Bd hml0 hP hK
  obtain ⟨rfl, hZ, hh⟩ := hP
  have hx := Bd.exec
  have hby := Bd.bytes
  have hml : c.maxLocals = 6 := hml0
  have hown : s.vm.findClass "com/example/pathfield/pathfield/store/LongColumnHasPinLaw" = some m.cls := findClass_of_methodNamed Bd.named
  have hnm := (name_of_methodNamed Bd.named Bd.method).1
  have X0 : Stand p l e rr4 s m #[(.long q0), (.long q1), (.int p2), (.int p3)] below meth c s₁ [] 0 0 := Stand.of_body Bd
  have e0 : s₁.heap = h0 := by rw [← hh, Bd.state]; rfl
  have N0 := Fr.nil n0
  have pre0 : ∀ t, Steps p.tables e below (s₁.setTop (mkF m 0 #[.val (.long q0), .second, .val (.long q1), .second, .val (.int p2), .val (.int p3)] [])) t → Steps p.tables e below (s₁.setTop (entryFrame m #[(.long q0), (.long q1), (.int p2), (.int p3)] 6)) t := fun t k => castTop (ef4 m q0 q1 p2 p3) k
  have pre43 := fun (t : State) (k : Steps p.tables e below (s₁.setTop (mkF m 2 #[.val (.long q0), .second, .val (.long q1), .second, .val (.int p2), .val (.int p3)] [(.int p3)])) t) => pre0 t (by
    show Steps p.tables e below (s₁.setTop (mkF m 0 #[.val (.long q0), .second, .val (.long q1), .second, .val (.int p2), .val (.int p3)] [])) _
    refine XS.iload X0.here hx rfl (hb hby d4_0) rfl ?_
    exact k)
  by_cases hc42 : p3 = (0 : Int32)
  · skip
    have pre45 := fun (t : State) (k : Steps p.tables e below (s₁.setTop (mkF m 11 #[.val (.long q0), .second, .val (.long q1), .second, .val (.int p2), .val (.int p3)] [(.int (64 : Int32)), (.int p2)])) t) => pre43 t (by
      show Steps p.tables e below (s₁.setTop (mkF m 2 #[.val (.long q0), .second, .val (.long q1), .second, .val (.int p2), .val (.int p3)] [(.int p3)])) _
      refine XS.ifYes X0.here hx rfl (pc0 := 2) (pc' := 7) rfl (hb hby d4_2) rfl ((if0 _ _).trans (teq hc42).1) (by decide) (by decide) ?_
      show Steps p.tables e below (s₁.setTop (mkF m 7 #[.val (.long q0), .second, .val (.long q1), .second, .val (.int p2), .val (.int p3)] [])) _
      refine XS.iload X0.here hx rfl (hb hby d4_7) rfl ?_
      show Steps p.tables e below (s₁.setTop (mkF m 9 #[.val (.long q0), .second, .val (.long q1), .second, .val (.int p2), .val (.int p3)] [(.int p2)])) _
      refine XS.bipush X0.here hx rfl (hb hby d4_9) ?_
      exact k)
    by_cases hc44 : p2 < (64 : Int32)
    · skip
      have pre46 := fun (t : State) (k : Steps p.tables e below (s₁.setTop (mkF m 22 #[.val (.long q0), .second, .val (.long q1), .second, .val (.int p2), .val (.int p3)] [(.int (lcmpW (((q0.toUInt64 >>> (p2 &&& 0x3f).toInt64.toUInt64).toInt64) &&& (1 : Int64)) (1 : Int64)))])) t) => pre45 t (by
        show Steps p.tables e below (s₁.setTop (mkF m 11 #[.val (.long q0), .second, .val (.long q1), .second, .val (.int p2), .val (.int p3)] [(.int (64 : Int32)), (.int p2)])) _
        refine XS.icmpNo X0.here hx rfl (hb hby d4_11) rfl (tlt hc44).2.1 ?_
        show Steps p.tables e below (s₁.setTop (mkF m 14 #[.val (.long q0), .second, .val (.long q1), .second, .val (.int p2), .val (.int p3)] [])) _
        refine XS.lloadN X0.here hx rfl (hb hby d4_14) rfl ?_
        show Steps p.tables e below (s₁.setTop (mkF m 15 #[.val (.long q0), .second, .val (.long q1), .second, .val (.int p2), .val (.int p3)] [(.long q0)])) _
        refine XS.iload X0.here hx rfl (hb hby d4_15) rfl ?_
        show Steps p.tables e below (s₁.setTop (mkF m 17 #[.val (.long q0), .second, .val (.long q1), .second, .val (.int p2), .val (.int p3)] [(.int p2), (.long q0)])) _
        refine XS.lushr X0.here hx rfl (hb hby d4_17) rfl ?_
        show Steps p.tables e below (s₁.setTop (mkF m 18 #[.val (.long q0), .second, .val (.long q1), .second, .val (.int p2), .val (.int p3)] [(.long ((q0.toUInt64 >>> (p2 &&& 0x3f).toInt64.toUInt64).toInt64))])) _
        refine XS.lconst X0.here hx rfl (hb hby d4_18) ?_
        show Steps p.tables e below (s₁.setTop (mkF m 19 #[.val (.long q0), .second, .val (.long q1), .second, .val (.int p2), .val (.int p3)] [(.long (1 : Int64)), (.long ((q0.toUInt64 >>> (p2 &&& 0x3f).toInt64.toUInt64).toInt64))])) _
        refine XS.land X0.here hx rfl (hb hby d4_19) rfl ?_
        show Steps p.tables e below (s₁.setTop (mkF m 20 #[.val (.long q0), .second, .val (.long q1), .second, .val (.int p2), .val (.int p3)] [(.long (((q0.toUInt64 >>> (p2 &&& 0x3f).toInt64.toUInt64).toInt64) &&& (1 : Int64)))])) _
        refine XS.lconst X0.here hx rfl (hb hby d4_20) ?_
        show Steps p.tables e below (s₁.setTop (mkF m 21 #[.val (.long q0), .second, .val (.long q1), .second, .val (.int p2), .val (.int p3)] [(.long (1 : Int64)), (.long (((q0.toUInt64 >>> (p2 &&& 0x3f).toInt64.toUInt64).toInt64) &&& (1 : Int64)))])) _
        refine XS.lcmp X0.here hx rfl (hb hby d4_21) rfl ?_
        exact k)
      have pre47 := fun (t : State) (k : Steps p.tables e below (s₁.setTop (mkF m 30 #[.val (.long q0), .second, .val (.long q1), .second, .val (.int p2), .val (.int p3)] [(.int (j4_0 q0 p2))])) t) => pre46 t (by
        by_cases hc48 : (((q0.toUInt64 >>> (p2 &&& 0x3f).toInt64.toUInt64).toInt64) &&& (1 : Int64)) = (1 : Int64)
        · skip
          show Steps p.tables e below (s₁.setTop (mkF m 22 #[.val (.long q0), .second, .val (.long q1), .second, .val (.int p2), .val (.int p3)] [(.int (lcmpW (((q0.toUInt64 >>> (p2 &&& 0x3f).toInt64.toUInt64).toInt64) &&& (1 : Int64)) (1 : Int64)))])) _
          refine XS.ifNo X0.here hx rfl (hb hby d4_22) rfl ((if0 _ _).trans (teq ((own_eq (((q0.toUInt64 >>> (p2 &&& 0x3f).toInt64.toUInt64).toInt64) &&& (1 : Int64)) (1 : Int64)).mpr hc48)).2) ?_
          show Steps p.tables e below (s₁.setTop (mkF m 25 #[.val (.long q0), .second, .val (.long q1), .second, .val (.int p2), .val (.int p3)] [])) _
          refine XS.iconst X0.here hx rfl (hb hby d4_25) ?_
          show Steps p.tables e below (s₁.setTop (mkF m 26 #[.val (.long q0), .second, .val (.long q1), .second, .val (.int p2), .val (.int p3)] [(.int (1 : Int32))])) _
          refine XS.goto X0.here hx rfl (pc0 := 26) (pc' := 30) rfl (hb hby d4_26) (by decide) (by decide) ?_
          have hj49 : (j4_0 q0 p2) = (1 : Int32) := by unfold j4_0; first | (rw [if_pos hc48]) | (simp only [if_pos hc48])
          rw [hj49] at k
          exact k
        · skip
          show Steps p.tables e below (s₁.setTop (mkF m 22 #[.val (.long q0), .second, .val (.long q1), .second, .val (.int p2), .val (.int p3)] [(.int (lcmpW (((q0.toUInt64 >>> (p2 &&& 0x3f).toInt64.toUInt64).toInt64) &&& (1 : Int64)) (1 : Int64)))])) _
          refine XS.ifYes X0.here hx rfl (pc0 := 22) (pc' := 29) rfl (hb hby d4_22) rfl ((if0 _ _).trans (feq (mt (own_eq (((q0.toUInt64 >>> (p2 &&& 0x3f).toInt64.toUInt64).toInt64) &&& (1 : Int64)) (1 : Int64)).mp hc48)).2) (by decide) (by decide) ?_
          show Steps p.tables e below (s₁.setTop (mkF m 29 #[.val (.long q0), .second, .val (.long q1), .second, .val (.int p2), .val (.int p3)] [])) _
          refine XS.iconst X0.here hx rfl (hb hby d4_29) ?_
          have hj50 : (j4_0 q0 p2) = (0 : Int32) := by unfold j4_0; first | (rw [if_neg hc48]) | (simp only [if_neg hc48])
          rw [hj50] at k
          exact k)
      obtain ⟨fs, hr, hrun, hended, hW, hsame⟩ := X0.leave (v := some (.int (nar .boolean (j4_0 q0 p2)))) (fun h => by rw [Bd.returns] at h; cases h)
      refine ⟨_, _, pre47 _ ?_, hrun, hended, _, _, rfl, ?_, ⟨_, rfl⟩, hW, hsame.mono (by decide) (by decide)⟩
      · skip
        show Steps p.tables e below (s₁.setTop (mkF m 30 #[.val (.long q0), .second, .val (.long q1), .second, .val (.int p2), .val (.int p3)] [(.int (j4_0 q0 p2))])) _
        exact retN X0 hx (t := .boolean) Bd.returns (by simp) (hb hby d4_30) hr
      · show Q4 Z q0 q1 p2 p3 h0 n0 _ s₁.heap _
        rw [e0]
        have hv : (nar .boolean (j4_0 q0 p2)) = (v4 q0 q1 p2 p3) := by unfold v4; first | (rw [if_pos hc42, if_pos hc44]) | (simp only [if_pos hc42, if_pos hc44])
        exact ⟨(by rw [← hv]), N0, rfl⟩
    · skip
      have pre51 := fun (t : State) (k : Steps p.tables e below (s₁.setTop (mkF m 42 #[.val (.long q0), .second, .val (.long q1), .second, .val (.int p2), .val (.int p3)] [(.int (lcmpW (((q1.toUInt64 >>> ((p2 - (64 : Int32)) &&& 0x3f).toInt64.toUInt64).toInt64) &&& (1 : Int64)) (1 : Int64)))])) t) => pre45 t (by
        show Steps p.tables e below (s₁.setTop (mkF m 11 #[.val (.long q0), .second, .val (.long q1), .second, .val (.int p2), .val (.int p3)] [(.int (64 : Int32)), (.int p2)])) _
        refine XS.icmpYes X0.here hx rfl (pc0 := 11) (pc' := 31) rfl (hb hby d4_11) rfl (flt hc44).2.1 (by decide) (by decide) ?_
        show Steps p.tables e below (s₁.setTop (mkF m 31 #[.val (.long q0), .second, .val (.long q1), .second, .val (.int p2), .val (.int p3)] [])) _
        refine XS.lloadN X0.here hx rfl (hb hby d4_31) rfl ?_
        show Steps p.tables e below (s₁.setTop (mkF m 32 #[.val (.long q0), .second, .val (.long q1), .second, .val (.int p2), .val (.int p3)] [(.long q1)])) _
        refine XS.iload X0.here hx rfl (hb hby d4_32) rfl ?_
        show Steps p.tables e below (s₁.setTop (mkF m 34 #[.val (.long q0), .second, .val (.long q1), .second, .val (.int p2), .val (.int p3)] [(.int p2), (.long q1)])) _
        refine XS.bipush X0.here hx rfl (hb hby d4_34) ?_
        show Steps p.tables e below (s₁.setTop (mkF m 36 #[.val (.long q0), .second, .val (.long q1), .second, .val (.int p2), .val (.int p3)] [(.int (64 : Int32)), (.int p2), (.long q1)])) _
        refine XS.isub X0.here hx rfl (hb hby d4_36) rfl ?_
        show Steps p.tables e below (s₁.setTop (mkF m 37 #[.val (.long q0), .second, .val (.long q1), .second, .val (.int p2), .val (.int p3)] [(.int (p2 - (64 : Int32))), (.long q1)])) _
        refine XS.lushr X0.here hx rfl (hb hby d4_37) rfl ?_
        show Steps p.tables e below (s₁.setTop (mkF m 38 #[.val (.long q0), .second, .val (.long q1), .second, .val (.int p2), .val (.int p3)] [(.long ((q1.toUInt64 >>> ((p2 - (64 : Int32)) &&& 0x3f).toInt64.toUInt64).toInt64))])) _
        refine XS.lconst X0.here hx rfl (hb hby d4_38) ?_
        show Steps p.tables e below (s₁.setTop (mkF m 39 #[.val (.long q0), .second, .val (.long q1), .second, .val (.int p2), .val (.int p3)] [(.long (1 : Int64)), (.long ((q1.toUInt64 >>> ((p2 - (64 : Int32)) &&& 0x3f).toInt64.toUInt64).toInt64))])) _
        refine XS.land X0.here hx rfl (hb hby d4_39) rfl ?_
        show Steps p.tables e below (s₁.setTop (mkF m 40 #[.val (.long q0), .second, .val (.long q1), .second, .val (.int p2), .val (.int p3)] [(.long (((q1.toUInt64 >>> ((p2 - (64 : Int32)) &&& 0x3f).toInt64.toUInt64).toInt64) &&& (1 : Int64)))])) _
        refine XS.lconst X0.here hx rfl (hb hby d4_40) ?_
        show Steps p.tables e below (s₁.setTop (mkF m 41 #[.val (.long q0), .second, .val (.long q1), .second, .val (.int p2), .val (.int p3)] [(.long (1 : Int64)), (.long (((q1.toUInt64 >>> ((p2 - (64 : Int32)) &&& 0x3f).toInt64.toUInt64).toInt64) &&& (1 : Int64)))])) _
        refine XS.lcmp X0.here hx rfl (hb hby d4_41) rfl ?_
        exact k)
      have pre52 := fun (t : State) (k : Steps p.tables e below (s₁.setTop (mkF m 50 #[.val (.long q0), .second, .val (.long q1), .second, .val (.int p2), .val (.int p3)] [(.int (j4_1 q1 p2))])) t) => pre51 t (by
        by_cases hc53 : (((q1.toUInt64 >>> ((p2 - (64 : Int32)) &&& 0x3f).toInt64.toUInt64).toInt64) &&& (1 : Int64)) = (1 : Int64)
        · skip
          show Steps p.tables e below (s₁.setTop (mkF m 42 #[.val (.long q0), .second, .val (.long q1), .second, .val (.int p2), .val (.int p3)] [(.int (lcmpW (((q1.toUInt64 >>> ((p2 - (64 : Int32)) &&& 0x3f).toInt64.toUInt64).toInt64) &&& (1 : Int64)) (1 : Int64)))])) _
          refine XS.ifNo X0.here hx rfl (hb hby d4_42) rfl ((if0 _ _).trans (teq ((own_eq (((q1.toUInt64 >>> ((p2 - (64 : Int32)) &&& 0x3f).toInt64.toUInt64).toInt64) &&& (1 : Int64)) (1 : Int64)).mpr hc53)).2) ?_
          show Steps p.tables e below (s₁.setTop (mkF m 45 #[.val (.long q0), .second, .val (.long q1), .second, .val (.int p2), .val (.int p3)] [])) _
          refine XS.iconst X0.here hx rfl (hb hby d4_45) ?_
          show Steps p.tables e below (s₁.setTop (mkF m 46 #[.val (.long q0), .second, .val (.long q1), .second, .val (.int p2), .val (.int p3)] [(.int (1 : Int32))])) _
          refine XS.goto X0.here hx rfl (pc0 := 46) (pc' := 50) rfl (hb hby d4_46) (by decide) (by decide) ?_
          have hj54 : (j4_1 q1 p2) = (1 : Int32) := by unfold j4_1; first | (rw [if_pos hc53]) | (simp only [if_pos hc53])
          rw [hj54] at k
          exact k
        · skip
          show Steps p.tables e below (s₁.setTop (mkF m 42 #[.val (.long q0), .second, .val (.long q1), .second, .val (.int p2), .val (.int p3)] [(.int (lcmpW (((q1.toUInt64 >>> ((p2 - (64 : Int32)) &&& 0x3f).toInt64.toUInt64).toInt64) &&& (1 : Int64)) (1 : Int64)))])) _
          refine XS.ifYes X0.here hx rfl (pc0 := 42) (pc' := 49) rfl (hb hby d4_42) rfl ((if0 _ _).trans (feq (mt (own_eq (((q1.toUInt64 >>> ((p2 - (64 : Int32)) &&& 0x3f).toInt64.toUInt64).toInt64) &&& (1 : Int64)) (1 : Int64)).mp hc53)).2) (by decide) (by decide) ?_
          show Steps p.tables e below (s₁.setTop (mkF m 49 #[.val (.long q0), .second, .val (.long q1), .second, .val (.int p2), .val (.int p3)] [])) _
          refine XS.iconst X0.here hx rfl (hb hby d4_49) ?_
          have hj55 : (j4_1 q1 p2) = (0 : Int32) := by unfold j4_1; first | (rw [if_neg hc53]) | (simp only [if_neg hc53])
          rw [hj55] at k
          exact k)
      obtain ⟨fs, hr, hrun, hended, hW, hsame⟩ := X0.leave (v := some (.int (nar .boolean (j4_1 q1 p2)))) (fun h => by rw [Bd.returns] at h; cases h)
      refine ⟨_, _, pre52 _ ?_, hrun, hended, _, _, rfl, ?_, ⟨_, rfl⟩, hW, hsame.mono (by decide) (by decide)⟩
      · skip
        show Steps p.tables e below (s₁.setTop (mkF m 50 #[.val (.long q0), .second, .val (.long q1), .second, .val (.int p2), .val (.int p3)] [(.int (j4_1 q1 p2))])) _
        exact retN X0 hx (t := .boolean) Bd.returns (by simp) (hb hby d4_50) hr
      · show Q4 Z q0 q1 p2 p3 h0 n0 _ s₁.heap _
        rw [e0]
        have hv : (nar .boolean (j4_1 q1 p2)) = (v4 q0 q1 p2 p3) := by unfold v4; first | (rw [if_pos hc42, if_neg hc44]) | (simp only [if_pos hc42, if_neg hc44])
        exact ⟨(by rw [← hv]), N0, rfl⟩
  · skip
    obtain ⟨fs, hr, hrun, hended, hW, hsame⟩ := X0.leave (v := some (.int (1 : Int32))) (fun h => by rw [Bd.returns] at h; cases h)
    refine ⟨_, _, pre43 _ ?_, hrun, hended, _, _, rfl, ?_, ⟨_, rfl⟩, hW, hsame.mono (by decide) (by decide)⟩
    · skip
      show Steps p.tables e below (s₁.setTop (mkF m 2 #[.val (.long q0), .second, .val (.long q1), .second, .val (.int p2), .val (.int p3)] [(.int p3)])) _
      refine XS.ifNo X0.here hx rfl (hb hby d4_2) rfl ((if0 _ _).trans (feq hc42).1) ?_
      show Steps p.tables e below (s₁.setTop (mkF m 5 #[.val (.long q0), .second, .val (.long q1), .second, .val (.int p2), .val (.int p3)] [])) _
      refine XS.iconst X0.here hx rfl (hb hby d4_5) ?_
      show Steps p.tables e below (s₁.setTop (mkF m 6 #[.val (.long q0), .second, .val (.long q1), .second, .val (.int p2), .val (.int p3)] [(.int (1 : Int32))])) _
      exact retN X0 hx (t := .boolean) Bd.returns (by simp) (hb hby d4_6) hr
    · show Q4 Z q0 q1 p2 p3 h0 n0 _ s₁.heap _
      rw [e0]
      have hv : (1 : Int32) = (v4 q0 q1 p2 p3) := by unfold v4; first | (rw [if_neg hc42]) | (simp only [if_neg hc42])
      exact ⟨(by rw [← hv]), N0, rfl⟩
theorem own_i (p : Int32) : (p &&& (127 : Int32)).toInt = p.toInt % 2 ^ 7 := Jvm.Kit.i32_mask p 127 (k := 7) (by decide) (by decide)
theorem own_i0 (p : Int32) : ¬ (p &&& (127 : Int32)) < (0 : Int32) := by
  have z : (0 : Int32).toInt = 0 := rfl
  rw [Int32.lt_iff_toInt_lt, own_i]; omega
theorem own_i1 (p : Int32) : (p &&& (127 : Int32)) < (128 : Int32) := by
  have z : (128 : Int32).toInt = 128 := rfl
  rw [Int32.lt_iff_toInt_lt, own_i]; omega
theorem pd_2 : parseMethodDescriptor "([J[J)V" = some ⟨[(.array .long), (.array .long)], none⟩ := by decide +kernel
theorem pd_3 : parseMethodDescriptor "(I)Z" = some ⟨[.int], some .boolean⟩ := by decide +kernel
theorem pd_4 : parseMethodDescriptor "(JJIZ)Z" = some ⟨[.long, .long, .int, .boolean], some .boolean⟩ := by decide +kernel
def j0_0 (p3 : Int32) : Int32 := (if (p3 &&& (1 : Int32)) = (0 : Int32) then (0 : Int32) else (1 : Int32))
def j0_1 (q0 : Int64) (q1 : Int64) (p2 : Int32) (p3 : Int32) : Int32 := (if (nar .boolean (j3a_0 (p2 &&& (127 : Int32)) q0 q1)) = (v4 q0 q1 (p2 &&& (127 : Int32)) (j0_0 p3)) then (1 : Int32) else (0 : Int32))
def j0_2 (q0 : Int64) (q1 : Int64) (p2 : Int32) (p3 : Int32) : Int32 := (if (1 : Int32) = (v4 q0 q1 (p2 &&& (127 : Int32)) (j0_0 p3)) then (1 : Int32) else (0 : Int32))
def v0 (q0 : Int64) (q1 : Int64) (p2 : Int32) (p3 : Int32) : Int32 := (if (j0_0 p3) = (0 : Int32) then (nar .boolean (j0_1 q0 q1 p2 p3)) else (nar .boolean (j0_2 q0 q1 p2 p3)))
theorem ef0 (m : MethodId) (x0 : Int64) (x1 : Int64) (x2 : Int32) (x3 : Int32) : entryFrame m #[(.long x0), (.long x1), (.int x2), (.int x3)] maxLocals = mkF m 0 #[.val (.long x0), .second, .val (.long x1), .second, .val (.int x2), .val (.int x3), .unset, .unset, .unset, .unset, .unset, .unset] [] := by first | (simp [entryFrame, mkF, argsToLocals, Value.category, maxLocals]; done) | rfl
def Q0 (Z : State) (q0 : Int64) (q1 : Int64) (p2 : Int32) (p3 : Int32) (h0 : Heap) (n0 : Nat) (v : Option Value) (h : Heap) (L : List Loc) : Prop := v = some (.int (v0 q0 q1 p2 p3)) ∧ Fr n0 L
set_option maxRecDepth 65536 in
set_option maxHeartbeats 40000000 in
theorem rm0 (l : Launch) (Z : State) (aw : Array Value) (hw : ∀ d ∈ tables_1, d.before aw Z = true) (ws : List Jvm.Cond) (q0 : Int64) (q1 : Int64) (p2 : Int32) (p3 : Int32) (h0 : Heap) (n0 : Nat) (Z0 : n0 ≤ h0.size)  :
    MetFree l x (head1 (Jvm.Cond.code x code maxLocals ret :: ws) room_1) (fun a U => a = #[(.long q0), (.long q1), (.int p2), (.int p3)] ∧ Z.Warmed39 U.vm ∧ U.heap = h0) (fun _ _ _ _ _ => True) (fun _ U o U' => ∃ v L, o = .returned v ∧ Q0 Z q0 q1 p2 p3 h0 n0 v U'.heap L ∧ FrameEnd U o U' L room_1.cells room_1.slots) := by
  refine MetFree.of_bodySF (plainFor_of_name pn_2) hisR ?_
  intro p e s m args below meth c s₁ Bd hml0 hP hK
  obtain ⟨rfl, hZ, hh⟩ := hP
  have hx := Bd.exec
  have hby := Bd.bytes
  have hml : c.maxLocals = 12 := hml0
  have hown : s.vm.findClass "com/example/pathfield/pathfield/store/LongColumnHasPinLaw" = some m.cls := findClass_of_methodNamed Bd.named
  have hnm := (name_of_methodNamed Bd.named Bd.method).1
  have X0 : Stand p l e room_1 s m #[(.long q0), (.long q1), (.int p2), (.int p3)] below meth c s₁ [] 0 0 := Stand.of_body Bd
  have e0 : s₁.heap = h0 := by rw [← hh, Bd.state]; rfl
  have N0 := Fr.nil n0
  have pre0 : ∀ t, Steps p.tables e below (s₁.setTop (mkF m 0 #[.val (.long q0), .second, .val (.long q1), .second, .val (.int p2), .val (.int p3), .unset, .unset, .unset, .unset, .unset, .unset] [])) t → Steps p.tables e below (s₁.setTop (entryFrame m #[(.long q0), (.long q1), (.int p2), (.int p3)] maxLocals)) t := fun t k => castTop (ef0 m q0 q1 p2 p3) k
  have pre56 := fun (t : State) (k : Steps p.tables e below (s₁.setTop (mkF m 11 #[.val (.long q0), .second, .val (.long q1), .second, .val (.int p2), .val (.int p3), .val (.int (p2 &&& (127 : Int32))), .unset, .unset, .unset, .unset, .unset] [(.int (p3 &&& (1 : Int32)))])) t) => pre0 t (by
    show Steps p.tables e below (s₁.setTop (mkF m 0 #[.val (.long q0), .second, .val (.long q1), .second, .val (.int p2), .val (.int p3), .unset, .unset, .unset, .unset, .unset, .unset] [])) _
    refine XS.iload X0.here hx rfl (hb hby at_0) rfl ?_
    show Steps p.tables e below (s₁.setTop (mkF m 2 #[.val (.long q0), .second, .val (.long q1), .second, .val (.int p2), .val (.int p3), .unset, .unset, .unset, .unset, .unset, .unset] [(.int p2)])) _
    refine XS.bipush X0.here hx rfl (hb hby at_2) ?_
    show Steps p.tables e below (s₁.setTop (mkF m 4 #[.val (.long q0), .second, .val (.long q1), .second, .val (.int p2), .val (.int p3), .unset, .unset, .unset, .unset, .unset, .unset] [(.int (127 : Int32)), (.int p2)])) _
    refine XS.iand X0.here hx rfl (hb hby at_4) rfl ?_
    show Steps p.tables e below (s₁.setTop (mkF m 5 #[.val (.long q0), .second, .val (.long q1), .second, .val (.int p2), .val (.int p3), .unset, .unset, .unset, .unset, .unset, .unset] [(.int (p2 &&& (127 : Int32)))])) _
    refine XS.istore X0.here hx rfl (hb hby at_5) rfl (l' := #[.val (.long q0), .second, .val (.long q1), .second, .val (.int p2), .val (.int p3), .val (.int (p2 &&& (127 : Int32))), .unset, .unset, .unset, .unset, .unset]) rfl ?_
    show Steps p.tables e below (s₁.setTop (mkF m 7 #[.val (.long q0), .second, .val (.long q1), .second, .val (.int p2), .val (.int p3), .val (.int (p2 &&& (127 : Int32))), .unset, .unset, .unset, .unset, .unset] [])) _
    refine XS.iload X0.here hx rfl (hb hby at_7) rfl ?_
    show Steps p.tables e below (s₁.setTop (mkF m 9 #[.val (.long q0), .second, .val (.long q1), .second, .val (.int p2), .val (.int p3), .val (.int (p2 &&& (127 : Int32))), .unset, .unset, .unset, .unset, .unset] [(.int p3)])) _
    refine XS.iconst X0.here hx rfl (hb hby at_9) ?_
    show Steps p.tables e below (s₁.setTop (mkF m 10 #[.val (.long q0), .second, .val (.long q1), .second, .val (.int p2), .val (.int p3), .val (.int (p2 &&& (127 : Int32))), .unset, .unset, .unset, .unset, .unset] [(.int (1 : Int32)), (.int p3)])) _
    refine XS.iand X0.here hx rfl (hb hby at_10) rfl ?_
    exact k)
  have pre57 := fun (t : State) (k : Steps p.tables e below (s₁.setTop (mkF m 19 #[.val (.long q0), .second, .val (.long q1), .second, .val (.int p2), .val (.int p3), .val (.int (p2 &&& (127 : Int32))), .unset, .unset, .unset, .unset, .unset] [(.int (j0_0 p3))])) t) => pre56 t (by
    by_cases hc58 : (p3 &&& (1 : Int32)) = (0 : Int32)
    · skip
      show Steps p.tables e below (s₁.setTop (mkF m 11 #[.val (.long q0), .second, .val (.long q1), .second, .val (.int p2), .val (.int p3), .val (.int (p2 &&& (127 : Int32))), .unset, .unset, .unset, .unset, .unset] [(.int (p3 &&& (1 : Int32)))])) _
      refine XS.ifYes X0.here hx rfl (pc0 := 11) (pc' := 18) rfl (hb hby at_11) rfl ((if0 _ _).trans (teq hc58).1) (by decide) (by decide) ?_
      show Steps p.tables e below (s₁.setTop (mkF m 18 #[.val (.long q0), .second, .val (.long q1), .second, .val (.int p2), .val (.int p3), .val (.int (p2 &&& (127 : Int32))), .unset, .unset, .unset, .unset, .unset] [])) _
      refine XS.iconst X0.here hx rfl (hb hby at_18) ?_
      have hj59 : (j0_0 p3) = (0 : Int32) := by unfold j0_0; first | (rw [if_pos hc58]) | (simp only [if_pos hc58])
      rw [hj59] at k
      exact k
    · skip
      show Steps p.tables e below (s₁.setTop (mkF m 11 #[.val (.long q0), .second, .val (.long q1), .second, .val (.int p2), .val (.int p3), .val (.int (p2 &&& (127 : Int32))), .unset, .unset, .unset, .unset, .unset] [(.int (p3 &&& (1 : Int32)))])) _
      refine XS.ifNo X0.here hx rfl (hb hby at_11) rfl ((if0 _ _).trans (feq hc58).1) ?_
      show Steps p.tables e below (s₁.setTop (mkF m 14 #[.val (.long q0), .second, .val (.long q1), .second, .val (.int p2), .val (.int p3), .val (.int (p2 &&& (127 : Int32))), .unset, .unset, .unset, .unset, .unset] [])) _
      refine XS.iconst X0.here hx rfl (hb hby at_14) ?_
      show Steps p.tables e below (s₁.setTop (mkF m 15 #[.val (.long q0), .second, .val (.long q1), .second, .val (.int p2), .val (.int p3), .val (.int (p2 &&& (127 : Int32))), .unset, .unset, .unset, .unset, .unset] [(.int (1 : Int32))])) _
      refine XS.goto X0.here hx rfl (pc0 := 15) (pc' := 19) rfl (hb hby at_15) (by decide) (by decide) ?_
      have hj60 : (j0_0 p3) = (1 : Int32) := by unfold j0_0; first | (rw [if_neg hc58]) | (simp only [if_neg hc58])
      rw [hj60] at k
      exact k)
  obtain ⟨T61, h61, k61, X61, e61, E61, A61, st61⟩ := newP X0 hx hZ (hw _ (List.mem_of_getElem? (i := 0) rfl)) e0 (g := (mkF m 24 #[.val (.long q0), .second, .val (.long q1), .second, .val (.int p2), .val (.int p3), .val (.int (p2 &&& (127 : Int32))), .val (.int (j0_0 p3)), .unset, .unset, .unset, .unset] [(.int (128 : Int32))])) rfl (hb hby at_24) rfl (by decide) (cap := 128) (by decide) (by decide) (by decide) (by decide)
  obtain ⟨b61, gg61⟩ : ∃ z, z = h0.size := ⟨_, rfl⟩
  rw [← gg61] at A61 st61
  have g_b61 : n0 ≤ b61 := Nat.le_trans Z0 (Nat.le_of_eq gg61.symm)
  have Z62 := Nat.le_trans Z0 E61.1
  have V61 : Arv Z h61 b61 k61 .long (128 : Int32) [] (.long (0 : Int64)) := Arv.new A61 (by decide)
  obtain ⟨T63, h63, k63, X63, e63, E63, A63, st63⟩ := newP X61 hx hZ (hw _ (List.mem_of_getElem? (i := 0) rfl)) e61 (g := (mkF m 29 #[.val (.long q0), .second, .val (.long q1), .second, .val (.int p2), .val (.int p3), .val (.int (p2 &&& (127 : Int32))), .val (.int (j0_0 p3)), .val (.ref b61), .unset, .unset, .unset] [(.int (2 : Int32))])) rfl (hb hby at_29) rfl (by decide) (cap := 2) (by decide) (by decide) (by decide) (by decide)
  obtain ⟨b63, gg63⟩ : ∃ z, z = h61.size := ⟨_, rfl⟩
  rw [← gg63] at A63 st63
  have f64 := V61.ext E63
  have ne65 : b61 ≠ b63 := Nat.ne_of_lt (Nat.lt_of_lt_of_le V61.lt (Nat.le_of_eq gg63.symm))
  have g_b63 : n0 ≤ b63 := Nat.le_trans Z62 (Nat.le_of_eq gg63.symm)
  have Z66 := Nat.le_trans Z62 E63.1
  have V63 : Arv Z h63 b63 k63 .long (2 : Int32) [(.long (0 : Int64)), (.long (0 : Int64))] (.long (0 : Int64)) := (Arv.new A63 (by decide)).pad (pad_rep [] (.long (0 : Int64)) 2)
  obtain ⟨cl67, Ar67, q67, S67, M67, H67, G67⟩ := id V63
  have hin68 : ¬ ((0 : Int32) < 0 ∨ cl67.slots.size ≤ ((0 : Int32)).toNatClampNeg) := inb_of S67 ⟨by decide, by decide⟩
  obtain ⟨T69, h69, X69, e69, W69, st69⟩ := stJ X63 hx hZ e63 Ar67 (j := (0 : Int32)) hin68 (g := (mkF m 37 #[.val (.long q0), .second, .val (.long q1), .second, .val (.int p2), .val (.int p3), .val (.int (p2 &&& (127 : Int32))), .val (.int (j0_0 p3)), .val (.ref b61), .val (.ref b63), .unset, .unset] [(.long q0), (.int (0 : Int32)), (.ref b63)])) rfl rfl (hb hby at_37)
  have V69 : Arv Z h69 b63 k63 .long (2 : Int32) [(.long q0), (.long (0 : Int64))] (.long (0 : Int64)) := Arv.set Ar67 q67 S67 M67 H67 G67 rfl W69 0 rfl (Nat.le_of_ble_eq_true rfl)
  have f70 := f64.other W69 ne65
  have Z72 := Nat.le_trans Z66 (Keep.of_wr W69).1
  have N73 := Fr.snoc X69 N0 g_b63
  obtain ⟨cl74, Ar74, q74, S74, M74, H74, G74⟩ := id V69
  have hin75 : ¬ ((1 : Int32) < 0 ∨ cl74.slots.size ≤ ((1 : Int32)).toNatClampNeg) := inb_of S74 ⟨by decide, by decide⟩
  obtain ⟨T76, h76, X76, e76, W76, st76⟩ := stJ X69 hx hZ e69 Ar74 (j := (1 : Int32)) hin75 (g := (mkF m 42 #[.val (.long q0), .second, .val (.long q1), .second, .val (.int p2), .val (.int p3), .val (.int (p2 &&& (127 : Int32))), .val (.int (j0_0 p3)), .val (.ref b61), .val (.ref b63), .unset, .unset] [(.long q1), (.int (1 : Int32)), (.ref b63)])) rfl rfl (hb hby at_42)
  have V76 : Arv Z h76 b63 k63 .long (2 : Int32) [(.long q0), (.long q1)] (.long (0 : Int64)) := Arv.set Ar74 q74 S74 M74 H74 G74 rfl W76 1 rfl (Nat.le_of_ble_eq_true rfl)
  have f77 := f70.other W76 ne65
  have Z79 := Nat.le_trans Z72 (Keep.of_wr W76).1
  have N80 := Fr.snoc X76 N73 g_b63
  obtain ⟨T81, h81, X81, e81, E81, A81, D81, -, st81⟩ := newO X76 hx hZ hown (hw _ (List.mem_of_getElem? (i := 1) rfl)) (hw _ (List.mem_of_getElem? (i := 2) rfl)) (hw _ (List.mem_of_getElem? (i := 3) rfl)) e76 (g := (mkF m 43 #[.val (.long q0), .second, .val (.long q1), .second, .val (.int p2), .val (.int p3), .val (.int (p2 &&& (127 : Int32))), .val (.int (j0_0 p3)), .val (.ref b61), .val (.ref b63), .unset, .unset] [])) rfl (hb hby at_43) (by decide) (by decide)
  obtain ⟨b81, gg81⟩ : ∃ z, z = h76.size := ⟨_, rfl⟩
  rw [← gg81] at A81 D81 st81
  have f82 := f77.ext E81
  have f83 := V76.ext E81
  have ne84 : b61 ≠ b81 := Nat.ne_of_lt (Nat.lt_of_lt_of_le f77.lt (Nat.le_of_eq gg81.symm))
  have ne85 : b63 ≠ b81 := Nat.ne_of_lt (Nat.lt_of_lt_of_le V76.lt (Nat.le_of_eq gg81.symm))
  have g_b81 : n0 ≤ b81 := Nat.le_trans Z79 (Nat.le_of_eq gg81.symm)
  have Z86 := Nat.le_trans Z79 E81.1
  have f87 : Fld Z h81 b81 "com/example/pathfield/pathfield/store/LongColumn" "values" "[J" .null := D81 (Or.inr (hw _ (List.mem_of_getElem? (i := 11) rfl))) (ty := (.array .long)) (by decide)
  have f88 : Fld Z h81 b81 "com/example/pathfield/pathfield/store/LongColumn" "present" "[J" .null := D81 (Or.inr (hw _ (List.mem_of_getElem? (i := 13) rfl))) (ty := (.array .long)) (by decide)
  have pre90 := fun (t : State) (k : Steps p.tables e below (T81.setTop (mkF m 51 #[.val (.long q0), .second, .val (.long q1), .second, .val (.int p2), .val (.int p3), .val (.int (p2 &&& (127 : Int32))), .val (.int (j0_0 p3)), .val (.ref b61), .val (.ref b63), .unset, .unset] [(.int (j0_0 p3)), (.ref b61), (.ref b81), (.ref b81)])) t) => pre57 t (by
    show Steps p.tables e below (s₁.setTop (mkF m 19 #[.val (.long q0), .second, .val (.long q1), .second, .val (.int p2), .val (.int p3), .val (.int (p2 &&& (127 : Int32))), .unset, .unset, .unset, .unset, .unset] [(.int (j0_0 p3))])) _
    refine XS.istore X0.here hx rfl (hb hby at_19) rfl (l' := #[.val (.long q0), .second, .val (.long q1), .second, .val (.int p2), .val (.int p3), .val (.int (p2 &&& (127 : Int32))), .val (.int (j0_0 p3)), .unset, .unset, .unset, .unset]) rfl ?_
    show Steps p.tables e below (s₁.setTop (mkF m 21 #[.val (.long q0), .second, .val (.long q1), .second, .val (.int p2), .val (.int p3), .val (.int (p2 &&& (127 : Int32))), .val (.int (j0_0 p3)), .unset, .unset, .unset, .unset] [])) _
    refine XS.sipush X0.here hx rfl (hb hby at_21) ?_
    show Steps p.tables e below (s₁.setTop (mkF m 24 #[.val (.long q0), .second, .val (.long q1), .second, .val (.int p2), .val (.int p3), .val (.int (p2 &&& (127 : Int32))), .val (.int (j0_0 p3)), .unset, .unset, .unset, .unset] [(.int (128 : Int32))])) _
    refine st61 _ ?_
    show Steps p.tables e below (T61.setTop (mkF m 26 #[.val (.long q0), .second, .val (.long q1), .second, .val (.int p2), .val (.int p3), .val (.int (p2 &&& (127 : Int32))), .val (.int (j0_0 p3)), .unset, .unset, .unset, .unset] [(.ref b61)])) _
    refine XS.astore X61.here hx rfl (hb hby at_26) rfl rfl (l' := #[.val (.long q0), .second, .val (.long q1), .second, .val (.int p2), .val (.int p3), .val (.int (p2 &&& (127 : Int32))), .val (.int (j0_0 p3)), .val (.ref b61), .unset, .unset, .unset]) rfl ?_
    show Steps p.tables e below (T61.setTop (mkF m 28 #[.val (.long q0), .second, .val (.long q1), .second, .val (.int p2), .val (.int p3), .val (.int (p2 &&& (127 : Int32))), .val (.int (j0_0 p3)), .val (.ref b61), .unset, .unset, .unset] [])) _
    refine XS.iconst X61.here hx rfl (hb hby at_28) ?_
    show Steps p.tables e below (T61.setTop (mkF m 29 #[.val (.long q0), .second, .val (.long q1), .second, .val (.int p2), .val (.int p3), .val (.int (p2 &&& (127 : Int32))), .val (.int (j0_0 p3)), .val (.ref b61), .unset, .unset, .unset] [(.int (2 : Int32))])) _
    refine st63 _ ?_
    show Steps p.tables e below (T63.setTop (mkF m 31 #[.val (.long q0), .second, .val (.long q1), .second, .val (.int p2), .val (.int p3), .val (.int (p2 &&& (127 : Int32))), .val (.int (j0_0 p3)), .val (.ref b61), .unset, .unset, .unset] [(.ref b63)])) _
    refine XS.astore X63.here hx rfl (hb hby at_31) rfl rfl (l' := #[.val (.long q0), .second, .val (.long q1), .second, .val (.int p2), .val (.int p3), .val (.int (p2 &&& (127 : Int32))), .val (.int (j0_0 p3)), .val (.ref b61), .val (.ref b63), .unset, .unset]) rfl ?_
    show Steps p.tables e below (T63.setTop (mkF m 33 #[.val (.long q0), .second, .val (.long q1), .second, .val (.int p2), .val (.int p3), .val (.int (p2 &&& (127 : Int32))), .val (.int (j0_0 p3)), .val (.ref b61), .val (.ref b63), .unset, .unset] [])) _
    refine XS.aload X63.here hx rfl (hb hby at_33) rfl rfl ?_
    show Steps p.tables e below (T63.setTop (mkF m 35 #[.val (.long q0), .second, .val (.long q1), .second, .val (.int p2), .val (.int p3), .val (.int (p2 &&& (127 : Int32))), .val (.int (j0_0 p3)), .val (.ref b61), .val (.ref b63), .unset, .unset] [(.ref b63)])) _
    refine XS.iconst X63.here hx rfl (hb hby at_35) ?_
    show Steps p.tables e below (T63.setTop (mkF m 36 #[.val (.long q0), .second, .val (.long q1), .second, .val (.int p2), .val (.int p3), .val (.int (p2 &&& (127 : Int32))), .val (.int (j0_0 p3)), .val (.ref b61), .val (.ref b63), .unset, .unset] [(.int (0 : Int32)), (.ref b63)])) _
    refine XS.lloadN X63.here hx rfl (hb hby at_36) rfl ?_
    show Steps p.tables e below (T63.setTop (mkF m 37 #[.val (.long q0), .second, .val (.long q1), .second, .val (.int p2), .val (.int p3), .val (.int (p2 &&& (127 : Int32))), .val (.int (j0_0 p3)), .val (.ref b61), .val (.ref b63), .unset, .unset] [(.long q0), (.int (0 : Int32)), (.ref b63)])) _
    refine st69 _ ?_
    show Steps p.tables e below (T69.setTop (mkF m 38 #[.val (.long q0), .second, .val (.long q1), .second, .val (.int p2), .val (.int p3), .val (.int (p2 &&& (127 : Int32))), .val (.int (j0_0 p3)), .val (.ref b61), .val (.ref b63), .unset, .unset] [])) _
    refine XS.aload X69.here hx rfl (hb hby at_38) rfl rfl ?_
    show Steps p.tables e below (T69.setTop (mkF m 40 #[.val (.long q0), .second, .val (.long q1), .second, .val (.int p2), .val (.int p3), .val (.int (p2 &&& (127 : Int32))), .val (.int (j0_0 p3)), .val (.ref b61), .val (.ref b63), .unset, .unset] [(.ref b63)])) _
    refine XS.iconst X69.here hx rfl (hb hby at_40) ?_
    show Steps p.tables e below (T69.setTop (mkF m 41 #[.val (.long q0), .second, .val (.long q1), .second, .val (.int p2), .val (.int p3), .val (.int (p2 &&& (127 : Int32))), .val (.int (j0_0 p3)), .val (.ref b61), .val (.ref b63), .unset, .unset] [(.int (1 : Int32)), (.ref b63)])) _
    refine XS.lloadN X69.here hx rfl (hb hby at_41) rfl ?_
    show Steps p.tables e below (T69.setTop (mkF m 42 #[.val (.long q0), .second, .val (.long q1), .second, .val (.int p2), .val (.int p3), .val (.int (p2 &&& (127 : Int32))), .val (.int (j0_0 p3)), .val (.ref b61), .val (.ref b63), .unset, .unset] [(.long q1), (.int (1 : Int32)), (.ref b63)])) _
    refine st76 _ ?_
    show Steps p.tables e below (T76.setTop (mkF m 43 #[.val (.long q0), .second, .val (.long q1), .second, .val (.int p2), .val (.int p3), .val (.int (p2 &&& (127 : Int32))), .val (.int (j0_0 p3)), .val (.ref b61), .val (.ref b63), .unset, .unset] [])) _
    refine st81 _ ?_
    show Steps p.tables e below (T81.setTop (mkF m 46 #[.val (.long q0), .second, .val (.long q1), .second, .val (.int p2), .val (.int p3), .val (.int (p2 &&& (127 : Int32))), .val (.int (j0_0 p3)), .val (.ref b61), .val (.ref b63), .unset, .unset] [(.ref b81)])) _
    refine XS.dup X81.here hx rfl (hb hby at_46) rfl rfl ?_
    show Steps p.tables e below (T81.setTop (mkF m 47 #[.val (.long q0), .second, .val (.long q1), .second, .val (.int p2), .val (.int p3), .val (.int (p2 &&& (127 : Int32))), .val (.int (j0_0 p3)), .val (.ref b61), .val (.ref b63), .unset, .unset] [(.ref b81), (.ref b81)])) _
    refine XS.aload X81.here hx rfl (hb hby at_47) rfl rfl ?_
    show Steps p.tables e below (T81.setTop (mkF m 49 #[.val (.long q0), .second, .val (.long q1), .second, .val (.int p2), .val (.int p3), .val (.int (p2 &&& (127 : Int32))), .val (.int (j0_0 p3)), .val (.ref b61), .val (.ref b63), .unset, .unset] [(.ref b61), (.ref b81), (.ref b81)])) _
    refine XS.iload X81.here hx rfl (hb hby at_49) rfl ?_
    exact k)
  by_cases hc89 : (j0_0 p3) = (0 : Int32)
  · skip
    obtain ⟨_, _, ⟨T91, L91, k91, n91⟩, -, X91, ⟨Lc91, hQ91, l91, y91, z91⟩, st91⟩ := X81.specialBack hx (y := (⟨"com/example/pathfield/pathfield/store/LongColumn", "<init>", "([J[J)V"⟩ : MethodName)) rfl hown (mvT hZ (hw _ (List.mem_of_getElem? (i := 4) rfl))) (mvT hZ (hw _ (List.mem_of_getElem? (i := 5) rfl))) (mvT hZ (hw _ (List.mem_of_getElem? (i := 6) rfl))) (by decide) (backOf (W := 1) (rm1a l Z aw hw [] b81 b61 b63 h81 n0 Z86 A81 f87 f88 g_b81) hZ (hw _ (List.mem_of_getElem? (i := 6) rfl)) (hw _ (List.mem_of_getElem? (i := 3) rfl)) (by decide) (by decide)) (g := (mkF m 60 #[.val (.long q0), .second, .val (.long q1), .second, .val (.int p2), .val (.int p3), .val (.int (p2 &&& (127 : Int32))), .val (.int (j0_0 p3)), .val (.ref b61), .val (.ref b63), .unset, .unset] [(.ref b63), (.ref b61), (.ref b81), (.ref b81)])) rfl (by rw [hml]; rfl) (Steps.refl _) (a := b81) (argsL := [(.ref b61), (.ref b63)]) (rest := [(.ref b81)]) (lenOf pd_2 rfl) rfl (by show 2 * 0 + _ ≤ _; exact Nat.le_of_eq rfl) (hb hby at_60) (fun _ _ => ⟨rfl, e81, (by decide : 3 + 0 ≤ _), (by decide : 132 + 0 ≤ _)⟩)
    dsimp only [Pt.U, Pt.locs, Pt.cells, Pt.slots] at X91 l91 y91 z91 st91 hQ91
    subst l91 y91 z91
    obtain ⟨h91, e91⟩ : ∃ z, T91.heap = z := ⟨_, rfl⟩
    rw [e91] at hQ91
    obtain ⟨rfl, N91q, K91q, f92, f93, f94⟩ := hQ91
    have f95 := f82.keep K91q (ninS ne84 nin0)
    have f96 := f83.keep K91q (ninS ne85 nin0)
    have f97 := A81.keep K91q
    have Z91 := Nat.le_trans Z86 K91q.1
    have N91 := Fr.app N80 N91q
    obtain ⟨cq100, kq100, q100a, q100b, q100c⟩ := isOf hZ e91 f92
    obtain ⟨_, _, ⟨T100, L100, k100, n100⟩, -, X100, ⟨Lc100, hQ100, l100, y100, z100⟩, st100⟩ := X91.virtualBack hx (y := (⟨"com/example/pathfield/pathfield/store/LongColumn", "has", "(I)Z"⟩ : MethodName)) (z := (⟨"com/example/pathfield/pathfield/store/LongColumn", "has", "(I)Z"⟩ : MethodName)) hown (mvT hZ (hw _ (List.mem_of_getElem? (i := 14) rfl))) (mvT hZ (hw _ (List.mem_of_getElem? (i := 15) rfl))) (notFace_of_selects (args := #[]) (mvT hZ (hw _ (List.mem_of_getElem? (i := 17) rfl)))) (mvT hZ (hw _ (List.mem_of_getElem? (i := 17) rfl))) (mvT hZ (hw _ (List.mem_of_getElem? (i := 16) rfl))) (by decide) (backOf (W := 0) (rm3a l Z aw hw [] b81 ((p2 &&& (127 : Int32))) b63 q0 q1 k63 h91 n0 Z91 f92 f94 f96 (own_i0 p2) (own_i1 p2)) hZ (hw _ (List.mem_of_getElem? (i := 18) rfl)) (hw _ (List.mem_of_getElem? (i := 3) rfl)) (by decide) (by decide)) q100a q100c (g := (mkF m 69 #[.val (.long q0), .second, .val (.long q1), .second, .val (.int p2), .val (.int p3), .val (.int (p2 &&& (127 : Int32))), .val (.int (j0_0 p3)), .val (.ref b61), .val (.ref b63), .val (.ref b81), .unset] [(.int (p2 &&& (127 : Int32))), (.ref b81)])) rfl (by rw [hml]; rfl) (Steps.refl _) (argsL := [(.int (p2 &&& (127 : Int32)))]) (rest := []) (lenOf pd_3 rfl) rfl (by show 2 * 0 + _ ≤ _; exact Nat.le_of_eq rfl) (hb hby at_69) (fun _ _ => ⟨rfl, e91, (by decide : 3 + 0 ≤ _), (by decide : 132 + 0 ≤ _)⟩)
    dsimp only [Pt.U, Pt.locs, Pt.cells, Pt.slots] at X100 l100 y100 z100 st100 hQ100
    subst l100 y100 z100
    obtain ⟨rfl, N100q, e100⟩ := hQ100
    have N100 := Fr.app N91 N100q
    obtain ⟨_, _, ⟨T101, L101, k101, n101⟩, -, X101, ⟨Lc101, hQ101, l101, y101, z101⟩, st101⟩ := Jvm.LawKit.callS X100 hx (y := (⟨"com/example/pathfield/pathfield/store/LongColumnHasPinLaw", "expected", "(JJIZ)Z"⟩ : MethodName)) hown (mvT hZ (hw _ (List.mem_of_getElem? (i := 19) rfl))) (mvT hZ (hw _ (List.mem_of_getElem? (i := 20) rfl))) (mvT hZ (hw _ (List.mem_of_getElem? (i := 21) rfl))) (mvT hZ (hw _ (List.mem_of_getElem? (i := 22) rfl))) (by decide) (backOf (W := 1) (rm4 l Z aw hw [] q0 q1 ((p2 &&& (127 : Int32))) ((j0_0 p3)) h91 n0 Z91 ) hZ (hw _ (List.mem_of_getElem? (i := 22) rfl)) (hw _ (List.mem_of_getElem? (i := 21) rfl)) (by decide) (by decide)) (g := (mkF m 82 #[.val (.long q0), .second, .val (.long q1), .second, .val (.int p2), .val (.int p3), .val (.int (p2 &&& (127 : Int32))), .val (.int (j0_0 p3)), .val (.ref b61), .val (.ref b63), .val (.ref b81), .val (.int (nar .boolean (j3a_0 (p2 &&& (127 : Int32)) q0 q1)))] [(.int (j0_0 p3)), (.int (p2 &&& (127 : Int32))), (.long q1), (.long q0), (.int (nar .boolean (j3a_0 (p2 &&& (127 : Int32)) q0 q1)))])) rfl (by rw [hml]; rfl) (argsL := [(.long q0), (.long q1), (.int (p2 &&& (127 : Int32))), (.int (j0_0 p3))]) (rest := [(.int (nar .boolean (j3a_0 (p2 &&& (127 : Int32)) q0 q1)))]) (lenOf pd_4 rfl) rfl (by show 2 * 0 + _ ≤ _; exact Nat.le_of_eq rfl) (hb hby at_82) (fun _ _ => ⟨rfl, e100, (by decide : 3 + 0 ≤ _), (by decide : 132 + 0 ≤ _)⟩)
    dsimp only [Pt.U, Pt.locs, Pt.cells, Pt.slots] at X101 l101 y101 z101 st101 hQ101
    subst l101 y101 z101
    obtain ⟨rfl, N101q, e101⟩ := hQ101
    have N101 := Fr.app N100 N101q
    have pre102 := fun (t : State) (k : Steps p.tables e below (T101.setTop (mkF m 85 #[.val (.long q0), .second, .val (.long q1), .second, .val (.int p2), .val (.int p3), .val (.int (p2 &&& (127 : Int32))), .val (.int (j0_0 p3)), .val (.ref b61), .val (.ref b63), .val (.ref b81), .val (.int (nar .boolean (j3a_0 (p2 &&& (127 : Int32)) q0 q1)))] [(.int (v4 q0 q1 (p2 &&& (127 : Int32)) (j0_0 p3))), (.int (nar .boolean (j3a_0 (p2 &&& (127 : Int32)) q0 q1)))])) t) => pre90 t (by
      show Steps p.tables e below (T81.setTop (mkF m 51 #[.val (.long q0), .second, .val (.long q1), .second, .val (.int p2), .val (.int p3), .val (.int (p2 &&& (127 : Int32))), .val (.int (j0_0 p3)), .val (.ref b61), .val (.ref b63), .unset, .unset] [(.int (j0_0 p3)), (.ref b61), (.ref b81), (.ref b81)])) _
      refine XS.ifYes X81.here hx rfl (pc0 := 51) (pc' := 58) rfl (hb hby at_51) rfl ((if0 _ _).trans (teq hc89).1) (by decide) (by decide) ?_
      show Steps p.tables e below (T81.setTop (mkF m 58 #[.val (.long q0), .second, .val (.long q1), .second, .val (.int p2), .val (.int p3), .val (.int (p2 &&& (127 : Int32))), .val (.int (j0_0 p3)), .val (.ref b61), .val (.ref b63), .unset, .unset] [(.ref b61), (.ref b81), (.ref b81)])) _
      refine XS.aload X81.here hx rfl (hb hby at_58) rfl rfl ?_
      show Steps p.tables e below (T81.setTop (mkF m 60 #[.val (.long q0), .second, .val (.long q1), .second, .val (.int p2), .val (.int p3), .val (.int (p2 &&& (127 : Int32))), .val (.int (j0_0 p3)), .val (.ref b61), .val (.ref b63), .unset, .unset] [(.ref b63), (.ref b61), (.ref b81), (.ref b81)])) _
      refine st91.trans ?_
      show Steps p.tables e below (T91.setTop (mkF m 63 #[.val (.long q0), .second, .val (.long q1), .second, .val (.int p2), .val (.int p3), .val (.int (p2 &&& (127 : Int32))), .val (.int (j0_0 p3)), .val (.ref b61), .val (.ref b63), .unset, .unset] [(.ref b81)])) _
      refine XS.astore X91.here hx rfl (hb hby at_63) rfl rfl (l' := #[.val (.long q0), .second, .val (.long q1), .second, .val (.int p2), .val (.int p3), .val (.int (p2 &&& (127 : Int32))), .val (.int (j0_0 p3)), .val (.ref b61), .val (.ref b63), .val (.ref b81), .unset]) rfl ?_
      show Steps p.tables e below (T91.setTop (mkF m 65 #[.val (.long q0), .second, .val (.long q1), .second, .val (.int p2), .val (.int p3), .val (.int (p2 &&& (127 : Int32))), .val (.int (j0_0 p3)), .val (.ref b61), .val (.ref b63), .val (.ref b81), .unset] [])) _
      refine XS.aload X91.here hx rfl (hb hby at_65) rfl rfl ?_
      show Steps p.tables e below (T91.setTop (mkF m 67 #[.val (.long q0), .second, .val (.long q1), .second, .val (.int p2), .val (.int p3), .val (.int (p2 &&& (127 : Int32))), .val (.int (j0_0 p3)), .val (.ref b61), .val (.ref b63), .val (.ref b81), .unset] [(.ref b81)])) _
      refine XS.iload X91.here hx rfl (hb hby at_67) rfl ?_
      show Steps p.tables e below (T91.setTop (mkF m 69 #[.val (.long q0), .second, .val (.long q1), .second, .val (.int p2), .val (.int p3), .val (.int (p2 &&& (127 : Int32))), .val (.int (j0_0 p3)), .val (.ref b61), .val (.ref b63), .val (.ref b81), .unset] [(.int (p2 &&& (127 : Int32))), (.ref b81)])) _
      refine st100.trans ?_
      show Steps p.tables e below (T100.setTop (mkF m 72 #[.val (.long q0), .second, .val (.long q1), .second, .val (.int p2), .val (.int p3), .val (.int (p2 &&& (127 : Int32))), .val (.int (j0_0 p3)), .val (.ref b61), .val (.ref b63), .val (.ref b81), .unset] [(.int (nar .boolean (j3a_0 (p2 &&& (127 : Int32)) q0 q1)))])) _
      refine XS.istore X100.here hx rfl (hb hby at_72) rfl (l' := #[.val (.long q0), .second, .val (.long q1), .second, .val (.int p2), .val (.int p3), .val (.int (p2 &&& (127 : Int32))), .val (.int (j0_0 p3)), .val (.ref b61), .val (.ref b63), .val (.ref b81), .val (.int (nar .boolean (j3a_0 (p2 &&& (127 : Int32)) q0 q1)))]) rfl ?_
      show Steps p.tables e below (T100.setTop (mkF m 74 #[.val (.long q0), .second, .val (.long q1), .second, .val (.int p2), .val (.int p3), .val (.int (p2 &&& (127 : Int32))), .val (.int (j0_0 p3)), .val (.ref b61), .val (.ref b63), .val (.ref b81), .val (.int (nar .boolean (j3a_0 (p2 &&& (127 : Int32)) q0 q1)))] [])) _
      refine XS.iload X100.here hx rfl (hb hby at_74) rfl ?_
      show Steps p.tables e below (T100.setTop (mkF m 76 #[.val (.long q0), .second, .val (.long q1), .second, .val (.int p2), .val (.int p3), .val (.int (p2 &&& (127 : Int32))), .val (.int (j0_0 p3)), .val (.ref b61), .val (.ref b63), .val (.ref b81), .val (.int (nar .boolean (j3a_0 (p2 &&& (127 : Int32)) q0 q1)))] [(.int (nar .boolean (j3a_0 (p2 &&& (127 : Int32)) q0 q1)))])) _
      refine XS.lloadN X100.here hx rfl (hb hby at_76) rfl ?_
      show Steps p.tables e below (T100.setTop (mkF m 77 #[.val (.long q0), .second, .val (.long q1), .second, .val (.int p2), .val (.int p3), .val (.int (p2 &&& (127 : Int32))), .val (.int (j0_0 p3)), .val (.ref b61), .val (.ref b63), .val (.ref b81), .val (.int (nar .boolean (j3a_0 (p2 &&& (127 : Int32)) q0 q1)))] [(.long q0), (.int (nar .boolean (j3a_0 (p2 &&& (127 : Int32)) q0 q1)))])) _
      refine XS.lloadN X100.here hx rfl (hb hby at_77) rfl ?_
      show Steps p.tables e below (T100.setTop (mkF m 78 #[.val (.long q0), .second, .val (.long q1), .second, .val (.int p2), .val (.int p3), .val (.int (p2 &&& (127 : Int32))), .val (.int (j0_0 p3)), .val (.ref b61), .val (.ref b63), .val (.ref b81), .val (.int (nar .boolean (j3a_0 (p2 &&& (127 : Int32)) q0 q1)))] [(.long q1), (.long q0), (.int (nar .boolean (j3a_0 (p2 &&& (127 : Int32)) q0 q1)))])) _
      refine XS.iload X100.here hx rfl (hb hby at_78) rfl ?_
      show Steps p.tables e below (T100.setTop (mkF m 80 #[.val (.long q0), .second, .val (.long q1), .second, .val (.int p2), .val (.int p3), .val (.int (p2 &&& (127 : Int32))), .val (.int (j0_0 p3)), .val (.ref b61), .val (.ref b63), .val (.ref b81), .val (.int (nar .boolean (j3a_0 (p2 &&& (127 : Int32)) q0 q1)))] [(.int (p2 &&& (127 : Int32))), (.long q1), (.long q0), (.int (nar .boolean (j3a_0 (p2 &&& (127 : Int32)) q0 q1)))])) _
      refine XS.iload X100.here hx rfl (hb hby at_80) rfl ?_
      show Steps p.tables e below (T100.setTop (mkF m 82 #[.val (.long q0), .second, .val (.long q1), .second, .val (.int p2), .val (.int p3), .val (.int (p2 &&& (127 : Int32))), .val (.int (j0_0 p3)), .val (.ref b61), .val (.ref b63), .val (.ref b81), .val (.int (nar .boolean (j3a_0 (p2 &&& (127 : Int32)) q0 q1)))] [(.int (j0_0 p3)), (.int (p2 &&& (127 : Int32))), (.long q1), (.long q0), (.int (nar .boolean (j3a_0 (p2 &&& (127 : Int32)) q0 q1)))])) _
      refine st101 _ ?_
      exact k)
    have pre103 := fun (t : State) (k : Steps p.tables e below (T101.setTop (mkF m 93 #[.val (.long q0), .second, .val (.long q1), .second, .val (.int p2), .val (.int p3), .val (.int (p2 &&& (127 : Int32))), .val (.int (j0_0 p3)), .val (.ref b61), .val (.ref b63), .val (.ref b81), .val (.int (nar .boolean (j3a_0 (p2 &&& (127 : Int32)) q0 q1)))] [(.int (j0_1 q0 q1 p2 p3))])) t) => pre102 t (by
      by_cases hc104 : (nar .boolean (j3a_0 (p2 &&& (127 : Int32)) q0 q1)) = (v4 q0 q1 (p2 &&& (127 : Int32)) (j0_0 p3))
      · skip
        show Steps p.tables e below (T101.setTop (mkF m 85 #[.val (.long q0), .second, .val (.long q1), .second, .val (.int p2), .val (.int p3), .val (.int (p2 &&& (127 : Int32))), .val (.int (j0_0 p3)), .val (.ref b61), .val (.ref b63), .val (.ref b81), .val (.int (nar .boolean (j3a_0 (p2 &&& (127 : Int32)) q0 q1)))] [(.int (v4 q0 q1 (p2 &&& (127 : Int32)) (j0_0 p3))), (.int (nar .boolean (j3a_0 (p2 &&& (127 : Int32)) q0 q1)))])) _
        refine XS.icmpNo X101.here hx rfl (hb hby at_85) rfl (teq hc104).2 ?_
        show Steps p.tables e below (T101.setTop (mkF m 88 #[.val (.long q0), .second, .val (.long q1), .second, .val (.int p2), .val (.int p3), .val (.int (p2 &&& (127 : Int32))), .val (.int (j0_0 p3)), .val (.ref b61), .val (.ref b63), .val (.ref b81), .val (.int (nar .boolean (j3a_0 (p2 &&& (127 : Int32)) q0 q1)))] [])) _
        refine XS.iconst X101.here hx rfl (hb hby at_88) ?_
        show Steps p.tables e below (T101.setTop (mkF m 89 #[.val (.long q0), .second, .val (.long q1), .second, .val (.int p2), .val (.int p3), .val (.int (p2 &&& (127 : Int32))), .val (.int (j0_0 p3)), .val (.ref b61), .val (.ref b63), .val (.ref b81), .val (.int (nar .boolean (j3a_0 (p2 &&& (127 : Int32)) q0 q1)))] [(.int (1 : Int32))])) _
        refine XS.goto X101.here hx rfl (pc0 := 89) (pc' := 93) rfl (hb hby at_89) (by decide) (by decide) ?_
        have hj105 : (j0_1 q0 q1 p2 p3) = (1 : Int32) := by unfold j0_1; first | (rw [if_pos hc104]) | (simp only [if_pos hc104])
        rw [hj105] at k
        exact k
      · skip
        show Steps p.tables e below (T101.setTop (mkF m 85 #[.val (.long q0), .second, .val (.long q1), .second, .val (.int p2), .val (.int p3), .val (.int (p2 &&& (127 : Int32))), .val (.int (j0_0 p3)), .val (.ref b61), .val (.ref b63), .val (.ref b81), .val (.int (nar .boolean (j3a_0 (p2 &&& (127 : Int32)) q0 q1)))] [(.int (v4 q0 q1 (p2 &&& (127 : Int32)) (j0_0 p3))), (.int (nar .boolean (j3a_0 (p2 &&& (127 : Int32)) q0 q1)))])) _
        refine XS.icmpYes X101.here hx rfl (pc0 := 85) (pc' := 92) rfl (hb hby at_85) rfl (feq hc104).2 (by decide) (by decide) ?_
        show Steps p.tables e below (T101.setTop (mkF m 92 #[.val (.long q0), .second, .val (.long q1), .second, .val (.int p2), .val (.int p3), .val (.int (p2 &&& (127 : Int32))), .val (.int (j0_0 p3)), .val (.ref b61), .val (.ref b63), .val (.ref b81), .val (.int (nar .boolean (j3a_0 (p2 &&& (127 : Int32)) q0 q1)))] [])) _
        refine XS.iconst X101.here hx rfl (hb hby at_92) ?_
        have hj106 : (j0_1 q0 q1 p2 p3) = (0 : Int32) := by unfold j0_1; first | (rw [if_neg hc104]) | (simp only [if_neg hc104])
        rw [hj106] at k
        exact k)
    obtain ⟨fs, hr, hrun, hended, hW, hsame⟩ := X101.leave (v := some (.int (nar .boolean (j0_1 q0 q1 p2 p3)))) (fun h => by rw [Bd.returns] at h; cases h)
    refine ⟨_, _, pre103 _ ?_, hrun, hended, _, _, rfl, ?_, ⟨_, rfl⟩, hW, hsame.mono (by decide) (by decide)⟩
    · skip
      show Steps p.tables e below (T101.setTop (mkF m 93 #[.val (.long q0), .second, .val (.long q1), .second, .val (.int p2), .val (.int p3), .val (.int (p2 &&& (127 : Int32))), .val (.int (j0_0 p3)), .val (.ref b61), .val (.ref b63), .val (.ref b81), .val (.int (nar .boolean (j3a_0 (p2 &&& (127 : Int32)) q0 q1)))] [(.int (j0_1 q0 q1 p2 p3))])) _
      exact retN X101 hx (t := .boolean) Bd.returns (by simp) (hb hby at_93) hr
    · show Q0 Z q0 q1 p2 p3 h0 n0 _ T101.heap _
      rw [e101]
      have hv : (nar .boolean (j0_1 q0 q1 p2 p3)) = (v0 q0 q1 p2 p3) := by unfold v0; first | (rw [if_pos hc89]) | (simp only [if_pos hc89])
      exact ⟨(by rw [← hv]), N101⟩
  · skip
    obtain ⟨_, _, ⟨T107, L107, k107, n107⟩, -, X107, ⟨Lc107, hQ107, l107, y107, z107⟩, st107⟩ := X81.specialBack hx (y := (⟨"com/example/pathfield/pathfield/store/LongColumn", "<init>", "([J[J)V"⟩ : MethodName)) rfl hown (mvT hZ (hw _ (List.mem_of_getElem? (i := 4) rfl))) (mvT hZ (hw _ (List.mem_of_getElem? (i := 5) rfl))) (mvT hZ (hw _ (List.mem_of_getElem? (i := 6) rfl))) (by decide) (backOf (W := 1) (rm1n l Z aw hw [] b81 b61 h81 n0 Z86 A81 f87 f88 g_b81) hZ (hw _ (List.mem_of_getElem? (i := 6) rfl)) (hw _ (List.mem_of_getElem? (i := 3) rfl)) (by decide) (by decide)) (g := (mkF m 60 #[.val (.long q0), .second, .val (.long q1), .second, .val (.int p2), .val (.int p3), .val (.int (p2 &&& (127 : Int32))), .val (.int (j0_0 p3)), .val (.ref b61), .val (.ref b63), .unset, .unset] [.null, (.ref b61), (.ref b81), (.ref b81)])) rfl (by rw [hml]; rfl) (Steps.refl _) (a := b81) (argsL := [(.ref b61), .null]) (rest := [(.ref b81)]) (lenOf pd_2 rfl) rfl (by show 2 * 0 + _ ≤ _; exact Nat.le_of_eq rfl) (hb hby at_60) (fun _ _ => ⟨rfl, e81, (by decide : 3 + 0 ≤ _), (by decide : 132 + 0 ≤ _)⟩)
    dsimp only [Pt.U, Pt.locs, Pt.cells, Pt.slots] at X107 l107 y107 z107 st107 hQ107
    subst l107 y107 z107
    obtain ⟨h107, e107⟩ : ∃ z, T107.heap = z := ⟨_, rfl⟩
    rw [e107] at hQ107
    obtain ⟨rfl, N107q, K107q, f108, f109, f110⟩ := hQ107
    have f111 := f82.keep K107q (ninS ne84 nin0)
    have f112 := f83.keep K107q (ninS ne85 nin0)
    have f113 := A81.keep K107q
    have Z107 := Nat.le_trans Z86 K107q.1
    have N107 := Fr.app N80 N107q
    obtain ⟨cq116, kq116, q116a, q116b, q116c⟩ := isOf hZ e107 f108
    obtain ⟨_, _, ⟨T116, L116, k116, n116⟩, -, X116, ⟨Lc116, hQ116, l116, y116, z116⟩, st116⟩ := X107.virtualBack hx (y := (⟨"com/example/pathfield/pathfield/store/LongColumn", "has", "(I)Z"⟩ : MethodName)) (z := (⟨"com/example/pathfield/pathfield/store/LongColumn", "has", "(I)Z"⟩ : MethodName)) hown (mvT hZ (hw _ (List.mem_of_getElem? (i := 14) rfl))) (mvT hZ (hw _ (List.mem_of_getElem? (i := 15) rfl))) (notFace_of_selects (args := #[]) (mvT hZ (hw _ (List.mem_of_getElem? (i := 17) rfl)))) (mvT hZ (hw _ (List.mem_of_getElem? (i := 17) rfl))) (mvT hZ (hw _ (List.mem_of_getElem? (i := 16) rfl))) (by decide) (backOf (W := 0) (rm3n l Z aw hw [] b81 ((p2 &&& (127 : Int32))) h107 n0 Z107 f108 f110) hZ (hw _ (List.mem_of_getElem? (i := 18) rfl)) (hw _ (List.mem_of_getElem? (i := 3) rfl)) (by decide) (by decide)) q116a q116c (g := (mkF m 69 #[.val (.long q0), .second, .val (.long q1), .second, .val (.int p2), .val (.int p3), .val (.int (p2 &&& (127 : Int32))), .val (.int (j0_0 p3)), .val (.ref b61), .val (.ref b63), .val (.ref b81), .unset] [(.int (p2 &&& (127 : Int32))), (.ref b81)])) rfl (by rw [hml]; rfl) (Steps.refl _) (argsL := [(.int (p2 &&& (127 : Int32)))]) (rest := []) (lenOf pd_3 rfl) rfl (by show 2 * 0 + _ ≤ _; exact Nat.le_of_eq rfl) (hb hby at_69) (fun _ _ => ⟨rfl, e107, (by decide : 3 + 0 ≤ _), (by decide : 132 + 0 ≤ _)⟩)
    dsimp only [Pt.U, Pt.locs, Pt.cells, Pt.slots] at X116 l116 y116 z116 st116 hQ116
    subst l116 y116 z116
    obtain ⟨rfl, N116q, e116⟩ := hQ116
    have N116 := Fr.app N107 N116q
    obtain ⟨_, _, ⟨T117, L117, k117, n117⟩, -, X117, ⟨Lc117, hQ117, l117, y117, z117⟩, st117⟩ := Jvm.LawKit.callS X116 hx (y := (⟨"com/example/pathfield/pathfield/store/LongColumnHasPinLaw", "expected", "(JJIZ)Z"⟩ : MethodName)) hown (mvT hZ (hw _ (List.mem_of_getElem? (i := 19) rfl))) (mvT hZ (hw _ (List.mem_of_getElem? (i := 20) rfl))) (mvT hZ (hw _ (List.mem_of_getElem? (i := 21) rfl))) (mvT hZ (hw _ (List.mem_of_getElem? (i := 22) rfl))) (by decide) (backOf (W := 1) (rm4 l Z aw hw [] q0 q1 ((p2 &&& (127 : Int32))) ((j0_0 p3)) h107 n0 Z107 ) hZ (hw _ (List.mem_of_getElem? (i := 22) rfl)) (hw _ (List.mem_of_getElem? (i := 21) rfl)) (by decide) (by decide)) (g := (mkF m 82 #[.val (.long q0), .second, .val (.long q1), .second, .val (.int p2), .val (.int p3), .val (.int (p2 &&& (127 : Int32))), .val (.int (j0_0 p3)), .val (.ref b61), .val (.ref b63), .val (.ref b81), .val (.int (1 : Int32))] [(.int (j0_0 p3)), (.int (p2 &&& (127 : Int32))), (.long q1), (.long q0), (.int (1 : Int32))])) rfl (by rw [hml]; rfl) (argsL := [(.long q0), (.long q1), (.int (p2 &&& (127 : Int32))), (.int (j0_0 p3))]) (rest := [(.int (1 : Int32))]) (lenOf pd_4 rfl) rfl (by show 2 * 0 + _ ≤ _; exact Nat.le_of_eq rfl) (hb hby at_82) (fun _ _ => ⟨rfl, e116, (by decide : 3 + 0 ≤ _), (by decide : 132 + 0 ≤ _)⟩)
    dsimp only [Pt.U, Pt.locs, Pt.cells, Pt.slots] at X117 l117 y117 z117 st117 hQ117
    subst l117 y117 z117
    obtain ⟨rfl, N117q, e117⟩ := hQ117
    have N117 := Fr.app N116 N117q
    have pre118 := fun (t : State) (k : Steps p.tables e below (T117.setTop (mkF m 85 #[.val (.long q0), .second, .val (.long q1), .second, .val (.int p2), .val (.int p3), .val (.int (p2 &&& (127 : Int32))), .val (.int (j0_0 p3)), .val (.ref b61), .val (.ref b63), .val (.ref b81), .val (.int (1 : Int32))] [(.int (v4 q0 q1 (p2 &&& (127 : Int32)) (j0_0 p3))), (.int (1 : Int32))])) t) => pre90 t (by
      show Steps p.tables e below (T81.setTop (mkF m 51 #[.val (.long q0), .second, .val (.long q1), .second, .val (.int p2), .val (.int p3), .val (.int (p2 &&& (127 : Int32))), .val (.int (j0_0 p3)), .val (.ref b61), .val (.ref b63), .unset, .unset] [(.int (j0_0 p3)), (.ref b61), (.ref b81), (.ref b81)])) _
      refine XS.ifNo X81.here hx rfl (hb hby at_51) rfl ((if0 _ _).trans (feq hc89).1) ?_
      show Steps p.tables e below (T81.setTop (mkF m 54 #[.val (.long q0), .second, .val (.long q1), .second, .val (.int p2), .val (.int p3), .val (.int (p2 &&& (127 : Int32))), .val (.int (j0_0 p3)), .val (.ref b61), .val (.ref b63), .unset, .unset] [(.ref b61), (.ref b81), (.ref b81)])) _
      refine XS.aconstNull X81.here hx rfl (hb hby at_54) ?_
      show Steps p.tables e below (T81.setTop (mkF m 55 #[.val (.long q0), .second, .val (.long q1), .second, .val (.int p2), .val (.int p3), .val (.int (p2 &&& (127 : Int32))), .val (.int (j0_0 p3)), .val (.ref b61), .val (.ref b63), .unset, .unset] [.null, (.ref b61), (.ref b81), (.ref b81)])) _
      refine XS.goto X81.here hx rfl (pc0 := 55) (pc' := 60) rfl (hb hby at_55) (by decide) (by decide) ?_
      show Steps p.tables e below (T81.setTop (mkF m 60 #[.val (.long q0), .second, .val (.long q1), .second, .val (.int p2), .val (.int p3), .val (.int (p2 &&& (127 : Int32))), .val (.int (j0_0 p3)), .val (.ref b61), .val (.ref b63), .unset, .unset] [.null, (.ref b61), (.ref b81), (.ref b81)])) _
      refine st107.trans ?_
      show Steps p.tables e below (T107.setTop (mkF m 63 #[.val (.long q0), .second, .val (.long q1), .second, .val (.int p2), .val (.int p3), .val (.int (p2 &&& (127 : Int32))), .val (.int (j0_0 p3)), .val (.ref b61), .val (.ref b63), .unset, .unset] [(.ref b81)])) _
      refine XS.astore X107.here hx rfl (hb hby at_63) rfl rfl (l' := #[.val (.long q0), .second, .val (.long q1), .second, .val (.int p2), .val (.int p3), .val (.int (p2 &&& (127 : Int32))), .val (.int (j0_0 p3)), .val (.ref b61), .val (.ref b63), .val (.ref b81), .unset]) rfl ?_
      show Steps p.tables e below (T107.setTop (mkF m 65 #[.val (.long q0), .second, .val (.long q1), .second, .val (.int p2), .val (.int p3), .val (.int (p2 &&& (127 : Int32))), .val (.int (j0_0 p3)), .val (.ref b61), .val (.ref b63), .val (.ref b81), .unset] [])) _
      refine XS.aload X107.here hx rfl (hb hby at_65) rfl rfl ?_
      show Steps p.tables e below (T107.setTop (mkF m 67 #[.val (.long q0), .second, .val (.long q1), .second, .val (.int p2), .val (.int p3), .val (.int (p2 &&& (127 : Int32))), .val (.int (j0_0 p3)), .val (.ref b61), .val (.ref b63), .val (.ref b81), .unset] [(.ref b81)])) _
      refine XS.iload X107.here hx rfl (hb hby at_67) rfl ?_
      show Steps p.tables e below (T107.setTop (mkF m 69 #[.val (.long q0), .second, .val (.long q1), .second, .val (.int p2), .val (.int p3), .val (.int (p2 &&& (127 : Int32))), .val (.int (j0_0 p3)), .val (.ref b61), .val (.ref b63), .val (.ref b81), .unset] [(.int (p2 &&& (127 : Int32))), (.ref b81)])) _
      refine st116.trans ?_
      show Steps p.tables e below (T116.setTop (mkF m 72 #[.val (.long q0), .second, .val (.long q1), .second, .val (.int p2), .val (.int p3), .val (.int (p2 &&& (127 : Int32))), .val (.int (j0_0 p3)), .val (.ref b61), .val (.ref b63), .val (.ref b81), .unset] [(.int (1 : Int32))])) _
      refine XS.istore X116.here hx rfl (hb hby at_72) rfl (l' := #[.val (.long q0), .second, .val (.long q1), .second, .val (.int p2), .val (.int p3), .val (.int (p2 &&& (127 : Int32))), .val (.int (j0_0 p3)), .val (.ref b61), .val (.ref b63), .val (.ref b81), .val (.int (1 : Int32))]) rfl ?_
      show Steps p.tables e below (T116.setTop (mkF m 74 #[.val (.long q0), .second, .val (.long q1), .second, .val (.int p2), .val (.int p3), .val (.int (p2 &&& (127 : Int32))), .val (.int (j0_0 p3)), .val (.ref b61), .val (.ref b63), .val (.ref b81), .val (.int (1 : Int32))] [])) _
      refine XS.iload X116.here hx rfl (hb hby at_74) rfl ?_
      show Steps p.tables e below (T116.setTop (mkF m 76 #[.val (.long q0), .second, .val (.long q1), .second, .val (.int p2), .val (.int p3), .val (.int (p2 &&& (127 : Int32))), .val (.int (j0_0 p3)), .val (.ref b61), .val (.ref b63), .val (.ref b81), .val (.int (1 : Int32))] [(.int (1 : Int32))])) _
      refine XS.lloadN X116.here hx rfl (hb hby at_76) rfl ?_
      show Steps p.tables e below (T116.setTop (mkF m 77 #[.val (.long q0), .second, .val (.long q1), .second, .val (.int p2), .val (.int p3), .val (.int (p2 &&& (127 : Int32))), .val (.int (j0_0 p3)), .val (.ref b61), .val (.ref b63), .val (.ref b81), .val (.int (1 : Int32))] [(.long q0), (.int (1 : Int32))])) _
      refine XS.lloadN X116.here hx rfl (hb hby at_77) rfl ?_
      show Steps p.tables e below (T116.setTop (mkF m 78 #[.val (.long q0), .second, .val (.long q1), .second, .val (.int p2), .val (.int p3), .val (.int (p2 &&& (127 : Int32))), .val (.int (j0_0 p3)), .val (.ref b61), .val (.ref b63), .val (.ref b81), .val (.int (1 : Int32))] [(.long q1), (.long q0), (.int (1 : Int32))])) _
      refine XS.iload X116.here hx rfl (hb hby at_78) rfl ?_
      show Steps p.tables e below (T116.setTop (mkF m 80 #[.val (.long q0), .second, .val (.long q1), .second, .val (.int p2), .val (.int p3), .val (.int (p2 &&& (127 : Int32))), .val (.int (j0_0 p3)), .val (.ref b61), .val (.ref b63), .val (.ref b81), .val (.int (1 : Int32))] [(.int (p2 &&& (127 : Int32))), (.long q1), (.long q0), (.int (1 : Int32))])) _
      refine XS.iload X116.here hx rfl (hb hby at_80) rfl ?_
      show Steps p.tables e below (T116.setTop (mkF m 82 #[.val (.long q0), .second, .val (.long q1), .second, .val (.int p2), .val (.int p3), .val (.int (p2 &&& (127 : Int32))), .val (.int (j0_0 p3)), .val (.ref b61), .val (.ref b63), .val (.ref b81), .val (.int (1 : Int32))] [(.int (j0_0 p3)), (.int (p2 &&& (127 : Int32))), (.long q1), (.long q0), (.int (1 : Int32))])) _
      refine st117 _ ?_
      exact k)
    have pre119 := fun (t : State) (k : Steps p.tables e below (T117.setTop (mkF m 93 #[.val (.long q0), .second, .val (.long q1), .second, .val (.int p2), .val (.int p3), .val (.int (p2 &&& (127 : Int32))), .val (.int (j0_0 p3)), .val (.ref b61), .val (.ref b63), .val (.ref b81), .val (.int (1 : Int32))] [(.int (j0_2 q0 q1 p2 p3))])) t) => pre118 t (by
      by_cases hc120 : (1 : Int32) = (v4 q0 q1 (p2 &&& (127 : Int32)) (j0_0 p3))
      · skip
        show Steps p.tables e below (T117.setTop (mkF m 85 #[.val (.long q0), .second, .val (.long q1), .second, .val (.int p2), .val (.int p3), .val (.int (p2 &&& (127 : Int32))), .val (.int (j0_0 p3)), .val (.ref b61), .val (.ref b63), .val (.ref b81), .val (.int (1 : Int32))] [(.int (v4 q0 q1 (p2 &&& (127 : Int32)) (j0_0 p3))), (.int (1 : Int32))])) _
        refine XS.icmpNo X117.here hx rfl (hb hby at_85) rfl (teq hc120).2 ?_
        show Steps p.tables e below (T117.setTop (mkF m 88 #[.val (.long q0), .second, .val (.long q1), .second, .val (.int p2), .val (.int p3), .val (.int (p2 &&& (127 : Int32))), .val (.int (j0_0 p3)), .val (.ref b61), .val (.ref b63), .val (.ref b81), .val (.int (1 : Int32))] [])) _
        refine XS.iconst X117.here hx rfl (hb hby at_88) ?_
        show Steps p.tables e below (T117.setTop (mkF m 89 #[.val (.long q0), .second, .val (.long q1), .second, .val (.int p2), .val (.int p3), .val (.int (p2 &&& (127 : Int32))), .val (.int (j0_0 p3)), .val (.ref b61), .val (.ref b63), .val (.ref b81), .val (.int (1 : Int32))] [(.int (1 : Int32))])) _
        refine XS.goto X117.here hx rfl (pc0 := 89) (pc' := 93) rfl (hb hby at_89) (by decide) (by decide) ?_
        have hj121 : (j0_2 q0 q1 p2 p3) = (1 : Int32) := by unfold j0_2; first | (rw [if_pos hc120]) | (simp only [if_pos hc120])
        rw [hj121] at k
        exact k
      · skip
        show Steps p.tables e below (T117.setTop (mkF m 85 #[.val (.long q0), .second, .val (.long q1), .second, .val (.int p2), .val (.int p3), .val (.int (p2 &&& (127 : Int32))), .val (.int (j0_0 p3)), .val (.ref b61), .val (.ref b63), .val (.ref b81), .val (.int (1 : Int32))] [(.int (v4 q0 q1 (p2 &&& (127 : Int32)) (j0_0 p3))), (.int (1 : Int32))])) _
        refine XS.icmpYes X117.here hx rfl (pc0 := 85) (pc' := 92) rfl (hb hby at_85) rfl (feq hc120).2 (by decide) (by decide) ?_
        show Steps p.tables e below (T117.setTop (mkF m 92 #[.val (.long q0), .second, .val (.long q1), .second, .val (.int p2), .val (.int p3), .val (.int (p2 &&& (127 : Int32))), .val (.int (j0_0 p3)), .val (.ref b61), .val (.ref b63), .val (.ref b81), .val (.int (1 : Int32))] [])) _
        refine XS.iconst X117.here hx rfl (hb hby at_92) ?_
        have hj122 : (j0_2 q0 q1 p2 p3) = (0 : Int32) := by unfold j0_2; first | (rw [if_neg hc120]) | (simp only [if_neg hc120])
        rw [hj122] at k
        exact k)
    obtain ⟨fs, hr, hrun, hended, hW, hsame⟩ := X117.leave (v := some (.int (nar .boolean (j0_2 q0 q1 p2 p3)))) (fun h => by rw [Bd.returns] at h; cases h)
    refine ⟨_, _, pre119 _ ?_, hrun, hended, _, _, rfl, ?_, ⟨_, rfl⟩, hW, hsame.mono (by decide) (by decide)⟩
    · skip
      show Steps p.tables e below (T117.setTop (mkF m 93 #[.val (.long q0), .second, .val (.long q1), .second, .val (.int p2), .val (.int p3), .val (.int (p2 &&& (127 : Int32))), .val (.int (j0_0 p3)), .val (.ref b61), .val (.ref b63), .val (.ref b81), .val (.int (1 : Int32))] [(.int (j0_2 q0 q1 p2 p3))])) _
      exact retN X117 hx (t := .boolean) Bd.returns (by simp) (hb hby at_93) hr
    · show Q0 Z q0 q1 p2 p3 h0 n0 _ T117.heap _
      rw [e117]
      have hv : (nar .boolean (j0_2 q0 q1 p2 p3)) = (v0 q0 q1 p2 p3) := by unfold v0; first | (rw [if_neg hc89]) | (simp only [if_neg hc89])
      exact ⟨(by rw [← hv]), N117⟩
theorem own_bit (w : Int64) (i : Int32) : (w &&& ((1 : Int64) <<< (i &&& 0x3f).toInt64)) = (0 : Int64) ↔ ¬ (((w.toUInt64 >>> (i &&& 0x3f).toInt64.toUInt64).toInt64) &&& (1 : Int64)) = (1 : Int64) := by
  have hm : (i &&& 0x3f).toInt = i.toInt % 2 ^ 6 := Jvm.Kit.i32_mask i 63 (k := 6) (by decide) (by decide)
  obtain ⟨k, hk⟩ : ∃ k : Nat, (i &&& 0x3f).toInt = k := ⟨(i &&& 0x3f).toInt.toNat, by omega⟩
  have hk64 : k < 64 := by omega
  have e64 : (i &&& 0x3f).toInt64.toInt = k := by rw [Jvm.Kit.i64_of_i32, hk]
  have eb : (i &&& 0x3f).toInt64.toBitVec.toNat = k := by
    have : (i &&& 0x3f).toInt64.toInt = (i &&& 0x3f).toInt64.toBitVec.toInt := rfl
    rw [this, BitVec.toInt_eq_toNat_cond] at e64
    have := (i &&& 0x3f).toInt64.toBitVec.isLt
    split at e64 <;> omega
  generalize (i &&& 0x3f).toInt64 = s at *
  have es : (s.toBitVec.smod 64#64).toNat = k := by
    have h1 : s.toBitVec.smod 64#64 = s.toBitVec.umod 64#64 := by
      have hm1 : s.toBitVec.msb = false := by
        rw [BitVec.msb_eq_decide]; simp; omega
      rw [BitVec.smod_eq, hm1]; rfl
    rw [h1]
    show (s.toBitVec % 64#64).toNat = k
    rw [BitVec.toNat_umod, eb]
    simp; omega
  rw [← Int64.toBitVec_inj, ← Int64.toBitVec_inj]
  have l1 : (w &&& ((1 : Int64) <<< s)).toBitVec = w.toBitVec &&& (1#64 <<< k) := by
    show w.toBitVec &&& ((1 : Int64) <<< s).toBitVec = _
    have : ((1 : Int64) <<< s).toBitVec = 1#64 <<< (s.toBitVec.smod 64#64) := rfl
    rw [this, BitVec.shiftLeft_eq', es]
  have l2 : (((w.toUInt64 >>> s.toUInt64).toInt64) &&& (1 : Int64)).toBitVec = (w.toBitVec >>> k) &&& 1#64 := by
    show (w.toUInt64 >>> s.toUInt64).toBitVec &&& 1#64 = _
    have : (w.toUInt64 >>> s.toUInt64).toBitVec = w.toBitVec >>> (s.toBitVec % 64#64) := rfl
    have h2 : (s.toBitVec % 64#64).toNat = k := by rw [BitVec.toNat_umod, eb]; simp; omega
    rw [this, BitVec.ushiftRight_eq', h2]
  rw [l1, l2]
  have r1 : w.toBitVec &&& (1#64 <<< k) = 0#64 ↔ w.toBitVec.getLsbD k = false := by
    constructor
    · intro h
      have := congrArg (fun b => b.getLsbD k) h
      simpa [hk64] using this
    · intro h
      apply BitVec.eq_of_getLsbD_eq
      intro j hj
      by_cases hjk : j = k
      · subst hjk; simp [h]
      · simp only [BitVec.getLsbD_and, BitVec.getLsbD_shiftLeft, BitVec.getLsbD_zero]
        by_cases hlt : j < k
        · simp [hlt]
        · have : j - k ≠ 0 := by omega
          simp [hlt, BitVec.getLsbD_one, this]
  have r2 : (w.toBitVec >>> k) &&& 1#64 = 1#64 ↔ w.toBitVec.getLsbD k = true := by
    constructor
    · intro h
      have := congrArg (fun b => b.getLsbD 0) h
      simpa using this
    · intro h
      apply BitVec.eq_of_getLsbD_eq
      intro j hj
      by_cases hj0 : j = 0
      · subst hj0; simp [h]
      · simp [BitVec.getLsbD_one, hj0]
  show w.toBitVec &&& (1#64 <<< k) = 0#64 ↔ ¬ (w.toBitVec >>> k) &&& 1#64 = 1#64
  rw [r1, r2]; simp
theorem own_sub (i : Int32) (h0 : ¬ i < (64 : Int32)) (h1 : i < (128 : Int32)) : ((i - (64 : Int32)) &&& 0x3f) = (i &&& 0x3f) := by
  have a : (128 : Int32).toInt = 128 := rfl
  have b : (64 : Int32).toInt = 64 := rfl
  have ri := i.toInt_lt; have li := i.le_toInt
  rw [Int32.lt_iff_toInt_lt] at h0 h1
  have e1 : (i - (64 : Int32)).toInt = i.toInt - 64 := by rw [Jvm.Kit.i32_sub] <;> rw [b] <;> omega
  rw [← Int32.toInt_inj, Jvm.Kit.i32_mask _ 63 (k := 6) (by decide) (by decide), Jvm.Kit.i32_mask _ 63 (k := 6) (by decide) (by decide), e1]
  omega
theorem own_core2 (q0 q1 : Int64) (i : Int32) (h1 : i < (128 : Int32)) : nar .boolean (j3a_0 i q0 q1) = v4 q0 q1 i 0 := by
  unfold j3a_0 v4 j4_0 j4_1 own_sel
  rw [if_pos rfl]
  by_cases h : i < (64 : Int32)
  · rw [if_pos h, if_pos h]
    by_cases q : (q0 &&& ((1 : Int64) <<< (i &&& 0x3f).toInt64)) = (0 : Int64)
    · rw [if_pos q, if_neg ((own_bit q0 i).mp q)]
    · rw [if_neg q, if_pos (Classical.not_not.mp (mt (own_bit q0 i).mpr q))]
  · rw [if_neg h, if_neg h, own_sub i h h1]
    by_cases q : (q1 &&& ((1 : Int64) <<< (i &&& 0x3f).toInt64)) = (0 : Int64)
    · rw [if_pos q, if_neg ((own_bit q1 i).mp q)]
    · rw [if_neg q, if_pos (Classical.not_not.mp (mt (own_bit q1 i).mpr q))]
theorem law_one (q0 q1 : Int64) (p2 p3 : Int32) : (v0 q0 q1 p2 p3) = 1 := by
  unfold v0 j0_1 j0_2
  by_cases h : j0_0 p3 = 0
  · rw [if_pos h, h, if_pos (own_core2 q0 q1 _ (own_i1 p2))]; rfl
  · have hv : (1 : Int32) = v4 q0 q1 (p2 &&& (127 : Int32)) (j0_0 p3) := by unfold v4; rw [if_neg h]
    rw [if_neg h, if_pos hv]; rfl
set_option maxRecDepth 65536 in
set_option maxHeartbeats 40000000 in
theorem comes_1 {Post : Tables → Env → Array Value → State → Outcome → State → Prop} (hpost : ∀ tb e args s v u, (limb_1_1.after args s (.returned v) u = true ∧ limb_1_2.after args s (.returned v) u = true ∧ True) → FrameEnd s (.returned v) u (Jvm.fieldLocs frame_1_writes args s ++ Jvm.arrayLocs frame_1_arrays args s ++ Jvm.staticLocs frame_1_statics s) 16 384 → Post tb e args s (.returned v) u) :
    ArmFor flags0 classFile x code maxLocals ret World_1 tables_1 room_1 Calls_1 rest_1 Pre_1 Post := by
  intro l hfl _ _ p e ha hc hk s m args below hf hA hF happ hP
  obtain ⟨hcalls, hrest, hpre⟩ := hP
  obtain ⟨-, -, -, hnamed, -, -, -, hat⟩ := (Spec.applies_iff hf).mp happ
  obtain ⟨hg, hn⟩ := and_e (Cond.before_iff.mp (show (Jvm.Cond.and given_1 narrow_1).before args s = true from hpre))
  obtain ⟨hcount, r0⟩ := and_e hg
  obtain ⟨k0, r1⟩ := and_e r0
  obtain ⟨k1, r2⟩ := and_e r1
  obtain ⟨k2, r3⟩ := and_e r2
  have k3 := r3
  obtain ⟨w0, w1, w2, w3, rfl⟩ : ∃ w0 w1 w2 w3 : Value, args = #[w0, w1, w2, w3] := by
    have hs : args.size = 4 := by simpa [Cond.value, given_1] using hcount
    obtain ⟨L⟩ := args
    match L, hs with
    | [w0, w1, w2, w3], _ => exact ⟨w0, w1, w2, w3, rfl⟩
  have hw := fun d (hd : d ∈ tables_1) => atoms_spec (ws := Jvm.Cond.code x code maxLocals ret :: tables_1) hat d (List.mem_cons_of_mem _ hd)
  obtain ⟨i0, ei0⟩ := isL_v k0
  obtain rfl : w0 = (.long i0) := Option.some.inj ei0
  obtain ⟨i1, ei1⟩ := isL_v k1
  obtain rfl : w1 = (.long i1) := Option.some.inj ei1
  obtain ⟨i2, ei2⟩ := is_v k2
  obtain rfl : w2 = (.int i2) := Option.some.inj ei2
  obtain ⟨i3, ei3⟩ := is_v k3
  obtain rfl : w3 = (.int i3) := Option.some.inj ei3
  obtain ⟨n, o, h1, h2, h3, v, L, rfl, ⟨hv, N⟩, hq⟩ := rm0 l s _ hw tables_1 i0 i1 i2 i3 s.heap s.heap.size (Nat.le_refl _) p e ha hc hk s m _ below hf ((Spec.applies_iff_loose hf).mp happ).1 ⟨rfl, State.Warmed39.refl s, rfl⟩ trivial
  rw [law_one i0 i1 i2 i3] at hv
  subst hv
  refine ⟨n, _, h1, h2, h3, hpost _ _ _ _ _ _ ⟨Cond.after_iff.mpr rfl, Cond.after_iff.mpr (eq_i res_at (Term.int_eval (1)) rfl), trivial⟩ ⟨hq.1, hq.2.1, (hq.2.2.sift fun y hy => Or.inr (N y hy)).mono (by decide) (by decide)⟩⟩
theorem main_1_1 : Claimed_1_1 := comes_1 fun _ _ _ _ _ _ h hF => ⟨h.1, hF⟩
theorem main_1_2 : Claimed_1_2 := comes_1 fun _ _ _ _ _ _ h hF => ⟨h.2.1, hF⟩
end Jvm.Pilot.@@N@@
namespace Jvm.Pilot.@@N@@
open Jvm Jvm.ClassFile Sem Op Lib Jvm.Free Jvm.Stand Jvm.Pilot.@@N@@.Jvm.D
/-! MADE BY PROGRAM (witnessworld.py) out of the Statement's table words and the real class files: 12 classes; the members and pool entries that the words name. The judged class is class 1, her method 1. -/
namespace start1
open Jvm.ClassFile
def u (s : String) : CpInfo := .utf8 (stringToUtf16 s)
/-- a pool by its gaps: so many unusable entries, then the entry; so many at the end -/
def gap : Nat → List CpInfo → List CpInfo
  | 0, r => r
  | n + 1, r => .unusable :: gap n r
def poolList (es : List (Nat × CpInfo)) (last : Nat) : List CpInfo := es.foldr (fun e r => gap e.1 (e.2 :: r)) (gap last [])
def pool (es : List (Nat × CpInfo)) (last : Nat) : Array CpInfo := ⟨poolList es last⟩
def fileOf (pool : Array CpInfo) (this : Nat) (attrs : Array Attribute := #[]) (ms : Array MethodInfo := #[]) (fl : Nat := 33) (sup : Nat := 0) (ifs : Array Nat := #[]) (fds : Array FieldInfo := #[]) : ClassFile where
  minorVersion := 0
  majorVersion := 65
  constantPool := pool
  accessFlags := fl
  thisClass := this
  superClass := sup
  interfaces := ifs
  fields := fds
  methods := ms
  attributes := attrs
def plain (name : String) (sup : Option ClassId) : Class where
  name := name
  kind := .ordinary
  loader := none
  accessFlags := 33
  super := sup
  interfaces := #[]
  cf := none
  fields := #[]
  methods := #[]
  instanceTypes := #[]
  staticTypes := #[]
  resolved := #[]
  callSites := []
  init := .initialized
  statics := none
  mirror := none

def pool0 : Array CpInfo := pool [(5, u "<init>"), (0, u "()V"), (1, .class_ 10), (1, u "java/lang/Object")] 113

def k0c0 : Code := { maxStack := 0, maxLocals := 1, code := object_method_1_code, exceptionTable := #[], attributes := #[] }
def k0m0 : Method := { name := "<init>", desc := "()V", sig := { parameters := [], returnType := none }, accessFlags := 1, code := some k0c0 }
/-- java/lang/Object -/
def k0 : Class := { plain "java/lang/Object" none with
  accessFlags := 33
  interfaces := #[]
  cf := some (fileOf pool0 8 #[] #[{ accessFlags := 1, nameIndex := 5, descriptorIndex := 6, attributes := #[] }] 33 0 #[] #[])
  fields := #[]
  methods := #[k0m0]
  instanceTypes := #[]
  staticTypes := #[]
  resolved := Array.replicate 124 none
  statics := none }

def pool1 : Array CpInfo := pool [(2, .class_ 4), (1, u "java/lang/Object"), (0, u "<init>"), (0, u "()V"), (0, .class_ 8), (0, u "com/example/pathfield/pathfield/store/LongColumn"), (0, .methodref 7 10), (0, .nameAndType 5 11), (0, u "([J[J)V"), (0, .methodref 7 13), (0, .nameAndType 14 15), (0, u "has"), (0, u "(I)Z"), (0, .methodref 17 18), (0, .class_ 19), (0, .nameAndType 20 21), (0, u "com/example/pathfield/pathfield/store/LongColumnHasPinLaw"), (0, u "expected"), (0, u "(JJIZ)Z"), (2, u "law"), (0, u "(JJII)Z")] 5

def k1m0 : Method := { name := "<init>", desc := "()V", sig := { parameters := [], returnType := none }, accessFlags := 1, code := none }
def k1c1 : Code := { maxStack := 7, maxLocals := 12, code := code, exceptionTable := #[], attributes := #[] }
def k1m1 : Method := { name := "law", desc := "(JJII)Z", sig := { parameters := [.long, .long, .int, .int], returnType := some .boolean }, accessFlags := 9, code := some k1c1 }
def k1c2 : Code := { maxStack := 4, maxLocals := 6, code := method_3_code, exceptionTable := #[], attributes := #[] }
def k1m2 : Method := { name := "expected", desc := "(JJIZ)Z", sig := { parameters := [.long, .long, .int, .boolean], returnType := some .boolean }, accessFlags := 10, code := some k1c2 }
/-- com/example/pathfield/pathfield/store/LongColumnHasPinLaw -/
def k1 : Class := { plain "com/example/pathfield/pathfield/store/LongColumnHasPinLaw" (some 0) with
  accessFlags := 49
  interfaces := #[]
  cf := some (fileOf pool1 17 #[] #[{ accessFlags := 1, nameIndex := 5, descriptorIndex := 6, attributes := #[] }, { accessFlags := 9, nameIndex := 24, descriptorIndex := 25, attributes := #[] }, { accessFlags := 10, nameIndex := 20, descriptorIndex := 21, attributes := #[] }] 49 2 #[] #[])
  fields := #[]
  methods := #[k1m0, k1m1, k1m2]
  instanceTypes := #[]
  staticTypes := #[]
  resolved := Array.replicate 31 none
  statics := none }

def pool2 : Array CpInfo := pool [(1, .class_ 2), (0, u "com/example/pathfield/pathfield/store/Decoded"), (24, .class_ 28), (0, u "java/lang/Object"), (0, u "HEADER_BYTES"), (0, u "J"), (1, u "REFERENCE_BYTES")] 16

/-- com/example/pathfield/pathfield/store/Decoded -/
def k2 : Class := { plain "com/example/pathfield/pathfield/store/Decoded" (some 0) with
  accessFlags := 1536
  interfaces := #[]
  cf := some (fileOf pool2 1 #[] #[] 1536 27 #[] #[{ accessFlags := 25, nameIndex := 29, descriptorIndex := 30, attributes := #[] }, { accessFlags := 25, nameIndex := 32, descriptorIndex := 30, attributes := #[] }])
  fields := #[{ name := "HEADER_BYTES", type := .long, accessFlags := 25, slot := 0, constantValue := 0 }, { name := "REFERENCE_BYTES", type := .long, accessFlags := 25, slot := 1, constantValue := 0 }]
  methods := #[]
  instanceTypes := #[]
  staticTypes := #[.long, .long]
  resolved := Array.replicate 49 none
  statics := none }

def pool3 : Array CpInfo := pool [(1, .methodref 2 3), (0, .class_ 4), (0, .nameAndType 5 6), (0, u "java/lang/Object"), (0, u "<init>"), (0, u "()V"), (0, .fieldref 8 9), (0, .class_ 10), (0, .nameAndType 11 12), (0, u "com/example/pathfield/pathfield/store/LongColumn"), (0, u "values"), (0, u "[J"), (0, .fieldref 8 14), (0, .nameAndType 15 12), (0, u "present"), (0, .class_ 17), (0, u "com/example/pathfield/pathfield/store/Decoded"), (14, u "has"), (0, u "(I)Z"), (75, u "([J[J)V"), (4, u "EVERY_OBJECT"), (0, u "I"), (2, u "SOME_OBJECTS"), (1, u "PACKED"), (0, u "DELTAS")] 36

def k3c0 : Code := { maxStack := 2, maxLocals := 3, code := prog_95_method_1_code, exceptionTable := #[], attributes := #[] }
def k3m0 : Method := { name := "<init>", desc := "([J[J)V", sig := { parameters := [(.array .long), (.array .long)], returnType := none }, accessFlags := 0, code := some k3c0 }
def k3c1 : Code := { maxStack := 5, maxLocals := 2, code := prog_95_method_3_code, exceptionTable := #[], attributes := #[] }
def k3m1 : Method := { name := "has", desc := "(I)Z", sig := { parameters := [.int], returnType := some .boolean }, accessFlags := 1, code := some k3c1 }
/-- com/example/pathfield/pathfield/store/LongColumn -/
def k3 : Class := { plain "com/example/pathfield/pathfield/store/LongColumn" (some 0) with
  accessFlags := 49
  interfaces := #[2]
  cf := some (fileOf pool3 8 #[] #[{ accessFlags := 0, nameIndex := 5, descriptorIndex := 109, attributes := #[] }, { accessFlags := 1, nameIndex := 32, descriptorIndex := 33, attributes := #[] }] 49 2 #[16] #[{ accessFlags := 26, nameIndex := 114, descriptorIndex := 115, attributes := #[] }, { accessFlags := 26, nameIndex := 118, descriptorIndex := 115, attributes := #[] }, { accessFlags := 26, nameIndex := 120, descriptorIndex := 115, attributes := #[] }, { accessFlags := 26, nameIndex := 121, descriptorIndex := 115, attributes := #[] }, { accessFlags := 18, nameIndex := 11, descriptorIndex := 12, attributes := #[] }, { accessFlags := 18, nameIndex := 15, descriptorIndex := 12, attributes := #[] }])
  fields := #[{ name := "EVERY_OBJECT", type := .int, accessFlags := 26, slot := 0, constantValue := 0 }, { name := "SOME_OBJECTS", type := .int, accessFlags := 26, slot := 1, constantValue := 0 }, { name := "PACKED", type := .int, accessFlags := 26, slot := 2, constantValue := 0 }, { name := "DELTAS", type := .int, accessFlags := 26, slot := 3, constantValue := 0 }, { name := "values", type := (.array .long), accessFlags := 18, slot := 0, constantValue := 0 }, { name := "present", type := (.array .long), accessFlags := 18, slot := 1, constantValue := 0 }]
  methods := #[k3m0, k3m1]
  instanceTypes := #[(.array .long), (.array .long)]
  staticTypes := #[.int, .int, .int, .int]
  resolved := Array.replicate 158 none
  statics := none }

def pool4 : Array CpInfo := pool [(1, u "java/lang/Cloneable"), (0, .class_ 1), (0, u "java/lang/Object"), (0, .class_ 3)] 3

/-- java/lang/Cloneable -/
def k4 : Class := { plain "java/lang/Cloneable" (some 0) with
  accessFlags := 1537
  interfaces := #[]
  cf := some (fileOf pool4 2 #[] #[] 1537 4 #[] #[])
  fields := #[]
  methods := #[]
  instanceTypes := #[]
  staticTypes := #[]
  resolved := Array.replicate 8 none
  statics := none }

def pool5 : Array CpInfo := pool [(1, u "java/io/Serializable"), (0, .class_ 1), (0, u "java/lang/Object"), (0, .class_ 3)] 3

/-- java/io/Serializable -/
def k5 : Class := { plain "java/io/Serializable" (some 0) with
  accessFlags := 1537
  interfaces := #[]
  cf := some (fileOf pool5 2 #[] #[] 1537 4 #[] #[])
  fields := #[]
  methods := #[]
  instanceTypes := #[]
  staticTypes := #[]
  resolved := Array.replicate 8 none
  statics := none }

/-- the primitive byte -/
def k6 : Class := { plain "byte" none with kind := .primitive 'B', accessFlags := 0x411 }
/-- [B -/
def k7 : Class := { plain "[B" (some 0) with kind := .array 6 .byte, interfaces := #[4, 5], accessFlags := 1041 }

/-- the primitive int -/
def k8 : Class := { plain "int" none with kind := .primitive 'I', accessFlags := 0x411 }
/-- [I -/
def k9 : Class := { plain "[I" (some 0) with kind := .array 8 .int, interfaces := #[4, 5], accessFlags := 1041 }

/-- the primitive long -/
def k10 : Class := { plain "long" none with kind := .primitive 'J', accessFlags := 0x411 }
/-- [J -/
def k11 : Class := { plain "[J" (some 0) with kind := .array 10 .long, interfaces := #[4, 5], accessFlags := 1041 }

def heap : Heap := #[]
def classes : Array Class := #[k0, k1, k2, k3, k4, k5, k6, k7, k8, k9, k10, k11]
def interned : List (Array UInt16 × Addr) := []
def slotsUsed : Nat := 0
def theMethod : MethodId := ⟨1, 1⟩
def args0 : Array Value := #[.long 5, .long 5, .int 5, .int 5]
def aboutOver (below : List Frame) : State where
  vm := { classes := classes, interned := interned.toArray }
  heap := heap
  slotsUsed := slotsUsed
  threads := #[{ frames := .invoking theMethod args0 :: below }]
def below0 : List Frame := [.native { method := ⟨0, 0⟩, args := #[] }]
def about1 : State := aboutOver below0
def p0 : Program := .bare "" "" ""
def e0 : Env := launch0.env 0 0 0
theorem w_frames : about1.frames = Frame.invoking theMethod args0 :: below0 := rfl
set_option maxRecDepth 65536 in
theorem w_args : argsFit about1.vm theMethod args0 = true := by decide +kernel
set_option maxRecDepth 65536 in
theorem w_heap : heapFits about1 = true := by decide +kernel
set_option maxRecDepth 65536 in
theorem w_runnable : about1.curStatus? = some .runnable := by decide +kernel
set_option maxRecDepth 65536 in
theorem w_alone : about1.alone = true := by decide +kernel
set_option maxRecDepth 65536 in
theorem w_named : about1.methodNamed? x = some theMethod := by decide +kernel
set_option maxRecDepth 65536 in
theorem w_hears : about1.hears theMethod below0 = true := by decide +kernel
set_option maxRecDepth 65536 in
theorem w_ripe : about1.ripe theMethod args0 below0 = true := by decide +kernel
theorem w_running : about1.status = .running := rfl
set_option maxRecDepth 65536 in
theorem w_room : about1.hasRoom e0.platform room_1 = true :=
  launch0.hasRoom_least _ room_1 (by decide +kernel) (by decide +kernel) (by decide +kernel) (by decide +kernel) (by decide +kernel) (by decide +kernel)
theorem allAtoms_all (ts : List Jvm.Cond) (a : Array Jvm.Value) (st : Jvm.State) : (allAtoms ts).before a st = ts.all (fun c => c.before a st) := by
  induction ts with
  | nil => rfl
  | cons c t ih =>
    show (Jvm.Cond.and c (allAtoms t)).before a st = _
    rw [Jvm.Cond.before_and, ih, List.all_cons]
def words1 : List Jvm.Cond := Jvm.Cond.code x code maxLocals ret :: tables_1
/-- a 'code' word, met by the world's own term for the bytes: nothing is compared byte by byte -/
theorem code_word {y : MethodName} {bytes : ByteArray} {mx : Nat} {rt : Option FieldType} {a : Array Value} {s : State} {m : MethodId} {meth : Method} {c : Code} (h1 : s.methodNamed? y = some m) (h2 : s.vm.method? m = some meth) (h3 : meth.code = some c) (h4 : c.code = bytes)
    (h5 : (c.maxLocals == mx && c.exceptionTable.isEmpty && decide (c.maxStack ≤ mostOperands) && decide (meth.sig.returnType = rt) && !meth.locks && decide (parseMethodDescriptor y.desc = some meth.sig)) = true) : (Jvm.Cond.code y bytes mx rt).before a s = true := by
  simp only [Bool.and_eq_true, beq_iff_eq, Bool.not_eq_true', decide_eq_true_eq] at h5
  obtain ⟨⟨⟨⟨⟨g1, g2⟩, g3⟩, g4⟩, g5⟩, g6⟩ := h5
  simp [Cond.before, Cond.holds, Cond.value, h1, h2, h3, h4, g1, g2, g3, g4, g5, g6]
def isCode : Jvm.Cond → Bool
  | .code _ _ _ _ => true
  | _ => false
theorem all_split {L : List Jvm.Cond} {P : Jvm.Cond → Bool} (h1 : L.all (fun c => isCode c || P c) = true) (h2 : ∀ c ∈ L.filter isCode, P c = true) : L.all P = true := by
  refine List.all_eq_true.mpr fun c hc => ?_
  have h := List.all_eq_true.mp h1 c hc
  rcases Bool.eq_false_or_eq_true (isCode c) with hi | hi
  · exact h2 c (List.mem_filter.mpr ⟨hc, hi⟩)
  · simpa [hi] using h
set_option maxRecDepth 65536 in
theorem w_c0 : (Jvm.Cond.code x code maxLocals ret).before args0 about1 = true := code_word (m := ⟨1, 1⟩) (meth := k1m1) (c := k1c1) (by decide +kernel) rfl rfl rfl (by decide +kernel)
set_option maxRecDepth 65536 in
theorem w_c1 : (Jvm.Cond.code ({ cls := "com/example/pathfield/pathfield/store/LongColumn", name := "<init>", desc := "([J[J)V" } : Jvm.MethodName) prog_95_method_1_code (3 : Nat) (Option.none : Option Jvm.ClassFile.FieldType)).before args0 about1 = true := code_word (m := ⟨3, 0⟩) (meth := k3m0) (c := k3c0) (by decide +kernel) rfl rfl rfl (by decide +kernel)
set_option maxRecDepth 65536 in
theorem w_c2 : (Jvm.Cond.code ({ cls := "java/lang/Object", name := "<init>", desc := "()V" } : Jvm.MethodName) object_method_1_code (1 : Nat) (Option.none : Option Jvm.ClassFile.FieldType)).before args0 about1 = true := code_word (m := ⟨0, 0⟩) (meth := k0m0) (c := k0c0) (by decide +kernel) rfl rfl rfl (by decide +kernel)
set_option maxRecDepth 65536 in
theorem w_c3 : (Jvm.Cond.code ({ cls := "com/example/pathfield/pathfield/store/LongColumn", name := "has", desc := "(I)Z" } : Jvm.MethodName) prog_95_method_3_code (2 : Nat) (Option.some Jvm.ClassFile.FieldType.boolean)).before args0 about1 = true := code_word (m := ⟨3, 1⟩) (meth := k3m1) (c := k3c1) (by decide +kernel) rfl rfl rfl (by decide +kernel)
set_option maxRecDepth 65536 in
theorem w_c4 : (Jvm.Cond.code ({ cls := "com/example/pathfield/pathfield/store/LongColumnHasPinLaw", name := "expected", desc := "(JJIZ)Z" } : Jvm.MethodName) method_3_code (6 : Nat) (Option.some Jvm.ClassFile.FieldType.boolean)).before args0 about1 = true := code_word (m := ⟨1, 2⟩) (meth := k1m2) (c := k1c2) (by decide +kernel) rfl rfl rfl (by decide +kernel)
def codes1 : List Jvm.Cond := [Jvm.Cond.code x code maxLocals ret, Jvm.Cond.code ({ cls := "com/example/pathfield/pathfield/store/LongColumn", name := "<init>", desc := "([J[J)V" } : Jvm.MethodName) prog_95_method_1_code (3 : Nat) (Option.none : Option Jvm.ClassFile.FieldType), Jvm.Cond.code ({ cls := "java/lang/Object", name := "<init>", desc := "()V" } : Jvm.MethodName) object_method_1_code (1 : Nat) (Option.none : Option Jvm.ClassFile.FieldType), Jvm.Cond.code ({ cls := "com/example/pathfield/pathfield/store/LongColumn", name := "has", desc := "(I)Z" } : Jvm.MethodName) prog_95_method_3_code (2 : Nat) (Option.some Jvm.ClassFile.FieldType.boolean), Jvm.Cond.code ({ cls := "com/example/pathfield/pathfield/store/LongColumnHasPinLaw", name := "expected", desc := "(JJIZ)Z" } : Jvm.MethodName) method_3_code (6 : Nat) (Option.some Jvm.ClassFile.FieldType.boolean)]
set_option maxRecDepth 65536 in
theorem codes_eq : words1.filter isCode = codes1 := rfl
theorem w_codes : ∀ c ∈ words1.filter isCode, c.before args0 about1 = true := by
  rw [codes_eq]
  intro c hc
  simp only [codes1, List.mem_cons, List.not_mem_nil, or_false] at hc
  rcases hc with rfl | rfl | rfl | rfl | rfl
  · exact w_c0
  · exact w_c1
  · exact w_c2
  · exact w_c3
  · exact w_c4
set_option maxRecDepth 65536 in
theorem w_t1 : words1.all (fun c => isCode c || c.before args0 about1) = true := by decide +kernel
theorem w_tables : (allAtoms (Jvm.Cond.code x code maxLocals ret :: tables_1)).before args0 about1 = true := by
  rw [allAtoms_all]
  show words1.all (fun c => c.before args0 about1) = true
  refine all_split ?_ w_codes
  rw [w_t1]
set_option maxRecDepth 65536 in
theorem w_case : (Jvm.Cond.and given_1 narrow_1).before args0 about1 = true := by decide +kernel
theorem w_applies : (headSpec (Jvm.Cond.code x code maxLocals ret :: tables_1) room_1).applies x e0.platform about1 = true :=
  (Spec.applies_iff w_frames).mpr ⟨w_running, w_runnable, w_alone, w_named, w_hears, w_ripe, w_room, w_tables⟩
theorem atStart : AtStart classFile x code maxLocals ret World_1 tables_1 room_1 Calls_1 rest_1 Pre_1 launch0 p0 e0 about1 theMethod args0 below0 :=
  ⟨lists_1, trivial, launch0.admits_env _ _ _, launch0.least_env, fairChoices_fair.cas, fairChoices_fair.clock, w_frames, w_args, w_heap, w_applies, trivial, trivial, w_case⟩
end start1
theorem witness_1 : WitnessClaimed_1 := ⟨start1.p0, start1.e0, start1.about1, start1.theMethod, start1.args0, start1.below0, start1.atStart⟩
end Jvm.Pilot.@@N@@
