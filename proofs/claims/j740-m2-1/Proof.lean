import JvmDerived
import JvmDerived.Pilot.@@N@@Statement
import JvmDerived.Pilot.@@N@@Code
set_option linter.unusedVariables false
set_option linter.unusedSimpArgs false

namespace Jvm.Pilot.@@N@@
open Jvm Jvm.ClassFile Sem Op Lib Jvm.Free Jvm.Stand Jvm.LawKit Jvm.RoadKit Bundle Jvm.Pilot.@@N@@.Jvm.D
theorem own_m {Z : State} {aw : Array Value} (hw : ∀ d ∈ tables_1, d.before aw Z = true) (i : Nat) {d : Jvm.Cond} (h : tables_1[i]? = some d) : d.before aw Z = true := hw d (List.mem_of_getElem? h)
theorem own_tnc (x : Int32) : x.toNatClampNeg = x.toInt.toNat := rfl
theorem own_lc (x y : Int64) : lcmpW x y = if x > y then 1 else if x = y then 0 else -1 := rfl
theorem own_lt (x y : Int64) : lcmpW x y < 0 ↔ x < y := by
  rw [own_lc]; split
  · rename_i h; exact ⟨fun q => absurd q (by decide), fun q => absurd h (Int64.lt_asymm q)⟩
  · split
    · rename_i h1 h2; subst h2; exact ⟨fun q => absurd q (by decide), fun q => absurd q Int64.lt_irrefl⟩
    · rename_i h1 h2; exact ⟨fun _ => (Int64.lt_or_lt_of_ne h2).resolve_right h1, fun _ => by decide⟩
theorem own_gt (x y : Int64) : 0 < lcmpW x y ↔ y < x := by
  rw [own_lc]; split
  · rename_i h; exact ⟨fun _ => h, fun _ => by decide⟩
  · split
    · rename_i h1 h2; exact ⟨fun q => absurd q (by decide), fun q => absurd q h1⟩
    · rename_i h1 h2; exact ⟨fun q => absurd q (by decide), fun q => absurd q h1⟩
theorem own_eq (x y : Int64) : lcmpW x y = 0 ↔ x = y := by
  rw [own_lc]; split
  · rename_i h; exact ⟨fun q => absurd q (by decide), fun q => absurd (q ▸ h) Int64.lt_irrefl⟩
  · split
    · rename_i h1 h2; exact ⟨fun _ => h2, fun _ => rfl⟩
    · rename_i h1 h2; exact ⟨fun q => absurd q (by decide), fun q => absurd q h2⟩
theorem d1_0 : decode prog_2_method_1_code 0 = .ok (.aload_n 0, 1) := by decide +kernel
theorem d1_1 : decode prog_2_method_1_code 1 = .ok (.invokespecial 1, 3) := by decide +kernel
theorem d1_4 : decode prog_2_method_1_code 4 = .ok (.aload_n 0, 1) := by decide +kernel
theorem d1_5 : decode prog_2_method_1_code 5 = .ok (.iconst 4, 1) := by decide +kernel
theorem d1_6 : decode prog_2_method_1_code 6 = .ok (.newarray .int, 2) := by decide +kernel
theorem d1_8 : decode prog_2_method_1_code 8 = .ok (.putfield 7, 3) := by decide +kernel
theorem d1_11 : decode prog_2_method_1_code 11 = .ok (.return_, 1) := by decide +kernel
theorem pn_1 : plainName "com/example/subsumer/subsumer/classification/IntList" = true := by first | (simp [plainName, overriddenIn]; done) | decide +kernel
theorem ef1 (m : MethodId) (x0 : Addr) : entryFrame m #[(.ref x0)] 1 = mkF m 0 #[.val (.ref x0)] [] := by first | (simp [entryFrame, mkF, argsToLocals, Value.category]; done) | rfl
abbrev rr1 : Room := { frames := 1, cells := 1, slots := 4, locals := 12 }
def Q1 (Z : State) (a0 : Addr) (h0 : Heap) (n0 : Nat) (v : Option Value) (h : Heap) (L : List Loc) : Prop := ∃ (x0 : Addr) (y0 : ClassId), v = none ∧ Fr n0 L ∧ Keep h0 h [a0] ∧ n0 ≤ x0 ∧ h0.size ≤ x0 ∧ Exa Z h a0 "com/example/subsumer/subsumer/classification/IntList" ∧ Fld Z h a0 "com/example/subsumer/subsumer/classification/IntList" "size" "I" (.int (0 : Int32)) ∧ Fld Z h a0 "com/example/subsumer/subsumer/classification/IntList" "items" "[I" (.ref x0) ∧ Arv Z h x0 y0 .int (4 : Int32) [(.int (0 : Int32)), (.int (0 : Int32)), (.int (0 : Int32)), (.int (0 : Int32))] (.int (0 : Int32))
set_option maxRecDepth 65536 in
set_option maxHeartbeats 40000000 in
theorem rm1 (l : Launch) (Z : State) (aw : Array Value) (hw : ∀ d ∈ tables_1, d.before aw Z = true) (ws : List Jvm.Cond) (a0 : Addr) (h0 : Heap) (n0 : Nat) (Z0 : n0 ≤ h0.size) (E_a0 : Exa Z h0 a0 "com/example/subsumer/subsumer/classification/IntList") (F_items_a0 : Fld Z h0 a0 "com/example/subsumer/subsumer/classification/IntList" "items" "[I" .null) (F_size_a0 : Fld Z h0 a0 "com/example/subsumer/subsumer/classification/IntList" "size" "I" (.int (0 : Int32))) (g_a0 : n0 ≤ a0) :
    MetFree l (⟨"com/example/subsumer/subsumer/classification/IntList", "<init>", "()V"⟩ : MethodName) (head1 (Jvm.Cond.code (⟨"com/example/subsumer/subsumer/classification/IntList", "<init>", "()V"⟩ : MethodName) prog_2_method_1_code 1 none :: ws) rr1) (fun a U => a = #[(.ref a0)] ∧ Z.Warmed39 U.vm ∧ U.heap = h0) (fun _ _ _ _ _ => True) (fun _ U o U' => ∃ v L, o = .returned v ∧ Q1 Z a0 h0 n0 v U'.heap L ∧ FrameEnd U o U' L rr1.cells rr1.slots) := by
  refine MetFree.of_bodySF (plainFor_of_name pn_1) hisR ?_
  intro p e s m args below meth c s₁ Bd hml0 hP hK
  obtain ⟨rfl, hZ, hh⟩ := hP
  have hx := Bd.exec
  have hby := Bd.bytes
  have hml : c.maxLocals = 1 := hml0
  have hown : s.vm.findClass "com/example/subsumer/subsumer/classification/IntList" = some m.cls := findClass_of_methodNamed Bd.named
  have hnm := (name_of_methodNamed Bd.named Bd.method).1
  have X0 : Stand p l e rr1 s m #[(.ref a0)] below meth c s₁ [] 0 0 := Stand.of_body Bd
  have e0 : s₁.heap = h0 := by rw [← hh, Bd.state]; rfl
  have N0 := Fr.nil n0
  have K0 := Keep.refl h0 [a0]
  have pre0 : ∀ t, Steps p.tables e below (s₁.setTop (mkF m 0 #[.val (.ref a0)] [])) t → Steps p.tables e below (s₁.setTop (entryFrame m #[(.ref a0)] 1)) t := fun t k => castTop (ef1 m a0) k
  obtain ⟨T1, X1, e1, st1⟩ := initO X0 hx hZ hown (hw _ (List.mem_of_getElem? (i := 6) rfl)) (hw _ (List.mem_of_getElem? (i := 7) rfl)) (hw _ (List.mem_of_getElem? (i := 8) rfl)) e0 (g := (mkF m 1 #[.val (.ref a0)] [(.ref a0)])) rfl (by rw [hml]; rfl) rfl (hb hby d1_1) (by decide) (W := 0) (by show 2 * 0 + _ ≤ _; exact Nat.le_of_eq rfl) (by decide)
  obtain ⟨T2, h2, k2, X2, e2, E2, A2, st2⟩ := newP X1 hx hZ (hw _ (List.mem_of_getElem? (i := 9) rfl)) e1 (g := (mkF m 6 #[.val (.ref a0)] [(.int (4 : Int32)), (.ref a0)])) rfl (hb hby d1_6) rfl (by decide) (cap := 4) (by decide) (by decide) (by decide) (by decide)
  obtain ⟨b2, gg2⟩ : ∃ z, z = h0.size := ⟨_, rfl⟩
  rw [← gg2] at A2 st2
  have f3 := E_a0.ext E2
  have f4 := F_items_a0.ext E2
  have f5 := F_size_a0.ext E2
  have ne6 : a0 ≠ b2 := Nat.ne_of_lt (Nat.lt_of_lt_of_le E_a0.lt (Nat.le_of_eq gg2.symm))
  have g_b2 : n0 ≤ b2 := Nat.le_trans Z0 (Nat.le_of_eq gg2.symm)
  have sz_b2 : h0.size ≤ b2 := Nat.le_trans K0.1 (Nat.le_of_eq gg2.symm)
  have K7 := K0.ext E2
  have Z8 := Nat.le_trans Z0 E2.1
  have V2 : Arv Z h2 b2 k2 .int (4 : Int32) [(.int (0 : Int32)), (.int (0 : Int32)), (.int (0 : Int32)), (.int (0 : Int32))] (.int (0 : Int32)) := (Arv.new A2 (by decide)).pad (pad_rep [] (.int (0 : Int32)) 4)
  obtain ⟨T9, h9, X9, e9, W9, st9⟩ := putF X2 hx hZ hown (host := "") (Or.inl (hw _ (List.mem_of_getElem? (i := 10) rfl))) Via.refl e2 f4 f3 (Or.inl (hw _ (List.mem_of_getElem? (i := 11) rfl))) (hw _ (List.mem_of_getElem? (i := 1) rfl)) (ty := (.array .int)) (by decide) rfl rfl (g := (mkF m 8 #[.val (.ref a0)] [(.ref b2), (.ref a0)])) rfl rfl (hb hby d1_8)
  have f9w : Fld Z h9 a0 "com/example/subsumer/subsumer/classification/IntList" "items" "[I" (.ref b2) := f4.same W9
  have f10 := f3.wr W9
  have f12 := f5.other W9 (Or.inr (slot_ne (Or.inl (hw _ (List.mem_of_getElem? (i := 18) rfl))) (Or.inl (hw _ (List.mem_of_getElem? (i := 11) rfl))) (by decide) (t := .int) (t' := (.array .int)) (by decide) (by decide)))
  have f13 := V2.other W9 (Ne.symm ne6)
  have K14 := K7.wr W9 (Or.inl (List.mem_of_getElem? (i := 0) rfl))
  have Z15 := Nat.le_trans Z8 (Keep.of_wr W9).1
  have N16 := Fr.snoc X9 N0 g_a0
  obtain ⟨fs, hr, hrun, hended, hW, hsame⟩ := X9.leave (v := none) (fun _ => rfl)
  refine ⟨_, _, pre0 _ ?_, hrun, hended, _, _, rfl, ?_, ⟨_, rfl⟩, hW, hsame.mono (by decide) (by decide)⟩
  · skip
    show Steps p.tables e below (s₁.setTop (mkF m 0 #[.val (.ref a0)] [])) _
    refine XS.aloadN X0.here hx rfl (hb hby d1_0) rfl rfl ?_
    show Steps p.tables e below (s₁.setTop (mkF m 1 #[.val (.ref a0)] [(.ref a0)])) _
    refine st1 _ ?_
    show Steps p.tables e below (T1.setTop (mkF m 4 #[.val (.ref a0)] [])) _
    refine XS.aloadN X1.here hx rfl (hb hby d1_4) rfl rfl ?_
    show Steps p.tables e below (T1.setTop (mkF m 5 #[.val (.ref a0)] [(.ref a0)])) _
    refine XS.iconst X1.here hx rfl (hb hby d1_5) ?_
    show Steps p.tables e below (T1.setTop (mkF m 6 #[.val (.ref a0)] [(.int (4 : Int32)), (.ref a0)])) _
    refine st2 _ ?_
    show Steps p.tables e below (T2.setTop (mkF m 8 #[.val (.ref a0)] [(.ref b2), (.ref a0)])) _
    refine st9 _ ?_
    show Steps p.tables e below (T9.setTop (mkF m 11 #[.val (.ref a0)] [])) _
    exact X9.returnOut hx Bd.returns (hb hby d1_11) hr
  · show Q1 Z a0 h0 n0 _ T9.heap _
    rw [e9]
    exact ⟨b2, k2, rfl, N16, K14, g_b2, sz_b2, f10, f12, f9w, f13⟩
theorem d6_0 : decode jdk_29_method_69_code 0 = .ok (.iload_n 0, 1) := by decide +kernel
theorem d6_1 : decode jdk_29_method_69_code 1 = .ok (.iload_n 1, 1) := by decide +kernel
theorem d6_2 : decode jdk_29_method_69_code 2 = .ok (.if_icmp .gt 7, 3) := by decide +kernel
theorem d6_5 : decode jdk_29_method_69_code 5 = .ok (.iload_n 0, 1) := by decide +kernel
theorem d6_6 : decode jdk_29_method_69_code 6 = .ok (.goto 4, 3) := by decide +kernel
theorem d6_10 : decode jdk_29_method_69_code 10 = .ok (.ireturn, 1) := by decide +kernel
theorem ef6l (m : MethodId) (x0 : Int32) (x1 : Int32) : entryFrame m #[(.int x0), (.int x1)] 2 = mkF m 0 #[.val (.int x0), .val (.int x1)] [] := by first | (simp [entryFrame, mkF, argsToLocals, Value.category]; done) | rfl
abbrev rr6l : Room := { frames := 0, cells := 0, slots := 0, locals := 0 }
def Q6l (Z : State) (p0 : Int32) (p1 : Int32) (h0 : Heap) (n0 : Nat) (v : Option Value) (h : Heap) (L : List Loc) : Prop := v = some (.int p0) ∧ Fr n0 L ∧ h = h0
set_option maxRecDepth 65536 in
set_option maxHeartbeats 40000000 in
theorem rm6l (l : Launch) (Z : State) (aw : Array Value) (hw : ∀ d ∈ tables_1, d.before aw Z = true) (ws : List Jvm.Cond) (p0 : Int32) (p1 : Int32) (h0 : Heap) (n0 : Nat) (Z0 : n0 ≤ h0.size) (hc : ¬ p1 < p0) :
    MetFree l (⟨"java/lang/Math", "min", "(II)I"⟩ : MethodName) (head1 (Jvm.Cond.code (⟨"java/lang/Math", "min", "(II)I"⟩ : MethodName) jdk_29_method_69_code 2 (some .int) :: ws) rr6l) (fun a U => a = #[(.int p0), (.int p1)] ∧ Z.Warmed39 U.vm ∧ U.heap = h0) (fun _ _ _ _ _ => True) (fun _ U o U' => ∃ v L, o = .returned v ∧ Q6l Z p0 p1 h0 n0 v U'.heap L ∧ FrameEnd U o U' L rr6l.cells rr6l.slots) := by
  refine MetFree.of_bodySF (Jvm.Free.JP.mathPlain rfl (by decide +kernel)) hisR ?_
  intro p e s m args below meth c s₁ Bd hml0 hP hK
  obtain ⟨rfl, hZ, hh⟩ := hP
  have hx := Bd.exec
  have hby := Bd.bytes
  have hml : c.maxLocals = 2 := hml0
  have hown : s.vm.findClass "java/lang/Math" = some m.cls := findClass_of_methodNamed Bd.named
  have hnm := (name_of_methodNamed Bd.named Bd.method).1
  have X0 : Stand p l e rr6l s m #[(.int p0), (.int p1)] below meth c s₁ [] 0 0 := Stand.of_body Bd
  have e0 : s₁.heap = h0 := by rw [← hh, Bd.state]; rfl
  have N0 := Fr.nil n0
  have pre0 : ∀ t, Steps p.tables e below (s₁.setTop (mkF m 0 #[.val (.int p0), .val (.int p1)] [])) t → Steps p.tables e below (s₁.setTop (entryFrame m #[(.int p0), (.int p1)] 2)) t := fun t k => castTop (ef6l m p0 p1) k
  obtain ⟨fs, hr, hrun, hended, hW, hsame⟩ := X0.leave (v := some (.int p0)) (fun h => by rw [Bd.returns] at h; cases h)
  refine ⟨_, _, pre0 _ ?_, hrun, hended, _, _, rfl, ?_, ⟨_, rfl⟩, hW, hsame.mono (by decide) (by decide)⟩
  · skip
    show Steps p.tables e below (s₁.setTop (mkF m 0 #[.val (.int p0), .val (.int p1)] [])) _
    refine XS.iloadN X0.here hx rfl (hb hby d6_0) rfl ?_
    show Steps p.tables e below (s₁.setTop (mkF m 1 #[.val (.int p0), .val (.int p1)] [(.int p0)])) _
    refine XS.iloadN X0.here hx rfl (hb hby d6_1) rfl ?_
    show Steps p.tables e below (s₁.setTop (mkF m 2 #[.val (.int p0), .val (.int p1)] [(.int p1), (.int p0)])) _
    refine XS.icmpNo X0.here hx rfl (hb hby d6_2) rfl (flt hc).2.2.1 ?_
    show Steps p.tables e below (s₁.setTop (mkF m 5 #[.val (.int p0), .val (.int p1)] [])) _
    refine XS.iloadN X0.here hx rfl (hb hby d6_5) rfl ?_
    show Steps p.tables e below (s₁.setTop (mkF m 6 #[.val (.int p0), .val (.int p1)] [(.int p0)])) _
    refine XS.goto X0.here hx rfl (pc0 := 6) (pc' := 10) rfl (hb hby d6_6) (by decide) (by decide) ?_
    show Steps p.tables e below (s₁.setTop (mkF m 10 #[.val (.int p0), .val (.int p1)] [(.int p0)])) _
    exact retOut X0 hx Bd.returns rfl (Or.inl ⟨rfl, Or.inl rfl, _, rfl⟩) (hb hby d6_10) hr
  · show Q6l Z p0 p1 h0 n0 _ s₁.heap _
    rw [e0]
    exact ⟨rfl, N0, rfl⟩
theorem d5_0 : decode jdk_65_method_123_code 0 = .ok (.iload_n 1, 1) := by decide +kernel
theorem d5_1 : decode jdk_65_method_123_code 1 = .ok (.aload_n 0, 1) := by decide +kernel
theorem d5_2 : decode jdk_65_method_123_code 2 = .ok (.arraylength, 1) := by decide +kernel
theorem d5_3 : decode jdk_65_method_123_code 3 = .ok (.if_icmp .ne 11, 3) := by decide +kernel
theorem d5_14 : decode jdk_65_method_123_code 14 = .ok (.iload_n 1, 1) := by decide +kernel
theorem d5_15 : decode jdk_65_method_123_code 15 = .ok (.newarray .int, 2) := by decide +kernel
theorem d5_17 : decode jdk_65_method_123_code 17 = .ok (.astore_n 2, 1) := by decide +kernel
theorem d5_18 : decode jdk_65_method_123_code 18 = .ok (.aload_n 0, 1) := by decide +kernel
theorem d5_19 : decode jdk_65_method_123_code 19 = .ok (.iconst 0, 1) := by decide +kernel
theorem d5_20 : decode jdk_65_method_123_code 20 = .ok (.aload_n 2, 1) := by decide +kernel
theorem d5_21 : decode jdk_65_method_123_code 21 = .ok (.iconst 0, 1) := by decide +kernel
theorem d5_22 : decode jdk_65_method_123_code 22 = .ok (.aload_n 0, 1) := by decide +kernel
theorem d5_23 : decode jdk_65_method_123_code 23 = .ok (.arraylength, 1) := by decide +kernel
theorem d5_24 : decode jdk_65_method_123_code 24 = .ok (.iload_n 1, 1) := by decide +kernel
theorem pd_1 : parseMethodDescriptor "(II)I" = some ⟨[.int, .int], some .int⟩ := by decide +kernel
theorem d5_25 : decode jdk_65_method_123_code 25 = .ok (.invokestatic 304, 3) := by decide +kernel
theorem d5_28 : decode jdk_65_method_123_code 28 = .ok (.invokestatic 150, 3) := by decide +kernel
theorem d5_31 : decode jdk_65_method_123_code 31 = .ok (.aload_n 2, 1) := by decide +kernel
theorem d5_32 : decode jdk_65_method_123_code 32 = .ok (.areturn, 1) := by decide +kernel
theorem pn_2 : plainName "java/util/Arrays" = true := by first | (simp [plainName, overriddenIn]; done) | decide +kernel
theorem ef5 (m : MethodId) (x0 : Addr) (x1 : Int32) : entryFrame m #[(.ref x0), (.int x1)] 3 = mkF m 0 #[.val (.ref x0), .val (.int x1), .unset] [] := by first | (simp [entryFrame, mkF, argsToLocals, Value.category]; done) | rfl
abbrev rr5 : Room := { frames := 1, cells := 1, slots := 8, locals := 18 }
def Q5 (Z : State) (a0 : Addr) (u0 : Int32) (u1 : Int32) (u2 : Int32) (u3 : Int32) (k_a0 : ClassId) (h0 : Heap) (n0 : Nat) (v : Option Value) (h : Heap) (L : List Loc) : Prop := ∃ (x0 : Addr) (y0 : ClassId), v = some (.ref x0) ∧ Fr n0 L ∧ Keep h0 h [] ∧ n0 ≤ x0 ∧ h0.size ≤ x0 ∧ Arv Z h x0 y0 .int (8 : Int32) [(.int u0), (.int u1), (.int u2), (.int u3), (.int (0 : Int32)), (.int (0 : Int32)), (.int (0 : Int32)), (.int (0 : Int32))] (.int (0 : Int32))
set_option maxRecDepth 65536 in
set_option maxHeartbeats 40000000 in
theorem rm5 (l : Launch) (Z : State) (aw : Array Value) (hw : ∀ d ∈ tables_1, d.before aw Z = true) (ws : List Jvm.Cond) (a0 : Addr) (u0 : Int32) (u1 : Int32) (u2 : Int32) (u3 : Int32) (k_a0 : ClassId) (h0 : Heap) (n0 : Nat) (Z0 : n0 ≤ h0.size) (V_a0 : Arv Z h0 a0 k_a0 .int (4 : Int32) [(.int u0), (.int u1), (.int u2), (.int u3)] (.int (0 : Int32))) :
    MetFree l (⟨"java/util/Arrays", "copyOf", "([II)[I"⟩ : MethodName) (head1 (Jvm.Cond.code (⟨"java/util/Arrays", "copyOf", "([II)[I"⟩ : MethodName) jdk_65_method_123_code 3 (some (.array .int)) :: ws) rr5) (fun a U => a = #[(.ref a0), (.int (8 : Int32))] ∧ Z.Warmed39 U.vm ∧ U.heap = h0) (fun _ _ _ _ _ => True) (fun _ U o U' => ∃ v L, o = .returned v ∧ Q5 Z a0 u0 u1 u2 u3 k_a0 h0 n0 v U'.heap L ∧ FrameEnd U o U' L rr5.cells rr5.slots) := by
  refine MetFree.of_bodySF (plainFor_of_name pn_2) hisR ?_
  intro p e s m args below meth c s₁ Bd hml0 hP hK
  obtain ⟨rfl, hZ, hh⟩ := hP
  have hx := Bd.exec
  have hby := Bd.bytes
  have hml : c.maxLocals = 3 := hml0
  have hown : s.vm.findClass "java/util/Arrays" = some m.cls := findClass_of_methodNamed Bd.named
  have hnm := (name_of_methodNamed Bd.named Bd.method).1
  have X0 : Stand p l e rr5 s m #[(.ref a0), (.int (8 : Int32))] below meth c s₁ [] 0 0 := Stand.of_body Bd
  have e0 : s₁.heap = h0 := by rw [← hh, Bd.state]; rfl
  have N0 := Fr.nil n0
  have K0 := Keep.refl h0 []
  have pre0 : ∀ t, Steps p.tables e below (s₁.setTop (mkF m 0 #[.val (.ref a0), .val (.int (8 : Int32)), .unset] [])) t → Steps p.tables e below (s₁.setTop (entryFrame m #[(.ref a0), (.int (8 : Int32))] 3)) t := fun t k => castTop (ef5 m a0 (8 : Int32)) k
  obtain ⟨cl17, Ar17, q17, S17, M17, H17, G17⟩ := id V_a0
  obtain ⟨T18, h18, k18, X18, e18, E18, A18, st18⟩ := newP X0 hx hZ (hw _ (List.mem_of_getElem? (i := 9) rfl)) e0 (g := (mkF m 15 #[.val (.ref a0), .val (.int (8 : Int32)), .unset] [(.int (8 : Int32))])) rfl (hb hby d5_15) rfl (by decide) (cap := 8) (by decide) (by decide) (by decide) (by decide)
  obtain ⟨b18, gg18⟩ : ∃ z, z = h0.size := ⟨_, rfl⟩
  rw [← gg18] at A18 st18
  have f19 := V_a0.ext E18
  have ne20 : a0 ≠ b18 := Nat.ne_of_lt (Nat.lt_of_lt_of_le V_a0.lt (Nat.le_of_eq gg18.symm))
  have g_b18 : n0 ≤ b18 := Nat.le_trans Z0 (Nat.le_of_eq gg18.symm)
  have sz_b18 : h0.size ≤ b18 := Nat.le_trans K0.1 (Nat.le_of_eq gg18.symm)
  have K21 := K0.ext E18
  have Z22 := Nat.le_trans Z0 E18.1
  have V18 : Arv Z h18 b18 k18 .int (8 : Int32) [(.int (0 : Int32)), (.int (0 : Int32)), (.int (0 : Int32)), (.int (0 : Int32)), (.int (0 : Int32)), (.int (0 : Int32)), (.int (0 : Int32)), (.int (0 : Int32))] (.int (0 : Int32)) := (Arv.new A18 (by decide)).pad (pad_rep [] (.int (0 : Int32)) 8)
  obtain ⟨cl23, Ar23, q23, S23, M23, H23, G23⟩ := id f19
  obtain ⟨_, _, ⟨T24, L24, k24, n24⟩, -, X24, ⟨Lc24, hQ24, l24, y24, z24⟩, st24⟩ := Jvm.LawKit.callS X18 hx (y := (⟨"java/lang/Math", "min", "(II)I"⟩ : MethodName)) hown (mvT hZ (hw _ (List.mem_of_getElem? (i := 29) rfl))) (mvT hZ (hw _ (List.mem_of_getElem? (i := 30) rfl))) (mvT hZ (hw _ (List.mem_of_getElem? (i := 31) rfl))) (mvT hZ (hw _ (List.mem_of_getElem? (i := 32) rfl))) (by decide) (backOf (W := 4) (rm6l l Z aw hw [] ((4 : Int32)) ((8 : Int32)) h18 n0 Z22 (by decide)) hZ (hw _ (List.mem_of_getElem? (i := 32) rfl)) (hw _ (List.mem_of_getElem? (i := 31) rfl)) (by decide) (by decide)) (g := (mkF m 25 #[.val (.ref a0), .val (.int (8 : Int32)), .val (.ref b18)] [(.int (8 : Int32)), (.int (4 : Int32)), (.int (0 : Int32)), (.ref b18), (.int (0 : Int32)), (.ref a0)])) rfl (by rw [hml]; rfl) (argsL := [(.int (4 : Int32)), (.int (8 : Int32))]) (rest := [(.int (0 : Int32)), (.ref b18), (.int (0 : Int32)), (.ref a0)]) (lenOf pd_1 rfl) rfl (by show 2 * 0 + _ ≤ _; exact Nat.le_of_eq rfl) (hb hby d5_25) (fun _ _ => ⟨rfl, e18, (by decide : 1 + 0 ≤ _), (by decide : 8 + 0 ≤ _)⟩)
  dsimp only [Pt.U, Pt.locs, Pt.cells, Pt.slots] at X24 l24 y24 z24 st24 hQ24
  subst l24 y24 z24
  obtain ⟨rfl, N24q, e24⟩ := hQ24
  have N24 := Fr.app N0 N24q
  obtain ⟨T25, h25, L25, X25, e25, N25, K25q, V25, st25⟩ := cpA X24 hx hZ hown (hw _ (List.mem_of_getElem? (i := 33) rfl)) (hw _ (List.mem_of_getElem? (i := 36) rfl)) (hw _ (List.mem_of_getElem? (i := 34) rfl)) (hw _ (List.mem_of_getElem? (i := 35) rfl)) e24 (sp := (0 : Int32)) (dp := (0 : Int32)) (nn := (4 : Int32)) (us := [(.int u0), (.int u1), (.int u2), (.int u3)]) f19 V18 (Or.inl ⟨rfl, rfl⟩) (by decide) (by decide) (by decide) (by decide) (by decide) (by rfl) (by decide) N24 g_b18 (g := (mkF m 28 #[.val (.ref a0), .val (.int (8 : Int32)), .val (.ref b18)] [(.int (4 : Int32)), (.int (0 : Int32)), (.ref b18), (.int (0 : Int32)), (.ref a0)])) rfl (by rw [hml]; rfl) rfl (hb hby d5_28) (by decide) (W := 0) (by show 2 * 0 + _ ≤ _; exact Nat.le_of_eq rfl) (by decide)
  have f26 := f19.keep K25q (ninS ne20 nin0)
  have V25x : Arv Z h25 b18 k18 .int (8 : Int32) [(.int u0), (.int u1), (.int u2), (.int u3), (.int (0 : Int32)), (.int (0 : Int32)), (.int (0 : Int32)), (.int (0 : Int32))] (.int (0 : Int32)) := V25
  have K25 := K21.trans K25q (allS (Or.inr sz_b18) all0)
  have Z25 := Nat.le_trans Z22 K25q.1
  obtain ⟨fs, hr, hrun, hended, hW, hsame⟩ := X25.leave (v := some (.ref b18)) (fun h => by rw [Bd.returns] at h; cases h)
  refine ⟨_, _, pre0 _ ?_, hrun, hended, _, _, rfl, ?_, ⟨_, rfl⟩, hW, hsame.mono (by decide) (by decide)⟩
  · skip
    show Steps p.tables e below (s₁.setTop (mkF m 0 #[.val (.ref a0), .val (.int (8 : Int32)), .unset] [])) _
    refine XS.iloadN X0.here hx rfl (hb hby d5_0) rfl ?_
    show Steps p.tables e below (s₁.setTop (mkF m 1 #[.val (.ref a0), .val (.int (8 : Int32)), .unset] [(.int (8 : Int32))])) _
    refine XS.aloadN X0.here hx rfl (hb hby d5_1) rfl rfl ?_
    show Steps p.tables e below (s₁.setTop (mkF m 2 #[.val (.ref a0), .val (.int (8 : Int32)), .unset] [(.ref a0), (.int (8 : Int32))])) _
    refine X0.arraylength hx (by rw [e0]; exact Ar17.1) (State.isArrayOf_alike hZ.alike Ar17.2.1) (g := (mkF m 2 #[.val (.ref a0), .val (.int (8 : Int32)), .unset] [(.ref a0), (.int (8 : Int32))])) rfl rfl (hb hby d5_2) _ ?_
    rw [len_of S17 M17]
    show Steps p.tables e below (s₁.setTop (mkF m 3 #[.val (.ref a0), .val (.int (8 : Int32)), .unset] [(.int (4 : Int32)), (.int (8 : Int32))])) _
    refine XS.icmpYes X0.here hx rfl (pc0 := 3) (pc' := 14) rfl (hb hby d5_3) rfl (feq (by decide : ¬ ((8 : Int32) = (4 : Int32)))).2 (by decide) (by decide) ?_
    show Steps p.tables e below (s₁.setTop (mkF m 14 #[.val (.ref a0), .val (.int (8 : Int32)), .unset] [])) _
    refine XS.iloadN X0.here hx rfl (hb hby d5_14) rfl ?_
    show Steps p.tables e below (s₁.setTop (mkF m 15 #[.val (.ref a0), .val (.int (8 : Int32)), .unset] [(.int (8 : Int32))])) _
    refine st18 _ ?_
    show Steps p.tables e below (T18.setTop (mkF m 17 #[.val (.ref a0), .val (.int (8 : Int32)), .unset] [(.ref b18)])) _
    refine XS.astoreN X18.here hx rfl (hb hby d5_17) rfl rfl (l' := #[.val (.ref a0), .val (.int (8 : Int32)), .val (.ref b18)]) rfl ?_
    show Steps p.tables e below (T18.setTop (mkF m 18 #[.val (.ref a0), .val (.int (8 : Int32)), .val (.ref b18)] [])) _
    refine XS.aloadN X18.here hx rfl (hb hby d5_18) rfl rfl ?_
    show Steps p.tables e below (T18.setTop (mkF m 19 #[.val (.ref a0), .val (.int (8 : Int32)), .val (.ref b18)] [(.ref a0)])) _
    refine XS.iconst X18.here hx rfl (hb hby d5_19) ?_
    show Steps p.tables e below (T18.setTop (mkF m 20 #[.val (.ref a0), .val (.int (8 : Int32)), .val (.ref b18)] [(.int (0 : Int32)), (.ref a0)])) _
    refine XS.aloadN X18.here hx rfl (hb hby d5_20) rfl rfl ?_
    show Steps p.tables e below (T18.setTop (mkF m 21 #[.val (.ref a0), .val (.int (8 : Int32)), .val (.ref b18)] [(.ref b18), (.int (0 : Int32)), (.ref a0)])) _
    refine XS.iconst X18.here hx rfl (hb hby d5_21) ?_
    show Steps p.tables e below (T18.setTop (mkF m 22 #[.val (.ref a0), .val (.int (8 : Int32)), .val (.ref b18)] [(.int (0 : Int32)), (.ref b18), (.int (0 : Int32)), (.ref a0)])) _
    refine XS.aloadN X18.here hx rfl (hb hby d5_22) rfl rfl ?_
    show Steps p.tables e below (T18.setTop (mkF m 23 #[.val (.ref a0), .val (.int (8 : Int32)), .val (.ref b18)] [(.ref a0), (.int (0 : Int32)), (.ref b18), (.int (0 : Int32)), (.ref a0)])) _
    refine X18.arraylength hx (by rw [e18]; exact Ar23.1) (State.isArrayOf_alike hZ.alike Ar23.2.1) (g := (mkF m 23 #[.val (.ref a0), .val (.int (8 : Int32)), .val (.ref b18)] [(.ref a0), (.int (0 : Int32)), (.ref b18), (.int (0 : Int32)), (.ref a0)])) rfl rfl (hb hby d5_23) _ ?_
    rw [len_of S23 M23]
    show Steps p.tables e below (T18.setTop (mkF m 24 #[.val (.ref a0), .val (.int (8 : Int32)), .val (.ref b18)] [(.int (4 : Int32)), (.int (0 : Int32)), (.ref b18), (.int (0 : Int32)), (.ref a0)])) _
    refine XS.iloadN X18.here hx rfl (hb hby d5_24) rfl ?_
    show Steps p.tables e below (T18.setTop (mkF m 25 #[.val (.ref a0), .val (.int (8 : Int32)), .val (.ref b18)] [(.int (8 : Int32)), (.int (4 : Int32)), (.int (0 : Int32)), (.ref b18), (.int (0 : Int32)), (.ref a0)])) _
    refine st24 _ ?_
    show Steps p.tables e below (T24.setTop (mkF m 28 #[.val (.ref a0), .val (.int (8 : Int32)), .val (.ref b18)] [(.int (4 : Int32)), (.int (0 : Int32)), (.ref b18), (.int (0 : Int32)), (.ref a0)])) _
    refine st25 _ ?_
    show Steps p.tables e below (T25.setTop (mkF m 31 #[.val (.ref a0), .val (.int (8 : Int32)), .val (.ref b18)] [])) _
    refine XS.aloadN X25.here hx rfl (hb hby d5_31) rfl rfl ?_
    show Steps p.tables e below (T25.setTop (mkF m 32 #[.val (.ref a0), .val (.int (8 : Int32)), .val (.ref b18)] [(.ref b18)])) _
    exact retOut X25 hx Bd.returns rfl (Or.inr (Or.inr (Or.inr (Or.inr ⟨rfl, rfl, rfl⟩)))) (hb hby d5_32) hr
  · show Q5 Z a0 u0 u1 u2 u3 k_a0 h0 n0 _ T25.heap _
    rw [e25]
    exact ⟨b18, k18, rfl, N25, K25, g_b18, sz_b18, V25x⟩
theorem d3_0 : decode prog_2_method_2_code 0 = .ok (.aload_n 0, 1) := by decide +kernel
theorem d3_1 : decode prog_2_method_2_code 1 = .ok (.getfield 13, 3) := by decide +kernel
theorem d3_4 : decode prog_2_method_2_code 4 = .ok (.aload_n 0, 1) := by decide +kernel
theorem d3_5 : decode prog_2_method_2_code 5 = .ok (.getfield 7, 3) := by decide +kernel
theorem d3_8 : decode prog_2_method_2_code 8 = .ok (.arraylength, 1) := by decide +kernel
theorem d3_9 : decode prog_2_method_2_code 9 = .ok (.if_icmp .ne 20, 3) := by decide +kernel
theorem d3_29 : decode prog_2_method_2_code 29 = .ok (.aload_n 0, 1) := by decide +kernel
theorem d3_30 : decode prog_2_method_2_code 30 = .ok (.getfield 7, 3) := by decide +kernel
theorem d3_33 : decode prog_2_method_2_code 33 = .ok (.aload_n 0, 1) := by decide +kernel
theorem d3_34 : decode prog_2_method_2_code 34 = .ok (.dup, 1) := by decide +kernel
theorem d3_35 : decode prog_2_method_2_code 35 = .ok (.getfield 13, 3) := by decide +kernel
theorem d3_38 : decode prog_2_method_2_code 38 = .ok (.dup_x1, 1) := by decide +kernel
theorem d3_39 : decode prog_2_method_2_code 39 = .ok (.iconst 1, 1) := by decide +kernel
theorem d3_40 : decode prog_2_method_2_code 40 = .ok (.iadd, 1) := by decide +kernel
theorem d3_41 : decode prog_2_method_2_code 41 = .ok (.putfield 13, 3) := by decide +kernel
theorem d3_44 : decode prog_2_method_2_code 44 = .ok (.iload_n 1, 1) := by decide +kernel
theorem d3_45 : decode prog_2_method_2_code 45 = .ok (.iastore, 1) := by decide +kernel
theorem d3_46 : decode prog_2_method_2_code 46 = .ok (.return_, 1) := by decide +kernel
theorem ef3_4_0 (m : MethodId) (x0 : Addr) (x1 : Int32) : entryFrame m #[(.ref x0), (.int x1)] 2 = mkF m 0 #[.val (.ref x0), .val (.int x1)] [] := by first | (simp [entryFrame, mkF, argsToLocals, Value.category]; done) | rfl
abbrev rr3_4_0 : Room := { frames := 0, cells := 0, slots := 0, locals := 0 }
def Q3_4_0 (Z : State) (a0 : Addr) (p1 : Int32) (bb : Addr) (u0 : Int32) (u1 : Int32) (u2 : Int32) (u3 : Int32) (k_bb : ClassId) (h0 : Heap) (n0 : Nat) (v : Option Value) (h : Heap) (L : List Loc) : Prop := v = none ∧ Fr n0 L ∧ Keep h0 h [a0, bb] ∧ Exa Z h a0 "com/example/subsumer/subsumer/classification/IntList" ∧ Fld Z h a0 "com/example/subsumer/subsumer/classification/IntList" "size" "I" (.int (1 : Int32)) ∧ Fld Z h a0 "com/example/subsumer/subsumer/classification/IntList" "items" "[I" (.ref bb) ∧ Arv Z h bb k_bb .int (4 : Int32) [(.int p1), (.int u1), (.int u2), (.int u3)] (.int (0 : Int32))
set_option maxRecDepth 65536 in
set_option maxHeartbeats 40000000 in
theorem rm3_4_0 (l : Launch) (Z : State) (aw : Array Value) (hw : ∀ d ∈ tables_1, d.before aw Z = true) (ws : List Jvm.Cond) (a0 : Addr) (p1 : Int32) (bb : Addr) (u0 : Int32) (u1 : Int32) (u2 : Int32) (u3 : Int32) (k_bb : ClassId) (h0 : Heap) (n0 : Nat) (Z0 : n0 ≤ h0.size) (E_a0 : Exa Z h0 a0 "com/example/subsumer/subsumer/classification/IntList") (F_items_a0 : Fld Z h0 a0 "com/example/subsumer/subsumer/classification/IntList" "items" "[I" (.ref bb)) (F_size_a0 : Fld Z h0 a0 "com/example/subsumer/subsumer/classification/IntList" "size" "I" (.int (0 : Int32))) (V_bb : Arv Z h0 bb k_bb .int (4 : Int32) [(.int u0), (.int u1), (.int u2), (.int u3)] (.int (0 : Int32))) (g_a0 : n0 ≤ a0) (g_bb : n0 ≤ bb) (ne_a0_bb : a0 ≠ bb) :
    MetFree l (⟨"com/example/subsumer/subsumer/classification/IntList", "add", "(I)V"⟩ : MethodName) (head1 (Jvm.Cond.code (⟨"com/example/subsumer/subsumer/classification/IntList", "add", "(I)V"⟩ : MethodName) prog_2_method_2_code 2 none :: ws) rr3_4_0) (fun a U => a = #[(.ref a0), (.int p1)] ∧ Z.Warmed39 U.vm ∧ U.heap = h0) (fun _ _ _ _ _ => True) (fun _ U o U' => ∃ v L, o = .returned v ∧ Q3_4_0 Z a0 p1 bb u0 u1 u2 u3 k_bb h0 n0 v U'.heap L ∧ FrameEnd U o U' L rr3_4_0.cells rr3_4_0.slots) := by
  refine MetFree.of_bodySF (plainFor_of_name pn_1) hisR ?_
  intro p e s m args below meth c s₁ Bd hml0 hP hK
  obtain ⟨rfl, hZ, hh⟩ := hP
  have hx := Bd.exec
  have hby := Bd.bytes
  have hml : c.maxLocals = 2 := hml0
  have hown : s.vm.findClass "com/example/subsumer/subsumer/classification/IntList" = some m.cls := findClass_of_methodNamed Bd.named
  have hnm := (name_of_methodNamed Bd.named Bd.method).1
  have X0 : Stand p l e rr3_4_0 s m #[(.ref a0), (.int p1)] below meth c s₁ [] 0 0 := Stand.of_body Bd
  have e0 : s₁.heap = h0 := by rw [← hh, Bd.state]; rfl
  have N0 := Fr.nil n0
  have K0 := Keep.refl h0 [a0, bb]
  have pre0 : ∀ t, Steps p.tables e below (s₁.setTop (mkF m 0 #[.val (.ref a0), .val (.int p1)] [])) t → Steps p.tables e below (s₁.setTop (entryFrame m #[(.ref a0), (.int p1)] 2)) t := fun t k => castTop (ef3_4_0 m a0 p1) k
  obtain ⟨T28, X28, e28, st28⟩ := getF X0 hx hZ hown (host := "") (Or.inl (hw _ (List.mem_of_getElem? (i := 17) rfl))) Via.refl e0 F_size_a0 (g := (mkF m 1 #[.val (.ref a0), .val (.int p1)] [(.ref a0)])) rfl rfl (hb hby d3_1)
  obtain ⟨T29, X29, e29, st29⟩ := getF X28 hx hZ hown (host := "") (Or.inl (hw _ (List.mem_of_getElem? (i := 10) rfl))) Via.refl e28 F_items_a0 (g := (mkF m 5 #[.val (.ref a0), .val (.int p1)] [(.ref a0), (.int (0 : Int32))])) rfl rfl (hb hby d3_5)
  obtain ⟨cl30, Ar30, q30, S30, M30, H30, G30⟩ := id V_bb
  obtain ⟨T31, X31, e31, st31⟩ := getF X29 hx hZ hown (host := "") (Or.inl (hw _ (List.mem_of_getElem? (i := 10) rfl))) Via.refl e29 F_items_a0 (g := (mkF m 30 #[.val (.ref a0), .val (.int p1)] [(.ref a0)])) rfl rfl (hb hby d3_30)
  obtain ⟨T32, X32, e32, st32⟩ := getF X31 hx hZ hown (host := "") (Or.inl (hw _ (List.mem_of_getElem? (i := 17) rfl))) Via.refl e31 F_size_a0 (g := (mkF m 35 #[.val (.ref a0), .val (.int p1)] [(.ref a0), (.ref a0), (.ref bb)])) rfl rfl (hb hby d3_35)
  obtain ⟨T33, h33, X33, e33, W33, st33⟩ := putF X32 hx hZ hown (host := "") (Or.inl (hw _ (List.mem_of_getElem? (i := 17) rfl))) Via.refl e32 F_size_a0 E_a0 (Or.inl (hw _ (List.mem_of_getElem? (i := 18) rfl))) (hw _ (List.mem_of_getElem? (i := 1) rfl)) (ty := .int) (by decide) rfl rfl (g := (mkF m 41 #[.val (.ref a0), .val (.int p1)] [(.int (1 : Int32)), (.ref a0), (.int (0 : Int32)), (.ref bb)])) rfl rfl (hb hby d3_41)
  have f33w : Fld Z h33 a0 "com/example/subsumer/subsumer/classification/IntList" "size" "I" (.int (1 : Int32)) := F_size_a0.same W33
  have f34 := E_a0.wr W33
  have f35 := F_items_a0.other W33 (Or.inr (slot_ne (Or.inl (hw _ (List.mem_of_getElem? (i := 11) rfl))) (Or.inl (hw _ (List.mem_of_getElem? (i := 18) rfl))) (by decide) (t := (.array .int)) (t' := .int) (by decide) (by decide)))
  have f37 := V_bb.other W33 (Ne.symm ne_a0_bb)
  have K38 := K0.wr W33 (Or.inl (List.mem_of_getElem? (i := 0) rfl))
  have Z39 := Nat.le_trans Z0 (Keep.of_wr W33).1
  have N40 := Fr.snoc X33 N0 g_a0
  obtain ⟨cl41, Ar41, q41, S41, M41, H41, G41⟩ := id f37
  have hin42 : ¬ ((0 : Int32) < 0 ∨ cl41.slots.size ≤ ((0 : Int32)).toNatClampNeg) := inb_of S41 ⟨by decide, by decide⟩
  obtain ⟨T43, h43, X43, e43, W43, st43⟩ := stI X33 hx hZ e33 Ar41 (j := (0 : Int32)) hin42 (g := (mkF m 45 #[.val (.ref a0), .val (.int p1)] [(.int p1), (.int (0 : Int32)), (.ref bb)])) rfl rfl (hb hby d3_45)
  have V43 : Arv Z h43 bb k_bb .int (4 : Int32) [(.int p1), (.int u1), (.int u2), (.int u3)] (.int (0 : Int32)) := Arv.set Ar41 q41 S41 M41 H41 G41 rfl W43 0 rfl (Nat.le_of_ble_eq_true rfl)
  have f44 := f34.wr W43
  have f45 := f35.other W43 (Or.inl ne_a0_bb)
  have f46 := f33w.other W43 (Or.inl ne_a0_bb)
  have K48 := K38.wr W43 (Or.inl (List.mem_of_getElem? (i := 1) rfl))
  have Z49 := Nat.le_trans Z39 (Keep.of_wr W43).1
  have N50 := Fr.snoc X43 N40 g_bb
  obtain ⟨fs, hr, hrun, hended, hW, hsame⟩ := X43.leave (v := none) (fun _ => rfl)
  refine ⟨_, _, pre0 _ ?_, hrun, hended, _, _, rfl, ?_, ⟨_, rfl⟩, hW, hsame.mono (by decide) (by decide)⟩
  · skip
    show Steps p.tables e below (s₁.setTop (mkF m 0 #[.val (.ref a0), .val (.int p1)] [])) _
    refine XS.aloadN X0.here hx rfl (hb hby d3_0) rfl rfl ?_
    show Steps p.tables e below (s₁.setTop (mkF m 1 #[.val (.ref a0), .val (.int p1)] [(.ref a0)])) _
    refine st28 _ ?_
    show Steps p.tables e below (T28.setTop (mkF m 4 #[.val (.ref a0), .val (.int p1)] [(.int (0 : Int32))])) _
    refine XS.aloadN X28.here hx rfl (hb hby d3_4) rfl rfl ?_
    show Steps p.tables e below (T28.setTop (mkF m 5 #[.val (.ref a0), .val (.int p1)] [(.ref a0), (.int (0 : Int32))])) _
    refine st29 _ ?_
    show Steps p.tables e below (T29.setTop (mkF m 8 #[.val (.ref a0), .val (.int p1)] [(.ref bb), (.int (0 : Int32))])) _
    refine X29.arraylength hx (by rw [e29]; exact Ar30.1) (State.isArrayOf_alike hZ.alike Ar30.2.1) (g := (mkF m 8 #[.val (.ref a0), .val (.int p1)] [(.ref bb), (.int (0 : Int32))])) rfl rfl (hb hby d3_8) _ ?_
    rw [len_of S30 M30]
    show Steps p.tables e below (T29.setTop (mkF m 9 #[.val (.ref a0), .val (.int p1)] [(.int (4 : Int32)), (.int (0 : Int32))])) _
    refine XS.icmpYes X29.here hx rfl (pc0 := 9) (pc' := 29) rfl (hb hby d3_9) rfl (feq (by decide : ¬ ((0 : Int32) = (4 : Int32)))).2 (by decide) (by decide) ?_
    show Steps p.tables e below (T29.setTop (mkF m 29 #[.val (.ref a0), .val (.int p1)] [])) _
    refine XS.aloadN X29.here hx rfl (hb hby d3_29) rfl rfl ?_
    show Steps p.tables e below (T29.setTop (mkF m 30 #[.val (.ref a0), .val (.int p1)] [(.ref a0)])) _
    refine st31 _ ?_
    show Steps p.tables e below (T31.setTop (mkF m 33 #[.val (.ref a0), .val (.int p1)] [(.ref bb)])) _
    refine XS.aloadN X31.here hx rfl (hb hby d3_33) rfl rfl ?_
    show Steps p.tables e below (T31.setTop (mkF m 34 #[.val (.ref a0), .val (.int p1)] [(.ref a0), (.ref bb)])) _
    refine XS.dup X31.here hx rfl (hb hby d3_34) rfl rfl ?_
    show Steps p.tables e below (T31.setTop (mkF m 35 #[.val (.ref a0), .val (.int p1)] [(.ref a0), (.ref a0), (.ref bb)])) _
    refine st32 _ ?_
    show Steps p.tables e below (T32.setTop (mkF m 38 #[.val (.ref a0), .val (.int p1)] [(.int (0 : Int32)), (.ref a0), (.ref bb)])) _
    refine XS.dupX1 X32.here hx rfl (hb hby d3_38) rfl rfl rfl ?_
    show Steps p.tables e below (T32.setTop (mkF m 39 #[.val (.ref a0), .val (.int p1)] [(.int (0 : Int32)), (.ref a0), (.int (0 : Int32)), (.ref bb)])) _
    refine XS.iconst X32.here hx rfl (hb hby d3_39) ?_
    show Steps p.tables e below (T32.setTop (mkF m 40 #[.val (.ref a0), .val (.int p1)] [(.int (1 : Int32)), (.int (0 : Int32)), (.ref a0), (.int (0 : Int32)), (.ref bb)])) _
    refine XS.iadd X32.here hx rfl (hb hby d3_40) rfl ?_
    show Steps p.tables e below (T32.setTop (mkF m 41 #[.val (.ref a0), .val (.int p1)] [(.int (1 : Int32)), (.ref a0), (.int (0 : Int32)), (.ref bb)])) _
    refine st33 _ ?_
    show Steps p.tables e below (T33.setTop (mkF m 44 #[.val (.ref a0), .val (.int p1)] [(.int (0 : Int32)), (.ref bb)])) _
    refine XS.iloadN X33.here hx rfl (hb hby d3_44) rfl ?_
    show Steps p.tables e below (T33.setTop (mkF m 45 #[.val (.ref a0), .val (.int p1)] [(.int p1), (.int (0 : Int32)), (.ref bb)])) _
    refine st43 _ ?_
    show Steps p.tables e below (T43.setTop (mkF m 46 #[.val (.ref a0), .val (.int p1)] [])) _
    exact X43.returnOut hx Bd.returns (hb hby d3_46) hr
  · show Q3_4_0 Z a0 p1 bb u0 u1 u2 u3 k_bb h0 n0 _ T43.heap _
    rw [e43]
    exact ⟨rfl, N50, K48, f44, f46, f45, V43⟩
theorem ef3_4_1 (m : MethodId) (x0 : Addr) (x1 : Int32) : entryFrame m #[(.ref x0), (.int x1)] 2 = mkF m 0 #[.val (.ref x0), .val (.int x1)] [] := by first | (simp [entryFrame, mkF, argsToLocals, Value.category]; done) | rfl
abbrev rr3_4_1 : Room := { frames := 0, cells := 0, slots := 0, locals := 0 }
def Q3_4_1 (Z : State) (a0 : Addr) (p1 : Int32) (bb : Addr) (u0 : Int32) (u1 : Int32) (u2 : Int32) (u3 : Int32) (k_bb : ClassId) (h0 : Heap) (n0 : Nat) (v : Option Value) (h : Heap) (L : List Loc) : Prop := v = none ∧ Fr n0 L ∧ Keep h0 h [a0, bb] ∧ Exa Z h a0 "com/example/subsumer/subsumer/classification/IntList" ∧ Fld Z h a0 "com/example/subsumer/subsumer/classification/IntList" "size" "I" (.int (2 : Int32)) ∧ Fld Z h a0 "com/example/subsumer/subsumer/classification/IntList" "items" "[I" (.ref bb) ∧ Arv Z h bb k_bb .int (4 : Int32) [(.int u0), (.int p1), (.int u2), (.int u3)] (.int (0 : Int32))
set_option maxRecDepth 65536 in
set_option maxHeartbeats 40000000 in
theorem rm3_4_1 (l : Launch) (Z : State) (aw : Array Value) (hw : ∀ d ∈ tables_1, d.before aw Z = true) (ws : List Jvm.Cond) (a0 : Addr) (p1 : Int32) (bb : Addr) (u0 : Int32) (u1 : Int32) (u2 : Int32) (u3 : Int32) (k_bb : ClassId) (h0 : Heap) (n0 : Nat) (Z0 : n0 ≤ h0.size) (E_a0 : Exa Z h0 a0 "com/example/subsumer/subsumer/classification/IntList") (F_items_a0 : Fld Z h0 a0 "com/example/subsumer/subsumer/classification/IntList" "items" "[I" (.ref bb)) (F_size_a0 : Fld Z h0 a0 "com/example/subsumer/subsumer/classification/IntList" "size" "I" (.int (1 : Int32))) (V_bb : Arv Z h0 bb k_bb .int (4 : Int32) [(.int u0), (.int u1), (.int u2), (.int u3)] (.int (0 : Int32))) (g_a0 : n0 ≤ a0) (g_bb : n0 ≤ bb) (ne_a0_bb : a0 ≠ bb) :
    MetFree l (⟨"com/example/subsumer/subsumer/classification/IntList", "add", "(I)V"⟩ : MethodName) (head1 (Jvm.Cond.code (⟨"com/example/subsumer/subsumer/classification/IntList", "add", "(I)V"⟩ : MethodName) prog_2_method_2_code 2 none :: ws) rr3_4_1) (fun a U => a = #[(.ref a0), (.int p1)] ∧ Z.Warmed39 U.vm ∧ U.heap = h0) (fun _ _ _ _ _ => True) (fun _ U o U' => ∃ v L, o = .returned v ∧ Q3_4_1 Z a0 p1 bb u0 u1 u2 u3 k_bb h0 n0 v U'.heap L ∧ FrameEnd U o U' L rr3_4_1.cells rr3_4_1.slots) := by
  refine MetFree.of_bodySF (plainFor_of_name pn_1) hisR ?_
  intro p e s m args below meth c s₁ Bd hml0 hP hK
  obtain ⟨rfl, hZ, hh⟩ := hP
  have hx := Bd.exec
  have hby := Bd.bytes
  have hml : c.maxLocals = 2 := hml0
  have hown : s.vm.findClass "com/example/subsumer/subsumer/classification/IntList" = some m.cls := findClass_of_methodNamed Bd.named
  have hnm := (name_of_methodNamed Bd.named Bd.method).1
  have X0 : Stand p l e rr3_4_1 s m #[(.ref a0), (.int p1)] below meth c s₁ [] 0 0 := Stand.of_body Bd
  have e0 : s₁.heap = h0 := by rw [← hh, Bd.state]; rfl
  have N0 := Fr.nil n0
  have K0 := Keep.refl h0 [a0, bb]
  have pre0 : ∀ t, Steps p.tables e below (s₁.setTop (mkF m 0 #[.val (.ref a0), .val (.int p1)] [])) t → Steps p.tables e below (s₁.setTop (entryFrame m #[(.ref a0), (.int p1)] 2)) t := fun t k => castTop (ef3_4_1 m a0 p1) k
  obtain ⟨T51, X51, e51, st51⟩ := getF X0 hx hZ hown (host := "") (Or.inl (hw _ (List.mem_of_getElem? (i := 17) rfl))) Via.refl e0 F_size_a0 (g := (mkF m 1 #[.val (.ref a0), .val (.int p1)] [(.ref a0)])) rfl rfl (hb hby d3_1)
  obtain ⟨T52, X52, e52, st52⟩ := getF X51 hx hZ hown (host := "") (Or.inl (hw _ (List.mem_of_getElem? (i := 10) rfl))) Via.refl e51 F_items_a0 (g := (mkF m 5 #[.val (.ref a0), .val (.int p1)] [(.ref a0), (.int (1 : Int32))])) rfl rfl (hb hby d3_5)
  obtain ⟨cl53, Ar53, q53, S53, M53, H53, G53⟩ := id V_bb
  obtain ⟨T54, X54, e54, st54⟩ := getF X52 hx hZ hown (host := "") (Or.inl (hw _ (List.mem_of_getElem? (i := 10) rfl))) Via.refl e52 F_items_a0 (g := (mkF m 30 #[.val (.ref a0), .val (.int p1)] [(.ref a0)])) rfl rfl (hb hby d3_30)
  obtain ⟨T55, X55, e55, st55⟩ := getF X54 hx hZ hown (host := "") (Or.inl (hw _ (List.mem_of_getElem? (i := 17) rfl))) Via.refl e54 F_size_a0 (g := (mkF m 35 #[.val (.ref a0), .val (.int p1)] [(.ref a0), (.ref a0), (.ref bb)])) rfl rfl (hb hby d3_35)
  obtain ⟨T56, h56, X56, e56, W56, st56⟩ := putF X55 hx hZ hown (host := "") (Or.inl (hw _ (List.mem_of_getElem? (i := 17) rfl))) Via.refl e55 F_size_a0 E_a0 (Or.inl (hw _ (List.mem_of_getElem? (i := 18) rfl))) (hw _ (List.mem_of_getElem? (i := 1) rfl)) (ty := .int) (by decide) rfl rfl (g := (mkF m 41 #[.val (.ref a0), .val (.int p1)] [(.int (2 : Int32)), (.ref a0), (.int (1 : Int32)), (.ref bb)])) rfl rfl (hb hby d3_41)
  have f56w : Fld Z h56 a0 "com/example/subsumer/subsumer/classification/IntList" "size" "I" (.int (2 : Int32)) := F_size_a0.same W56
  have f57 := E_a0.wr W56
  have f58 := F_items_a0.other W56 (Or.inr (slot_ne (Or.inl (hw _ (List.mem_of_getElem? (i := 11) rfl))) (Or.inl (hw _ (List.mem_of_getElem? (i := 18) rfl))) (by decide) (t := (.array .int)) (t' := .int) (by decide) (by decide)))
  have f60 := V_bb.other W56 (Ne.symm ne_a0_bb)
  have K61 := K0.wr W56 (Or.inl (List.mem_of_getElem? (i := 0) rfl))
  have Z62 := Nat.le_trans Z0 (Keep.of_wr W56).1
  have N63 := Fr.snoc X56 N0 g_a0
  obtain ⟨cl64, Ar64, q64, S64, M64, H64, G64⟩ := id f60
  have hin65 : ¬ ((1 : Int32) < 0 ∨ cl64.slots.size ≤ ((1 : Int32)).toNatClampNeg) := inb_of S64 ⟨by decide, by decide⟩
  obtain ⟨T66, h66, X66, e66, W66, st66⟩ := stI X56 hx hZ e56 Ar64 (j := (1 : Int32)) hin65 (g := (mkF m 45 #[.val (.ref a0), .val (.int p1)] [(.int p1), (.int (1 : Int32)), (.ref bb)])) rfl rfl (hb hby d3_45)
  have V66 : Arv Z h66 bb k_bb .int (4 : Int32) [(.int u0), (.int p1), (.int u2), (.int u3)] (.int (0 : Int32)) := Arv.set Ar64 q64 S64 M64 H64 G64 rfl W66 1 rfl (Nat.le_of_ble_eq_true rfl)
  have f67 := f57.wr W66
  have f68 := f58.other W66 (Or.inl ne_a0_bb)
  have f69 := f56w.other W66 (Or.inl ne_a0_bb)
  have K71 := K61.wr W66 (Or.inl (List.mem_of_getElem? (i := 1) rfl))
  have Z72 := Nat.le_trans Z62 (Keep.of_wr W66).1
  have N73 := Fr.snoc X66 N63 g_bb
  obtain ⟨fs, hr, hrun, hended, hW, hsame⟩ := X66.leave (v := none) (fun _ => rfl)
  refine ⟨_, _, pre0 _ ?_, hrun, hended, _, _, rfl, ?_, ⟨_, rfl⟩, hW, hsame.mono (by decide) (by decide)⟩
  · skip
    show Steps p.tables e below (s₁.setTop (mkF m 0 #[.val (.ref a0), .val (.int p1)] [])) _
    refine XS.aloadN X0.here hx rfl (hb hby d3_0) rfl rfl ?_
    show Steps p.tables e below (s₁.setTop (mkF m 1 #[.val (.ref a0), .val (.int p1)] [(.ref a0)])) _
    refine st51 _ ?_
    show Steps p.tables e below (T51.setTop (mkF m 4 #[.val (.ref a0), .val (.int p1)] [(.int (1 : Int32))])) _
    refine XS.aloadN X51.here hx rfl (hb hby d3_4) rfl rfl ?_
    show Steps p.tables e below (T51.setTop (mkF m 5 #[.val (.ref a0), .val (.int p1)] [(.ref a0), (.int (1 : Int32))])) _
    refine st52 _ ?_
    show Steps p.tables e below (T52.setTop (mkF m 8 #[.val (.ref a0), .val (.int p1)] [(.ref bb), (.int (1 : Int32))])) _
    refine X52.arraylength hx (by rw [e52]; exact Ar53.1) (State.isArrayOf_alike hZ.alike Ar53.2.1) (g := (mkF m 8 #[.val (.ref a0), .val (.int p1)] [(.ref bb), (.int (1 : Int32))])) rfl rfl (hb hby d3_8) _ ?_
    rw [len_of S53 M53]
    show Steps p.tables e below (T52.setTop (mkF m 9 #[.val (.ref a0), .val (.int p1)] [(.int (4 : Int32)), (.int (1 : Int32))])) _
    refine XS.icmpYes X52.here hx rfl (pc0 := 9) (pc' := 29) rfl (hb hby d3_9) rfl (feq (by decide : ¬ ((1 : Int32) = (4 : Int32)))).2 (by decide) (by decide) ?_
    show Steps p.tables e below (T52.setTop (mkF m 29 #[.val (.ref a0), .val (.int p1)] [])) _
    refine XS.aloadN X52.here hx rfl (hb hby d3_29) rfl rfl ?_
    show Steps p.tables e below (T52.setTop (mkF m 30 #[.val (.ref a0), .val (.int p1)] [(.ref a0)])) _
    refine st54 _ ?_
    show Steps p.tables e below (T54.setTop (mkF m 33 #[.val (.ref a0), .val (.int p1)] [(.ref bb)])) _
    refine XS.aloadN X54.here hx rfl (hb hby d3_33) rfl rfl ?_
    show Steps p.tables e below (T54.setTop (mkF m 34 #[.val (.ref a0), .val (.int p1)] [(.ref a0), (.ref bb)])) _
    refine XS.dup X54.here hx rfl (hb hby d3_34) rfl rfl ?_
    show Steps p.tables e below (T54.setTop (mkF m 35 #[.val (.ref a0), .val (.int p1)] [(.ref a0), (.ref a0), (.ref bb)])) _
    refine st55 _ ?_
    show Steps p.tables e below (T55.setTop (mkF m 38 #[.val (.ref a0), .val (.int p1)] [(.int (1 : Int32)), (.ref a0), (.ref bb)])) _
    refine XS.dupX1 X55.here hx rfl (hb hby d3_38) rfl rfl rfl ?_
    show Steps p.tables e below (T55.setTop (mkF m 39 #[.val (.ref a0), .val (.int p1)] [(.int (1 : Int32)), (.ref a0), (.int (1 : Int32)), (.ref bb)])) _
    refine XS.iconst X55.here hx rfl (hb hby d3_39) ?_
    show Steps p.tables e below (T55.setTop (mkF m 40 #[.val (.ref a0), .val (.int p1)] [(.int (1 : Int32)), (.int (1 : Int32)), (.ref a0), (.int (1 : Int32)), (.ref bb)])) _
    refine XS.iadd X55.here hx rfl (hb hby d3_40) rfl ?_
    show Steps p.tables e below (T55.setTop (mkF m 41 #[.val (.ref a0), .val (.int p1)] [(.int (2 : Int32)), (.ref a0), (.int (1 : Int32)), (.ref bb)])) _
    refine st56 _ ?_
    show Steps p.tables e below (T56.setTop (mkF m 44 #[.val (.ref a0), .val (.int p1)] [(.int (1 : Int32)), (.ref bb)])) _
    refine XS.iloadN X56.here hx rfl (hb hby d3_44) rfl ?_
    show Steps p.tables e below (T56.setTop (mkF m 45 #[.val (.ref a0), .val (.int p1)] [(.int p1), (.int (1 : Int32)), (.ref bb)])) _
    refine st66 _ ?_
    show Steps p.tables e below (T66.setTop (mkF m 46 #[.val (.ref a0), .val (.int p1)] [])) _
    exact X66.returnOut hx Bd.returns (hb hby d3_46) hr
  · show Q3_4_1 Z a0 p1 bb u0 u1 u2 u3 k_bb h0 n0 _ T66.heap _
    rw [e66]
    exact ⟨rfl, N73, K71, f67, f69, f68, V66⟩
theorem ef3_4_2 (m : MethodId) (x0 : Addr) (x1 : Int32) : entryFrame m #[(.ref x0), (.int x1)] 2 = mkF m 0 #[.val (.ref x0), .val (.int x1)] [] := by first | (simp [entryFrame, mkF, argsToLocals, Value.category]; done) | rfl
abbrev rr3_4_2 : Room := { frames := 0, cells := 0, slots := 0, locals := 0 }
def Q3_4_2 (Z : State) (a0 : Addr) (p1 : Int32) (bb : Addr) (u0 : Int32) (u1 : Int32) (u2 : Int32) (u3 : Int32) (k_bb : ClassId) (h0 : Heap) (n0 : Nat) (v : Option Value) (h : Heap) (L : List Loc) : Prop := v = none ∧ Fr n0 L ∧ Keep h0 h [a0, bb] ∧ Exa Z h a0 "com/example/subsumer/subsumer/classification/IntList" ∧ Fld Z h a0 "com/example/subsumer/subsumer/classification/IntList" "size" "I" (.int (3 : Int32)) ∧ Fld Z h a0 "com/example/subsumer/subsumer/classification/IntList" "items" "[I" (.ref bb) ∧ Arv Z h bb k_bb .int (4 : Int32) [(.int u0), (.int u1), (.int p1), (.int u3)] (.int (0 : Int32))
set_option maxRecDepth 65536 in
set_option maxHeartbeats 40000000 in
theorem rm3_4_2 (l : Launch) (Z : State) (aw : Array Value) (hw : ∀ d ∈ tables_1, d.before aw Z = true) (ws : List Jvm.Cond) (a0 : Addr) (p1 : Int32) (bb : Addr) (u0 : Int32) (u1 : Int32) (u2 : Int32) (u3 : Int32) (k_bb : ClassId) (h0 : Heap) (n0 : Nat) (Z0 : n0 ≤ h0.size) (E_a0 : Exa Z h0 a0 "com/example/subsumer/subsumer/classification/IntList") (F_items_a0 : Fld Z h0 a0 "com/example/subsumer/subsumer/classification/IntList" "items" "[I" (.ref bb)) (F_size_a0 : Fld Z h0 a0 "com/example/subsumer/subsumer/classification/IntList" "size" "I" (.int (2 : Int32))) (V_bb : Arv Z h0 bb k_bb .int (4 : Int32) [(.int u0), (.int u1), (.int u2), (.int u3)] (.int (0 : Int32))) (g_a0 : n0 ≤ a0) (g_bb : n0 ≤ bb) (ne_a0_bb : a0 ≠ bb) :
    MetFree l (⟨"com/example/subsumer/subsumer/classification/IntList", "add", "(I)V"⟩ : MethodName) (head1 (Jvm.Cond.code (⟨"com/example/subsumer/subsumer/classification/IntList", "add", "(I)V"⟩ : MethodName) prog_2_method_2_code 2 none :: ws) rr3_4_2) (fun a U => a = #[(.ref a0), (.int p1)] ∧ Z.Warmed39 U.vm ∧ U.heap = h0) (fun _ _ _ _ _ => True) (fun _ U o U' => ∃ v L, o = .returned v ∧ Q3_4_2 Z a0 p1 bb u0 u1 u2 u3 k_bb h0 n0 v U'.heap L ∧ FrameEnd U o U' L rr3_4_2.cells rr3_4_2.slots) := by
  refine MetFree.of_bodySF (plainFor_of_name pn_1) hisR ?_
  intro p e s m args below meth c s₁ Bd hml0 hP hK
  obtain ⟨rfl, hZ, hh⟩ := hP
  have hx := Bd.exec
  have hby := Bd.bytes
  have hml : c.maxLocals = 2 := hml0
  have hown : s.vm.findClass "com/example/subsumer/subsumer/classification/IntList" = some m.cls := findClass_of_methodNamed Bd.named
  have hnm := (name_of_methodNamed Bd.named Bd.method).1
  have X0 : Stand p l e rr3_4_2 s m #[(.ref a0), (.int p1)] below meth c s₁ [] 0 0 := Stand.of_body Bd
  have e0 : s₁.heap = h0 := by rw [← hh, Bd.state]; rfl
  have N0 := Fr.nil n0
  have K0 := Keep.refl h0 [a0, bb]
  have pre0 : ∀ t, Steps p.tables e below (s₁.setTop (mkF m 0 #[.val (.ref a0), .val (.int p1)] [])) t → Steps p.tables e below (s₁.setTop (entryFrame m #[(.ref a0), (.int p1)] 2)) t := fun t k => castTop (ef3_4_2 m a0 p1) k
  obtain ⟨T74, X74, e74, st74⟩ := getF X0 hx hZ hown (host := "") (Or.inl (hw _ (List.mem_of_getElem? (i := 17) rfl))) Via.refl e0 F_size_a0 (g := (mkF m 1 #[.val (.ref a0), .val (.int p1)] [(.ref a0)])) rfl rfl (hb hby d3_1)
  obtain ⟨T75, X75, e75, st75⟩ := getF X74 hx hZ hown (host := "") (Or.inl (hw _ (List.mem_of_getElem? (i := 10) rfl))) Via.refl e74 F_items_a0 (g := (mkF m 5 #[.val (.ref a0), .val (.int p1)] [(.ref a0), (.int (2 : Int32))])) rfl rfl (hb hby d3_5)
  obtain ⟨cl76, Ar76, q76, S76, M76, H76, G76⟩ := id V_bb
  obtain ⟨T77, X77, e77, st77⟩ := getF X75 hx hZ hown (host := "") (Or.inl (hw _ (List.mem_of_getElem? (i := 10) rfl))) Via.refl e75 F_items_a0 (g := (mkF m 30 #[.val (.ref a0), .val (.int p1)] [(.ref a0)])) rfl rfl (hb hby d3_30)
  obtain ⟨T78, X78, e78, st78⟩ := getF X77 hx hZ hown (host := "") (Or.inl (hw _ (List.mem_of_getElem? (i := 17) rfl))) Via.refl e77 F_size_a0 (g := (mkF m 35 #[.val (.ref a0), .val (.int p1)] [(.ref a0), (.ref a0), (.ref bb)])) rfl rfl (hb hby d3_35)
  obtain ⟨T79, h79, X79, e79, W79, st79⟩ := putF X78 hx hZ hown (host := "") (Or.inl (hw _ (List.mem_of_getElem? (i := 17) rfl))) Via.refl e78 F_size_a0 E_a0 (Or.inl (hw _ (List.mem_of_getElem? (i := 18) rfl))) (hw _ (List.mem_of_getElem? (i := 1) rfl)) (ty := .int) (by decide) rfl rfl (g := (mkF m 41 #[.val (.ref a0), .val (.int p1)] [(.int (3 : Int32)), (.ref a0), (.int (2 : Int32)), (.ref bb)])) rfl rfl (hb hby d3_41)
  have f79w : Fld Z h79 a0 "com/example/subsumer/subsumer/classification/IntList" "size" "I" (.int (3 : Int32)) := F_size_a0.same W79
  have f80 := E_a0.wr W79
  have f81 := F_items_a0.other W79 (Or.inr (slot_ne (Or.inl (hw _ (List.mem_of_getElem? (i := 11) rfl))) (Or.inl (hw _ (List.mem_of_getElem? (i := 18) rfl))) (by decide) (t := (.array .int)) (t' := .int) (by decide) (by decide)))
  have f83 := V_bb.other W79 (Ne.symm ne_a0_bb)
  have K84 := K0.wr W79 (Or.inl (List.mem_of_getElem? (i := 0) rfl))
  have Z85 := Nat.le_trans Z0 (Keep.of_wr W79).1
  have N86 := Fr.snoc X79 N0 g_a0
  obtain ⟨cl87, Ar87, q87, S87, M87, H87, G87⟩ := id f83
  have hin88 : ¬ ((2 : Int32) < 0 ∨ cl87.slots.size ≤ ((2 : Int32)).toNatClampNeg) := inb_of S87 ⟨by decide, by decide⟩
  obtain ⟨T89, h89, X89, e89, W89, st89⟩ := stI X79 hx hZ e79 Ar87 (j := (2 : Int32)) hin88 (g := (mkF m 45 #[.val (.ref a0), .val (.int p1)] [(.int p1), (.int (2 : Int32)), (.ref bb)])) rfl rfl (hb hby d3_45)
  have V89 : Arv Z h89 bb k_bb .int (4 : Int32) [(.int u0), (.int u1), (.int p1), (.int u3)] (.int (0 : Int32)) := Arv.set Ar87 q87 S87 M87 H87 G87 rfl W89 2 rfl (Nat.le_of_ble_eq_true rfl)
  have f90 := f80.wr W89
  have f91 := f81.other W89 (Or.inl ne_a0_bb)
  have f92 := f79w.other W89 (Or.inl ne_a0_bb)
  have K94 := K84.wr W89 (Or.inl (List.mem_of_getElem? (i := 1) rfl))
  have Z95 := Nat.le_trans Z85 (Keep.of_wr W89).1
  have N96 := Fr.snoc X89 N86 g_bb
  obtain ⟨fs, hr, hrun, hended, hW, hsame⟩ := X89.leave (v := none) (fun _ => rfl)
  refine ⟨_, _, pre0 _ ?_, hrun, hended, _, _, rfl, ?_, ⟨_, rfl⟩, hW, hsame.mono (by decide) (by decide)⟩
  · skip
    show Steps p.tables e below (s₁.setTop (mkF m 0 #[.val (.ref a0), .val (.int p1)] [])) _
    refine XS.aloadN X0.here hx rfl (hb hby d3_0) rfl rfl ?_
    show Steps p.tables e below (s₁.setTop (mkF m 1 #[.val (.ref a0), .val (.int p1)] [(.ref a0)])) _
    refine st74 _ ?_
    show Steps p.tables e below (T74.setTop (mkF m 4 #[.val (.ref a0), .val (.int p1)] [(.int (2 : Int32))])) _
    refine XS.aloadN X74.here hx rfl (hb hby d3_4) rfl rfl ?_
    show Steps p.tables e below (T74.setTop (mkF m 5 #[.val (.ref a0), .val (.int p1)] [(.ref a0), (.int (2 : Int32))])) _
    refine st75 _ ?_
    show Steps p.tables e below (T75.setTop (mkF m 8 #[.val (.ref a0), .val (.int p1)] [(.ref bb), (.int (2 : Int32))])) _
    refine X75.arraylength hx (by rw [e75]; exact Ar76.1) (State.isArrayOf_alike hZ.alike Ar76.2.1) (g := (mkF m 8 #[.val (.ref a0), .val (.int p1)] [(.ref bb), (.int (2 : Int32))])) rfl rfl (hb hby d3_8) _ ?_
    rw [len_of S76 M76]
    show Steps p.tables e below (T75.setTop (mkF m 9 #[.val (.ref a0), .val (.int p1)] [(.int (4 : Int32)), (.int (2 : Int32))])) _
    refine XS.icmpYes X75.here hx rfl (pc0 := 9) (pc' := 29) rfl (hb hby d3_9) rfl (feq (by decide : ¬ ((2 : Int32) = (4 : Int32)))).2 (by decide) (by decide) ?_
    show Steps p.tables e below (T75.setTop (mkF m 29 #[.val (.ref a0), .val (.int p1)] [])) _
    refine XS.aloadN X75.here hx rfl (hb hby d3_29) rfl rfl ?_
    show Steps p.tables e below (T75.setTop (mkF m 30 #[.val (.ref a0), .val (.int p1)] [(.ref a0)])) _
    refine st77 _ ?_
    show Steps p.tables e below (T77.setTop (mkF m 33 #[.val (.ref a0), .val (.int p1)] [(.ref bb)])) _
    refine XS.aloadN X77.here hx rfl (hb hby d3_33) rfl rfl ?_
    show Steps p.tables e below (T77.setTop (mkF m 34 #[.val (.ref a0), .val (.int p1)] [(.ref a0), (.ref bb)])) _
    refine XS.dup X77.here hx rfl (hb hby d3_34) rfl rfl ?_
    show Steps p.tables e below (T77.setTop (mkF m 35 #[.val (.ref a0), .val (.int p1)] [(.ref a0), (.ref a0), (.ref bb)])) _
    refine st78 _ ?_
    show Steps p.tables e below (T78.setTop (mkF m 38 #[.val (.ref a0), .val (.int p1)] [(.int (2 : Int32)), (.ref a0), (.ref bb)])) _
    refine XS.dupX1 X78.here hx rfl (hb hby d3_38) rfl rfl rfl ?_
    show Steps p.tables e below (T78.setTop (mkF m 39 #[.val (.ref a0), .val (.int p1)] [(.int (2 : Int32)), (.ref a0), (.int (2 : Int32)), (.ref bb)])) _
    refine XS.iconst X78.here hx rfl (hb hby d3_39) ?_
    show Steps p.tables e below (T78.setTop (mkF m 40 #[.val (.ref a0), .val (.int p1)] [(.int (1 : Int32)), (.int (2 : Int32)), (.ref a0), (.int (2 : Int32)), (.ref bb)])) _
    refine XS.iadd X78.here hx rfl (hb hby d3_40) rfl ?_
    show Steps p.tables e below (T78.setTop (mkF m 41 #[.val (.ref a0), .val (.int p1)] [(.int (3 : Int32)), (.ref a0), (.int (2 : Int32)), (.ref bb)])) _
    refine st79 _ ?_
    show Steps p.tables e below (T79.setTop (mkF m 44 #[.val (.ref a0), .val (.int p1)] [(.int (2 : Int32)), (.ref bb)])) _
    refine XS.iloadN X79.here hx rfl (hb hby d3_44) rfl ?_
    show Steps p.tables e below (T79.setTop (mkF m 45 #[.val (.ref a0), .val (.int p1)] [(.int p1), (.int (2 : Int32)), (.ref bb)])) _
    refine st89 _ ?_
    show Steps p.tables e below (T89.setTop (mkF m 46 #[.val (.ref a0), .val (.int p1)] [])) _
    exact X89.returnOut hx Bd.returns (hb hby d3_46) hr
  · show Q3_4_2 Z a0 p1 bb u0 u1 u2 u3 k_bb h0 n0 _ T89.heap _
    rw [e89]
    exact ⟨rfl, N96, K94, f90, f92, f91, V89⟩
theorem ef3_4_3 (m : MethodId) (x0 : Addr) (x1 : Int32) : entryFrame m #[(.ref x0), (.int x1)] 2 = mkF m 0 #[.val (.ref x0), .val (.int x1)] [] := by first | (simp [entryFrame, mkF, argsToLocals, Value.category]; done) | rfl
abbrev rr3_4_3 : Room := { frames := 0, cells := 0, slots := 0, locals := 0 }
def Q3_4_3 (Z : State) (a0 : Addr) (p1 : Int32) (bb : Addr) (u0 : Int32) (u1 : Int32) (u2 : Int32) (u3 : Int32) (k_bb : ClassId) (h0 : Heap) (n0 : Nat) (v : Option Value) (h : Heap) (L : List Loc) : Prop := v = none ∧ Fr n0 L ∧ Keep h0 h [a0, bb] ∧ Exa Z h a0 "com/example/subsumer/subsumer/classification/IntList" ∧ Fld Z h a0 "com/example/subsumer/subsumer/classification/IntList" "size" "I" (.int (4 : Int32)) ∧ Fld Z h a0 "com/example/subsumer/subsumer/classification/IntList" "items" "[I" (.ref bb) ∧ Arv Z h bb k_bb .int (4 : Int32) [(.int u0), (.int u1), (.int u2), (.int p1)] (.int (0 : Int32))
set_option maxRecDepth 65536 in
set_option maxHeartbeats 40000000 in
theorem rm3_4_3 (l : Launch) (Z : State) (aw : Array Value) (hw : ∀ d ∈ tables_1, d.before aw Z = true) (ws : List Jvm.Cond) (a0 : Addr) (p1 : Int32) (bb : Addr) (u0 : Int32) (u1 : Int32) (u2 : Int32) (u3 : Int32) (k_bb : ClassId) (h0 : Heap) (n0 : Nat) (Z0 : n0 ≤ h0.size) (E_a0 : Exa Z h0 a0 "com/example/subsumer/subsumer/classification/IntList") (F_items_a0 : Fld Z h0 a0 "com/example/subsumer/subsumer/classification/IntList" "items" "[I" (.ref bb)) (F_size_a0 : Fld Z h0 a0 "com/example/subsumer/subsumer/classification/IntList" "size" "I" (.int (3 : Int32))) (V_bb : Arv Z h0 bb k_bb .int (4 : Int32) [(.int u0), (.int u1), (.int u2), (.int u3)] (.int (0 : Int32))) (g_a0 : n0 ≤ a0) (g_bb : n0 ≤ bb) (ne_a0_bb : a0 ≠ bb) :
    MetFree l (⟨"com/example/subsumer/subsumer/classification/IntList", "add", "(I)V"⟩ : MethodName) (head1 (Jvm.Cond.code (⟨"com/example/subsumer/subsumer/classification/IntList", "add", "(I)V"⟩ : MethodName) prog_2_method_2_code 2 none :: ws) rr3_4_3) (fun a U => a = #[(.ref a0), (.int p1)] ∧ Z.Warmed39 U.vm ∧ U.heap = h0) (fun _ _ _ _ _ => True) (fun _ U o U' => ∃ v L, o = .returned v ∧ Q3_4_3 Z a0 p1 bb u0 u1 u2 u3 k_bb h0 n0 v U'.heap L ∧ FrameEnd U o U' L rr3_4_3.cells rr3_4_3.slots) := by
  refine MetFree.of_bodySF (plainFor_of_name pn_1) hisR ?_
  intro p e s m args below meth c s₁ Bd hml0 hP hK
  obtain ⟨rfl, hZ, hh⟩ := hP
  have hx := Bd.exec
  have hby := Bd.bytes
  have hml : c.maxLocals = 2 := hml0
  have hown : s.vm.findClass "com/example/subsumer/subsumer/classification/IntList" = some m.cls := findClass_of_methodNamed Bd.named
  have hnm := (name_of_methodNamed Bd.named Bd.method).1
  have X0 : Stand p l e rr3_4_3 s m #[(.ref a0), (.int p1)] below meth c s₁ [] 0 0 := Stand.of_body Bd
  have e0 : s₁.heap = h0 := by rw [← hh, Bd.state]; rfl
  have N0 := Fr.nil n0
  have K0 := Keep.refl h0 [a0, bb]
  have pre0 : ∀ t, Steps p.tables e below (s₁.setTop (mkF m 0 #[.val (.ref a0), .val (.int p1)] [])) t → Steps p.tables e below (s₁.setTop (entryFrame m #[(.ref a0), (.int p1)] 2)) t := fun t k => castTop (ef3_4_3 m a0 p1) k
  obtain ⟨T97, X97, e97, st97⟩ := getF X0 hx hZ hown (host := "") (Or.inl (hw _ (List.mem_of_getElem? (i := 17) rfl))) Via.refl e0 F_size_a0 (g := (mkF m 1 #[.val (.ref a0), .val (.int p1)] [(.ref a0)])) rfl rfl (hb hby d3_1)
  obtain ⟨T98, X98, e98, st98⟩ := getF X97 hx hZ hown (host := "") (Or.inl (hw _ (List.mem_of_getElem? (i := 10) rfl))) Via.refl e97 F_items_a0 (g := (mkF m 5 #[.val (.ref a0), .val (.int p1)] [(.ref a0), (.int (3 : Int32))])) rfl rfl (hb hby d3_5)
  obtain ⟨cl99, Ar99, q99, S99, M99, H99, G99⟩ := id V_bb
  obtain ⟨T100, X100, e100, st100⟩ := getF X98 hx hZ hown (host := "") (Or.inl (hw _ (List.mem_of_getElem? (i := 10) rfl))) Via.refl e98 F_items_a0 (g := (mkF m 30 #[.val (.ref a0), .val (.int p1)] [(.ref a0)])) rfl rfl (hb hby d3_30)
  obtain ⟨T101, X101, e101, st101⟩ := getF X100 hx hZ hown (host := "") (Or.inl (hw _ (List.mem_of_getElem? (i := 17) rfl))) Via.refl e100 F_size_a0 (g := (mkF m 35 #[.val (.ref a0), .val (.int p1)] [(.ref a0), (.ref a0), (.ref bb)])) rfl rfl (hb hby d3_35)
  obtain ⟨T102, h102, X102, e102, W102, st102⟩ := putF X101 hx hZ hown (host := "") (Or.inl (hw _ (List.mem_of_getElem? (i := 17) rfl))) Via.refl e101 F_size_a0 E_a0 (Or.inl (hw _ (List.mem_of_getElem? (i := 18) rfl))) (hw _ (List.mem_of_getElem? (i := 1) rfl)) (ty := .int) (by decide) rfl rfl (g := (mkF m 41 #[.val (.ref a0), .val (.int p1)] [(.int (4 : Int32)), (.ref a0), (.int (3 : Int32)), (.ref bb)])) rfl rfl (hb hby d3_41)
  have f102w : Fld Z h102 a0 "com/example/subsumer/subsumer/classification/IntList" "size" "I" (.int (4 : Int32)) := F_size_a0.same W102
  have f103 := E_a0.wr W102
  have f104 := F_items_a0.other W102 (Or.inr (slot_ne (Or.inl (hw _ (List.mem_of_getElem? (i := 11) rfl))) (Or.inl (hw _ (List.mem_of_getElem? (i := 18) rfl))) (by decide) (t := (.array .int)) (t' := .int) (by decide) (by decide)))
  have f106 := V_bb.other W102 (Ne.symm ne_a0_bb)
  have K107 := K0.wr W102 (Or.inl (List.mem_of_getElem? (i := 0) rfl))
  have Z108 := Nat.le_trans Z0 (Keep.of_wr W102).1
  have N109 := Fr.snoc X102 N0 g_a0
  obtain ⟨cl110, Ar110, q110, S110, M110, H110, G110⟩ := id f106
  have hin111 : ¬ ((3 : Int32) < 0 ∨ cl110.slots.size ≤ ((3 : Int32)).toNatClampNeg) := inb_of S110 ⟨by decide, by decide⟩
  obtain ⟨T112, h112, X112, e112, W112, st112⟩ := stI X102 hx hZ e102 Ar110 (j := (3 : Int32)) hin111 (g := (mkF m 45 #[.val (.ref a0), .val (.int p1)] [(.int p1), (.int (3 : Int32)), (.ref bb)])) rfl rfl (hb hby d3_45)
  have V112 : Arv Z h112 bb k_bb .int (4 : Int32) [(.int u0), (.int u1), (.int u2), (.int p1)] (.int (0 : Int32)) := Arv.set Ar110 q110 S110 M110 H110 G110 rfl W112 3 rfl (Nat.le_of_ble_eq_true rfl)
  have f113 := f103.wr W112
  have f114 := f104.other W112 (Or.inl ne_a0_bb)
  have f115 := f102w.other W112 (Or.inl ne_a0_bb)
  have K117 := K107.wr W112 (Or.inl (List.mem_of_getElem? (i := 1) rfl))
  have Z118 := Nat.le_trans Z108 (Keep.of_wr W112).1
  have N119 := Fr.snoc X112 N109 g_bb
  obtain ⟨fs, hr, hrun, hended, hW, hsame⟩ := X112.leave (v := none) (fun _ => rfl)
  refine ⟨_, _, pre0 _ ?_, hrun, hended, _, _, rfl, ?_, ⟨_, rfl⟩, hW, hsame.mono (by decide) (by decide)⟩
  · skip
    show Steps p.tables e below (s₁.setTop (mkF m 0 #[.val (.ref a0), .val (.int p1)] [])) _
    refine XS.aloadN X0.here hx rfl (hb hby d3_0) rfl rfl ?_
    show Steps p.tables e below (s₁.setTop (mkF m 1 #[.val (.ref a0), .val (.int p1)] [(.ref a0)])) _
    refine st97 _ ?_
    show Steps p.tables e below (T97.setTop (mkF m 4 #[.val (.ref a0), .val (.int p1)] [(.int (3 : Int32))])) _
    refine XS.aloadN X97.here hx rfl (hb hby d3_4) rfl rfl ?_
    show Steps p.tables e below (T97.setTop (mkF m 5 #[.val (.ref a0), .val (.int p1)] [(.ref a0), (.int (3 : Int32))])) _
    refine st98 _ ?_
    show Steps p.tables e below (T98.setTop (mkF m 8 #[.val (.ref a0), .val (.int p1)] [(.ref bb), (.int (3 : Int32))])) _
    refine X98.arraylength hx (by rw [e98]; exact Ar99.1) (State.isArrayOf_alike hZ.alike Ar99.2.1) (g := (mkF m 8 #[.val (.ref a0), .val (.int p1)] [(.ref bb), (.int (3 : Int32))])) rfl rfl (hb hby d3_8) _ ?_
    rw [len_of S99 M99]
    show Steps p.tables e below (T98.setTop (mkF m 9 #[.val (.ref a0), .val (.int p1)] [(.int (4 : Int32)), (.int (3 : Int32))])) _
    refine XS.icmpYes X98.here hx rfl (pc0 := 9) (pc' := 29) rfl (hb hby d3_9) rfl (feq (by decide : ¬ ((3 : Int32) = (4 : Int32)))).2 (by decide) (by decide) ?_
    show Steps p.tables e below (T98.setTop (mkF m 29 #[.val (.ref a0), .val (.int p1)] [])) _
    refine XS.aloadN X98.here hx rfl (hb hby d3_29) rfl rfl ?_
    show Steps p.tables e below (T98.setTop (mkF m 30 #[.val (.ref a0), .val (.int p1)] [(.ref a0)])) _
    refine st100 _ ?_
    show Steps p.tables e below (T100.setTop (mkF m 33 #[.val (.ref a0), .val (.int p1)] [(.ref bb)])) _
    refine XS.aloadN X100.here hx rfl (hb hby d3_33) rfl rfl ?_
    show Steps p.tables e below (T100.setTop (mkF m 34 #[.val (.ref a0), .val (.int p1)] [(.ref a0), (.ref bb)])) _
    refine XS.dup X100.here hx rfl (hb hby d3_34) rfl rfl ?_
    show Steps p.tables e below (T100.setTop (mkF m 35 #[.val (.ref a0), .val (.int p1)] [(.ref a0), (.ref a0), (.ref bb)])) _
    refine st101 _ ?_
    show Steps p.tables e below (T101.setTop (mkF m 38 #[.val (.ref a0), .val (.int p1)] [(.int (3 : Int32)), (.ref a0), (.ref bb)])) _
    refine XS.dupX1 X101.here hx rfl (hb hby d3_38) rfl rfl rfl ?_
    show Steps p.tables e below (T101.setTop (mkF m 39 #[.val (.ref a0), .val (.int p1)] [(.int (3 : Int32)), (.ref a0), (.int (3 : Int32)), (.ref bb)])) _
    refine XS.iconst X101.here hx rfl (hb hby d3_39) ?_
    show Steps p.tables e below (T101.setTop (mkF m 40 #[.val (.ref a0), .val (.int p1)] [(.int (1 : Int32)), (.int (3 : Int32)), (.ref a0), (.int (3 : Int32)), (.ref bb)])) _
    refine XS.iadd X101.here hx rfl (hb hby d3_40) rfl ?_
    show Steps p.tables e below (T101.setTop (mkF m 41 #[.val (.ref a0), .val (.int p1)] [(.int (4 : Int32)), (.ref a0), (.int (3 : Int32)), (.ref bb)])) _
    refine st102 _ ?_
    show Steps p.tables e below (T102.setTop (mkF m 44 #[.val (.ref a0), .val (.int p1)] [(.int (3 : Int32)), (.ref bb)])) _
    refine XS.iloadN X102.here hx rfl (hb hby d3_44) rfl ?_
    show Steps p.tables e below (T102.setTop (mkF m 45 #[.val (.ref a0), .val (.int p1)] [(.int p1), (.int (3 : Int32)), (.ref bb)])) _
    refine st112 _ ?_
    show Steps p.tables e below (T112.setTop (mkF m 46 #[.val (.ref a0), .val (.int p1)] [])) _
    exact X112.returnOut hx Bd.returns (hb hby d3_46) hr
  · show Q3_4_3 Z a0 p1 bb u0 u1 u2 u3 k_bb h0 n0 _ T112.heap _
    rw [e112]
    exact ⟨rfl, N119, K117, f113, f115, f114, V112⟩
theorem d3_12 : decode prog_2_method_2_code 12 = .ok (.aload_n 0, 1) := by decide +kernel
theorem d3_13 : decode prog_2_method_2_code 13 = .ok (.aload_n 0, 1) := by decide +kernel
theorem d3_14 : decode prog_2_method_2_code 14 = .ok (.getfield 7, 3) := by decide +kernel
theorem d3_17 : decode prog_2_method_2_code 17 = .ok (.aload_n 0, 1) := by decide +kernel
theorem d3_18 : decode prog_2_method_2_code 18 = .ok (.getfield 13, 3) := by decide +kernel
theorem d3_21 : decode prog_2_method_2_code 21 = .ok (.iconst 2, 1) := by decide +kernel
theorem d3_22 : decode prog_2_method_2_code 22 = .ok (.imul, 1) := by decide +kernel
theorem pd_3 : parseMethodDescriptor "([II)[I" = some ⟨[(.array .int), .int], some (.array .int)⟩ := by decide +kernel
theorem d3_23 : decode prog_2_method_2_code 23 = .ok (.invokestatic 17, 3) := by decide +kernel
theorem d3_26 : decode prog_2_method_2_code 26 = .ok (.putfield 7, 3) := by decide +kernel
theorem ef3_4_4 (m : MethodId) (x0 : Addr) (x1 : Int32) : entryFrame m #[(.ref x0), (.int x1)] 2 = mkF m 0 #[.val (.ref x0), .val (.int x1)] [] := by first | (simp [entryFrame, mkF, argsToLocals, Value.category]; done) | rfl
abbrev rr3_4_4 : Room := { frames := 2, cells := 1, slots := 8, locals := 33 }
def Q3_4_4 (Z : State) (a0 : Addr) (p1 : Int32) (bb : Addr) (u0 : Int32) (u1 : Int32) (u2 : Int32) (u3 : Int32) (k_bb : ClassId) (h0 : Heap) (n0 : Nat) (v : Option Value) (h : Heap) (L : List Loc) : Prop := ∃ (x0 : Addr) (y0 : ClassId), v = none ∧ Fr n0 L ∧ Keep h0 h [a0] ∧ n0 ≤ x0 ∧ h0.size ≤ x0 ∧ Exa Z h a0 "com/example/subsumer/subsumer/classification/IntList" ∧ Fld Z h a0 "com/example/subsumer/subsumer/classification/IntList" "size" "I" (.int (5 : Int32)) ∧ Fld Z h a0 "com/example/subsumer/subsumer/classification/IntList" "items" "[I" (.ref x0) ∧ Arv Z h x0 y0 .int (8 : Int32) [(.int u0), (.int u1), (.int u2), (.int u3), (.int p1), (.int (0 : Int32)), (.int (0 : Int32)), (.int (0 : Int32))] (.int (0 : Int32))
set_option maxRecDepth 65536 in
set_option maxHeartbeats 40000000 in
theorem rm3_4_4 (l : Launch) (Z : State) (aw : Array Value) (hw : ∀ d ∈ tables_1, d.before aw Z = true) (ws : List Jvm.Cond) (a0 : Addr) (p1 : Int32) (bb : Addr) (u0 : Int32) (u1 : Int32) (u2 : Int32) (u3 : Int32) (k_bb : ClassId) (h0 : Heap) (n0 : Nat) (Z0 : n0 ≤ h0.size) (E_a0 : Exa Z h0 a0 "com/example/subsumer/subsumer/classification/IntList") (F_items_a0 : Fld Z h0 a0 "com/example/subsumer/subsumer/classification/IntList" "items" "[I" (.ref bb)) (F_size_a0 : Fld Z h0 a0 "com/example/subsumer/subsumer/classification/IntList" "size" "I" (.int (4 : Int32))) (V_bb : Arv Z h0 bb k_bb .int (4 : Int32) [(.int u0), (.int u1), (.int u2), (.int u3)] (.int (0 : Int32))) (g_a0 : n0 ≤ a0) (ne_a0_bb : a0 ≠ bb) :
    MetFree l (⟨"com/example/subsumer/subsumer/classification/IntList", "add", "(I)V"⟩ : MethodName) (head1 (Jvm.Cond.code (⟨"com/example/subsumer/subsumer/classification/IntList", "add", "(I)V"⟩ : MethodName) prog_2_method_2_code 2 none :: ws) rr3_4_4) (fun a U => a = #[(.ref a0), (.int p1)] ∧ Z.Warmed39 U.vm ∧ U.heap = h0) (fun _ _ _ _ _ => True) (fun _ U o U' => ∃ v L, o = .returned v ∧ Q3_4_4 Z a0 p1 bb u0 u1 u2 u3 k_bb h0 n0 v U'.heap L ∧ FrameEnd U o U' L rr3_4_4.cells rr3_4_4.slots) := by
  refine MetFree.of_bodySF (plainFor_of_name pn_1) hisR ?_
  intro p e s m args below meth c s₁ Bd hml0 hP hK
  obtain ⟨rfl, hZ, hh⟩ := hP
  have hx := Bd.exec
  have hby := Bd.bytes
  have hml : c.maxLocals = 2 := hml0
  have hown : s.vm.findClass "com/example/subsumer/subsumer/classification/IntList" = some m.cls := findClass_of_methodNamed Bd.named
  have hnm := (name_of_methodNamed Bd.named Bd.method).1
  have X0 : Stand p l e rr3_4_4 s m #[(.ref a0), (.int p1)] below meth c s₁ [] 0 0 := Stand.of_body Bd
  have e0 : s₁.heap = h0 := by rw [← hh, Bd.state]; rfl
  have N0 := Fr.nil n0
  have K0 := Keep.refl h0 [a0]
  have pre0 : ∀ t, Steps p.tables e below (s₁.setTop (mkF m 0 #[.val (.ref a0), .val (.int p1)] [])) t → Steps p.tables e below (s₁.setTop (entryFrame m #[(.ref a0), (.int p1)] 2)) t := fun t k => castTop (ef3_4_4 m a0 p1) k
  obtain ⟨T120, X120, e120, st120⟩ := getF X0 hx hZ hown (host := "") (Or.inl (hw _ (List.mem_of_getElem? (i := 17) rfl))) Via.refl e0 F_size_a0 (g := (mkF m 1 #[.val (.ref a0), .val (.int p1)] [(.ref a0)])) rfl rfl (hb hby d3_1)
  obtain ⟨T121, X121, e121, st121⟩ := getF X120 hx hZ hown (host := "") (Or.inl (hw _ (List.mem_of_getElem? (i := 10) rfl))) Via.refl e120 F_items_a0 (g := (mkF m 5 #[.val (.ref a0), .val (.int p1)] [(.ref a0), (.int (4 : Int32))])) rfl rfl (hb hby d3_5)
  obtain ⟨cl122, Ar122, q122, S122, M122, H122, G122⟩ := id V_bb
  obtain ⟨T123, X123, e123, st123⟩ := getF X121 hx hZ hown (host := "") (Or.inl (hw _ (List.mem_of_getElem? (i := 10) rfl))) Via.refl e121 F_items_a0 (g := (mkF m 14 #[.val (.ref a0), .val (.int p1)] [(.ref a0), (.ref a0)])) rfl rfl (hb hby d3_14)
  obtain ⟨T124, X124, e124, st124⟩ := getF X123 hx hZ hown (host := "") (Or.inl (hw _ (List.mem_of_getElem? (i := 17) rfl))) Via.refl e123 F_size_a0 (g := (mkF m 18 #[.val (.ref a0), .val (.int p1)] [(.ref a0), (.ref bb), (.ref a0)])) rfl rfl (hb hby d3_18)
  obtain ⟨_, _, ⟨T125, L125, k125, n125⟩, -, X125, ⟨Lc125, hQ125, l125, y125, z125⟩, st125⟩ := Jvm.LawKit.callS X124 hx (y := (⟨"java/util/Arrays", "copyOf", "([II)[I"⟩ : MethodName)) hown (mvT hZ (hw _ (List.mem_of_getElem? (i := 25) rfl))) (mvT hZ (hw _ (List.mem_of_getElem? (i := 26) rfl))) (mvT hZ (hw _ (List.mem_of_getElem? (i := 27) rfl))) (mvT hZ (hw _ (List.mem_of_getElem? (i := 28) rfl))) (by decide) (backOf (W := 1) (rm5 l Z aw hw [] bb u0 u1 u2 u3 k_bb h0 n0 Z0 V_bb) hZ (hw _ (List.mem_of_getElem? (i := 28) rfl)) (hw _ (List.mem_of_getElem? (i := 27) rfl)) (by decide) (by decide)) (g := (mkF m 23 #[.val (.ref a0), .val (.int p1)] [(.int (8 : Int32)), (.ref bb), (.ref a0)])) rfl (by rw [hml]; rfl) (argsL := [(.ref bb), (.int (8 : Int32))]) (rest := [(.ref a0)]) (lenOf pd_3 rfl) rfl (by show 2 * 0 + _ ≤ _; exact Nat.le_of_eq rfl) (hb hby d3_23) (fun _ _ => ⟨rfl, e124, (by decide : 0 + 1 ≤ _), (by decide : 0 + 8 ≤ _)⟩)
  dsimp only [Pt.U, Pt.locs, Pt.cells, Pt.slots] at X125 l125 y125 z125 st125 hQ125
  subst l125 y125 z125
  obtain ⟨h125, e125⟩ : ∃ z, T125.heap = z := ⟨_, rfl⟩
  rw [e125] at hQ125
  obtain ⟨cx0125, cy0125, rfl, N125q, K125q, g_cx0125, zz_cx0125, f126⟩ := hQ125
  have f127 := E_a0.keep K125q
  have f128 := F_items_a0.keep K125q nin0
  have f129 := F_size_a0.keep K125q nin0
  have f130 := V_bb.keep K125q nin0
  have ne131 : a0 ≠ cx0125 := Nat.ne_of_lt (Nat.lt_of_lt_of_le E_a0.lt zz_cx0125)
  have ne132 : bb ≠ cx0125 := Nat.ne_of_lt (Nat.lt_of_lt_of_le V_bb.lt zz_cx0125)
  have sz_cx0125 : h0.size ≤ cx0125 := Nat.le_trans K0.1 zz_cx0125
  have K125 := K0.trans K125q all0
  have Z125 := Nat.le_trans Z0 K125q.1
  have N125 := Fr.app N0 N125q
  obtain ⟨T133, h133, X133, e133, W133, st133⟩ := putF X125 hx hZ hown (host := "") (Or.inl (hw _ (List.mem_of_getElem? (i := 10) rfl))) Via.refl e125 f128 f127 (Or.inl (hw _ (List.mem_of_getElem? (i := 11) rfl))) (hw _ (List.mem_of_getElem? (i := 1) rfl)) (ty := (.array .int)) (by decide) rfl rfl (g := (mkF m 26 #[.val (.ref a0), .val (.int p1)] [(.ref cx0125), (.ref a0)])) rfl rfl (hb hby d3_26)
  have f133w : Fld Z h133 a0 "com/example/subsumer/subsumer/classification/IntList" "items" "[I" (.ref cx0125) := f128.same W133
  have f134 := f127.wr W133
  have f136 := f129.other W133 (Or.inr (slot_ne (Or.inl (hw _ (List.mem_of_getElem? (i := 18) rfl))) (Or.inl (hw _ (List.mem_of_getElem? (i := 11) rfl))) (by decide) (t := .int) (t' := (.array .int)) (by decide) (by decide)))
  have f137 := f130.other W133 (Ne.symm ne_a0_bb)
  have f138 := f126.other W133 (Ne.symm ne131)
  have K139 := K125.wr W133 (Or.inl (List.mem_of_getElem? (i := 0) rfl))
  have Z140 := Nat.le_trans Z125 (Keep.of_wr W133).1
  have N141 := Fr.snoc X133 N125 g_a0
  obtain ⟨T142, X142, e142, st142⟩ := getF X133 hx hZ hown (host := "") (Or.inl (hw _ (List.mem_of_getElem? (i := 10) rfl))) Via.refl e133 f133w (g := (mkF m 30 #[.val (.ref a0), .val (.int p1)] [(.ref a0)])) rfl rfl (hb hby d3_30)
  obtain ⟨T143, X143, e143, st143⟩ := getF X142 hx hZ hown (host := "") (Or.inl (hw _ (List.mem_of_getElem? (i := 17) rfl))) Via.refl e142 f136 (g := (mkF m 35 #[.val (.ref a0), .val (.int p1)] [(.ref a0), (.ref a0), (.ref cx0125)])) rfl rfl (hb hby d3_35)
  obtain ⟨T144, h144, X144, e144, W144, st144⟩ := putF X143 hx hZ hown (host := "") (Or.inl (hw _ (List.mem_of_getElem? (i := 17) rfl))) Via.refl e143 f136 f134 (Or.inl (hw _ (List.mem_of_getElem? (i := 18) rfl))) (hw _ (List.mem_of_getElem? (i := 1) rfl)) (ty := .int) (by decide) rfl rfl (g := (mkF m 41 #[.val (.ref a0), .val (.int p1)] [(.int (5 : Int32)), (.ref a0), (.int (4 : Int32)), (.ref cx0125)])) rfl rfl (hb hby d3_41)
  have f144w : Fld Z h144 a0 "com/example/subsumer/subsumer/classification/IntList" "size" "I" (.int (5 : Int32)) := f136.same W144
  have f145 := f134.wr W144
  have f146 := f133w.other W144 (Or.inr (slot_ne (Or.inl (hw _ (List.mem_of_getElem? (i := 11) rfl))) (Or.inl (hw _ (List.mem_of_getElem? (i := 18) rfl))) (by decide) (t := (.array .int)) (t' := .int) (by decide) (by decide)))
  have f148 := f137.other W144 (Ne.symm ne_a0_bb)
  have f149 := f138.other W144 (Ne.symm ne131)
  have K150 := K139.wr W144 (Or.inl (List.mem_of_getElem? (i := 0) rfl))
  have Z151 := Nat.le_trans Z140 (Keep.of_wr W144).1
  have N152 := Fr.snoc X144 N141 g_a0
  obtain ⟨cl153, Ar153, q153, S153, M153, H153, G153⟩ := id f149
  have hin154 : ¬ ((4 : Int32) < 0 ∨ cl153.slots.size ≤ ((4 : Int32)).toNatClampNeg) := inb_of S153 ⟨by decide, by decide⟩
  obtain ⟨T155, h155, X155, e155, W155, st155⟩ := stI X144 hx hZ e144 Ar153 (j := (4 : Int32)) hin154 (g := (mkF m 45 #[.val (.ref a0), .val (.int p1)] [(.int p1), (.int (4 : Int32)), (.ref cx0125)])) rfl rfl (hb hby d3_45)
  have V155 : Arv Z h155 cx0125 cy0125 .int (8 : Int32) [(.int u0), (.int u1), (.int u2), (.int u3), (.int p1), (.int (0 : Int32)), (.int (0 : Int32)), (.int (0 : Int32))] (.int (0 : Int32)) := Arv.set Ar153 q153 S153 M153 H153 G153 rfl W155 4 rfl (Nat.le_of_ble_eq_true rfl)
  have f156 := f145.wr W155
  have f157 := f146.other W155 (Or.inl ne131)
  have f158 := f144w.other W155 (Or.inl ne131)
  have f159 := f148.other W155 ne132
  have K161 := K150.wr W155 (Or.inr sz_cx0125)
  have Z162 := Nat.le_trans Z151 (Keep.of_wr W155).1
  have N163 := Fr.snoc X155 N152 g_cx0125
  obtain ⟨fs, hr, hrun, hended, hW, hsame⟩ := X155.leave (v := none) (fun _ => rfl)
  refine ⟨_, _, pre0 _ ?_, hrun, hended, _, _, rfl, ?_, ⟨_, rfl⟩, hW, hsame.mono (by decide) (by decide)⟩
  · skip
    show Steps p.tables e below (s₁.setTop (mkF m 0 #[.val (.ref a0), .val (.int p1)] [])) _
    refine XS.aloadN X0.here hx rfl (hb hby d3_0) rfl rfl ?_
    show Steps p.tables e below (s₁.setTop (mkF m 1 #[.val (.ref a0), .val (.int p1)] [(.ref a0)])) _
    refine st120 _ ?_
    show Steps p.tables e below (T120.setTop (mkF m 4 #[.val (.ref a0), .val (.int p1)] [(.int (4 : Int32))])) _
    refine XS.aloadN X120.here hx rfl (hb hby d3_4) rfl rfl ?_
    show Steps p.tables e below (T120.setTop (mkF m 5 #[.val (.ref a0), .val (.int p1)] [(.ref a0), (.int (4 : Int32))])) _
    refine st121 _ ?_
    show Steps p.tables e below (T121.setTop (mkF m 8 #[.val (.ref a0), .val (.int p1)] [(.ref bb), (.int (4 : Int32))])) _
    refine X121.arraylength hx (by rw [e121]; exact Ar122.1) (State.isArrayOf_alike hZ.alike Ar122.2.1) (g := (mkF m 8 #[.val (.ref a0), .val (.int p1)] [(.ref bb), (.int (4 : Int32))])) rfl rfl (hb hby d3_8) _ ?_
    rw [len_of S122 M122]
    show Steps p.tables e below (T121.setTop (mkF m 9 #[.val (.ref a0), .val (.int p1)] [(.int (4 : Int32)), (.int (4 : Int32))])) _
    refine XS.icmpNo X121.here hx rfl (hb hby d3_9) rfl (teq (rfl : (4 : Int32) = (4 : Int32))).2 ?_
    show Steps p.tables e below (T121.setTop (mkF m 12 #[.val (.ref a0), .val (.int p1)] [])) _
    refine XS.aloadN X121.here hx rfl (hb hby d3_12) rfl rfl ?_
    show Steps p.tables e below (T121.setTop (mkF m 13 #[.val (.ref a0), .val (.int p1)] [(.ref a0)])) _
    refine XS.aloadN X121.here hx rfl (hb hby d3_13) rfl rfl ?_
    show Steps p.tables e below (T121.setTop (mkF m 14 #[.val (.ref a0), .val (.int p1)] [(.ref a0), (.ref a0)])) _
    refine st123 _ ?_
    show Steps p.tables e below (T123.setTop (mkF m 17 #[.val (.ref a0), .val (.int p1)] [(.ref bb), (.ref a0)])) _
    refine XS.aloadN X123.here hx rfl (hb hby d3_17) rfl rfl ?_
    show Steps p.tables e below (T123.setTop (mkF m 18 #[.val (.ref a0), .val (.int p1)] [(.ref a0), (.ref bb), (.ref a0)])) _
    refine st124 _ ?_
    show Steps p.tables e below (T124.setTop (mkF m 21 #[.val (.ref a0), .val (.int p1)] [(.int (4 : Int32)), (.ref bb), (.ref a0)])) _
    refine XS.iconst X124.here hx rfl (hb hby d3_21) ?_
    show Steps p.tables e below (T124.setTop (mkF m 22 #[.val (.ref a0), .val (.int p1)] [(.int (2 : Int32)), (.int (4 : Int32)), (.ref bb), (.ref a0)])) _
    refine XS.imul X124.here hx rfl (hb hby d3_22) rfl ?_
    show Steps p.tables e below (T124.setTop (mkF m 23 #[.val (.ref a0), .val (.int p1)] [(.int (8 : Int32)), (.ref bb), (.ref a0)])) _
    refine st125 _ ?_
    show Steps p.tables e below (T125.setTop (mkF m 26 #[.val (.ref a0), .val (.int p1)] [(.ref cx0125), (.ref a0)])) _
    refine st133 _ ?_
    show Steps p.tables e below (T133.setTop (mkF m 29 #[.val (.ref a0), .val (.int p1)] [])) _
    refine XS.aloadN X133.here hx rfl (hb hby d3_29) rfl rfl ?_
    show Steps p.tables e below (T133.setTop (mkF m 30 #[.val (.ref a0), .val (.int p1)] [(.ref a0)])) _
    refine st142 _ ?_
    show Steps p.tables e below (T142.setTop (mkF m 33 #[.val (.ref a0), .val (.int p1)] [(.ref cx0125)])) _
    refine XS.aloadN X142.here hx rfl (hb hby d3_33) rfl rfl ?_
    show Steps p.tables e below (T142.setTop (mkF m 34 #[.val (.ref a0), .val (.int p1)] [(.ref a0), (.ref cx0125)])) _
    refine XS.dup X142.here hx rfl (hb hby d3_34) rfl rfl ?_
    show Steps p.tables e below (T142.setTop (mkF m 35 #[.val (.ref a0), .val (.int p1)] [(.ref a0), (.ref a0), (.ref cx0125)])) _
    refine st143 _ ?_
    show Steps p.tables e below (T143.setTop (mkF m 38 #[.val (.ref a0), .val (.int p1)] [(.int (4 : Int32)), (.ref a0), (.ref cx0125)])) _
    refine XS.dupX1 X143.here hx rfl (hb hby d3_38) rfl rfl rfl ?_
    show Steps p.tables e below (T143.setTop (mkF m 39 #[.val (.ref a0), .val (.int p1)] [(.int (4 : Int32)), (.ref a0), (.int (4 : Int32)), (.ref cx0125)])) _
    refine XS.iconst X143.here hx rfl (hb hby d3_39) ?_
    show Steps p.tables e below (T143.setTop (mkF m 40 #[.val (.ref a0), .val (.int p1)] [(.int (1 : Int32)), (.int (4 : Int32)), (.ref a0), (.int (4 : Int32)), (.ref cx0125)])) _
    refine XS.iadd X143.here hx rfl (hb hby d3_40) rfl ?_
    show Steps p.tables e below (T143.setTop (mkF m 41 #[.val (.ref a0), .val (.int p1)] [(.int (5 : Int32)), (.ref a0), (.int (4 : Int32)), (.ref cx0125)])) _
    refine st144 _ ?_
    show Steps p.tables e below (T144.setTop (mkF m 44 #[.val (.ref a0), .val (.int p1)] [(.int (4 : Int32)), (.ref cx0125)])) _
    refine XS.iloadN X144.here hx rfl (hb hby d3_44) rfl ?_
    show Steps p.tables e below (T144.setTop (mkF m 45 #[.val (.ref a0), .val (.int p1)] [(.int p1), (.int (4 : Int32)), (.ref cx0125)])) _
    refine st155 _ ?_
    show Steps p.tables e below (T155.setTop (mkF m 46 #[.val (.ref a0), .val (.int p1)] [])) _
    exact X155.returnOut hx Bd.returns (hb hby d3_46) hr
  · show Q3_4_4 Z a0 p1 bb u0 u1 u2 u3 k_bb h0 n0 _ T155.heap _
    rw [e155]
    exact ⟨cx0125, cy0125, rfl, N163, K161, g_cx0125, sz_cx0125, f156, f158, f157, V155⟩
theorem d4_0 : decode prog_2_method_3_code 0 = .ok (.aload_n 0, 1) := by decide +kernel
theorem d4_1 : decode prog_2_method_3_code 1 = .ok (.iload_n 1, 1) := by decide +kernel
theorem pd_4 : parseMethodDescriptor "(I)V" = some ⟨[.int], none⟩ := by decide +kernel
theorem d4_2 : decode prog_2_method_3_code 2 = .ok (.invokevirtual 23, 3) := by decide +kernel
theorem d4_5 : decode prog_2_method_3_code 5 = .ok (.aload_n 0, 1) := by decide +kernel
theorem d4_6 : decode prog_2_method_3_code 6 = .ok (.iload_n 2, 1) := by decide +kernel
theorem d4_7 : decode prog_2_method_3_code 7 = .ok (.invokevirtual 23, 3) := by decide +kernel
theorem d4_10 : decode prog_2_method_3_code 10 = .ok (.return_, 1) := by decide +kernel
theorem ef4 (m : MethodId) (x0 : Addr) (x1 : Int32) (x2 : Int32) : entryFrame m #[(.ref x0), (.int x1), (.int x2)] 3 = mkF m 0 #[.val (.ref x0), .val (.int x1), .val (.int x2)] [] := by first | (simp [entryFrame, mkF, argsToLocals, Value.category]; done) | rfl
abbrev rr4 : Room := { frames := 1, cells := 0, slots := 0, locals := 13 }
def Q4 (Z : State) (a0 : Addr) (p1 : Int32) (p2 : Int32) (bb : Addr) (u0 : Int32) (u1 : Int32) (u2 : Int32) (u3 : Int32) (k_bb : ClassId) (h0 : Heap) (n0 : Nat) (v : Option Value) (h : Heap) (L : List Loc) : Prop := v = none ∧ Fr n0 L ∧ Keep h0 h [a0, bb] ∧ Exa Z h a0 "com/example/subsumer/subsumer/classification/IntList" ∧ Fld Z h a0 "com/example/subsumer/subsumer/classification/IntList" "size" "I" (.int (4 : Int32)) ∧ Fld Z h a0 "com/example/subsumer/subsumer/classification/IntList" "items" "[I" (.ref bb) ∧ Arv Z h bb k_bb .int (4 : Int32) [(.int u0), (.int u1), (.int p1), (.int p2)] (.int (0 : Int32))
set_option maxRecDepth 65536 in
set_option maxHeartbeats 40000000 in
theorem rm4 (l : Launch) (Z : State) (aw : Array Value) (hw : ∀ d ∈ tables_1, d.before aw Z = true) (ws : List Jvm.Cond) (a0 : Addr) (p1 : Int32) (p2 : Int32) (bb : Addr) (u0 : Int32) (u1 : Int32) (u2 : Int32) (u3 : Int32) (k_bb : ClassId) (h0 : Heap) (n0 : Nat) (Z0 : n0 ≤ h0.size) (E_a0 : Exa Z h0 a0 "com/example/subsumer/subsumer/classification/IntList") (F_items_a0 : Fld Z h0 a0 "com/example/subsumer/subsumer/classification/IntList" "items" "[I" (.ref bb)) (F_size_a0 : Fld Z h0 a0 "com/example/subsumer/subsumer/classification/IntList" "size" "I" (.int (2 : Int32))) (V_bb : Arv Z h0 bb k_bb .int (4 : Int32) [(.int u0), (.int u1), (.int u2), (.int u3)] (.int (0 : Int32))) (g_a0 : n0 ≤ a0) (g_bb : n0 ≤ bb) (ne_a0_bb : a0 ≠ bb) :
    MetFree l (⟨"com/example/subsumer/subsumer/classification/IntList", "add", "(II)V"⟩ : MethodName) (head1 (Jvm.Cond.code (⟨"com/example/subsumer/subsumer/classification/IntList", "add", "(II)V"⟩ : MethodName) prog_2_method_3_code 3 none :: ws) rr4) (fun a U => a = #[(.ref a0), (.int p1), (.int p2)] ∧ Z.Warmed39 U.vm ∧ U.heap = h0) (fun _ _ _ _ _ => True) (fun _ U o U' => ∃ v L, o = .returned v ∧ Q4 Z a0 p1 p2 bb u0 u1 u2 u3 k_bb h0 n0 v U'.heap L ∧ FrameEnd U o U' L rr4.cells rr4.slots) := by
  refine MetFree.of_bodySF (plainFor_of_name pn_1) hisR ?_
  intro p e s m args below meth c s₁ Bd hml0 hP hK
  obtain ⟨rfl, hZ, hh⟩ := hP
  have hx := Bd.exec
  have hby := Bd.bytes
  have hml : c.maxLocals = 3 := hml0
  have hown : s.vm.findClass "com/example/subsumer/subsumer/classification/IntList" = some m.cls := findClass_of_methodNamed Bd.named
  have hnm := (name_of_methodNamed Bd.named Bd.method).1
  have X0 : Stand p l e rr4 s m #[(.ref a0), (.int p1), (.int p2)] below meth c s₁ [] 0 0 := Stand.of_body Bd
  have e0 : s₁.heap = h0 := by rw [← hh, Bd.state]; rfl
  have N0 := Fr.nil n0
  have K0 := Keep.refl h0 [a0, bb]
  have pre0 : ∀ t, Steps p.tables e below (s₁.setTop (mkF m 0 #[.val (.ref a0), .val (.int p1), .val (.int p2)] [])) t → Steps p.tables e below (s₁.setTop (entryFrame m #[(.ref a0), (.int p1), (.int p2)] 3)) t := fun t k => castTop (ef4 m a0 p1 p2) k
  obtain ⟨cq164, kq164, q164a, q164b, q164c⟩ := isOf hZ e0 E_a0
  obtain ⟨_, _, ⟨T164, L164, k164, n164⟩, -, X164, ⟨Lc164, hQ164, l164, y164, z164⟩, st164⟩ := X0.virtualBack hx (y := (⟨"com/example/subsumer/subsumer/classification/IntList", "add", "(I)V"⟩ : MethodName)) (z := (⟨"com/example/subsumer/subsumer/classification/IntList", "add", "(I)V"⟩ : MethodName)) hown (mvT hZ (hw _ (List.mem_of_getElem? (i := 24) rfl))) (mvT hZ (hw _ (List.mem_of_getElem? (i := 13) rfl))) (notFace_of_selects (args := #[]) (mvT hZ (hw _ (List.mem_of_getElem? (i := 15) rfl)))) (mvT hZ (hw _ (List.mem_of_getElem? (i := 15) rfl))) (mvT hZ (hw _ (List.mem_of_getElem? (i := 14) rfl))) (by decide) (backOf (W := 0) (rm3_4_2 l Z aw hw [] a0 p1 bb u0 u1 u2 u3 k_bb h0 n0 Z0 E_a0 F_items_a0 F_size_a0 V_bb g_a0 g_bb ne_a0_bb) hZ (hw _ (List.mem_of_getElem? (i := 16) rfl)) (hw _ (List.mem_of_getElem? (i := 2) rfl)) (by decide) (by decide)) q164a q164c (g := (mkF m 2 #[.val (.ref a0), .val (.int p1), .val (.int p2)] [(.int p1), (.ref a0)])) rfl (by rw [hml]; rfl) (Steps.refl _) (argsL := [(.int p1)]) (rest := []) (lenOf pd_4 rfl) rfl (by show 2 * 0 + _ ≤ _; exact Nat.le_of_eq rfl) (hb hby d4_2) (fun _ _ => ⟨rfl, e0, (by decide : 0 + 0 ≤ _), (by decide : 0 + 0 ≤ _)⟩)
  dsimp only [Pt.U, Pt.locs, Pt.cells, Pt.slots] at X164 l164 y164 z164 st164 hQ164
  subst l164 y164 z164
  obtain ⟨h164, e164⟩ : ∃ z, T164.heap = z := ⟨_, rfl⟩
  rw [e164] at hQ164
  obtain ⟨rfl, N164q, K164q, f165, f166, f167, f168⟩ := hQ164
  have f169 := E_a0.keep K164q
  have K164 := K0.trans K164q (allS (Or.inl (List.mem_of_getElem? (i := 0) rfl)) (allS (Or.inl (List.mem_of_getElem? (i := 1) rfl)) all0))
  have Z164 := Nat.le_trans Z0 K164q.1
  have N164 := Fr.app N0 N164q
  obtain ⟨cq173, kq173, q173a, q173b, q173c⟩ := isOf hZ e164 f165
  obtain ⟨_, _, ⟨T173, L173, k173, n173⟩, -, X173, ⟨Lc173, hQ173, l173, y173, z173⟩, st173⟩ := X164.virtualBack hx (y := (⟨"com/example/subsumer/subsumer/classification/IntList", "add", "(I)V"⟩ : MethodName)) (z := (⟨"com/example/subsumer/subsumer/classification/IntList", "add", "(I)V"⟩ : MethodName)) hown (mvT hZ (hw _ (List.mem_of_getElem? (i := 24) rfl))) (mvT hZ (hw _ (List.mem_of_getElem? (i := 13) rfl))) (notFace_of_selects (args := #[]) (mvT hZ (hw _ (List.mem_of_getElem? (i := 15) rfl)))) (mvT hZ (hw _ (List.mem_of_getElem? (i := 15) rfl))) (mvT hZ (hw _ (List.mem_of_getElem? (i := 14) rfl))) (by decide) (backOf (W := 0) (rm3_4_3 l Z aw hw [] a0 p2 bb u0 u1 p1 u3 k_bb h164 n0 Z164 f165 f167 f166 f168 g_a0 g_bb ne_a0_bb) hZ (hw _ (List.mem_of_getElem? (i := 16) rfl)) (hw _ (List.mem_of_getElem? (i := 2) rfl)) (by decide) (by decide)) q173a q173c (g := (mkF m 7 #[.val (.ref a0), .val (.int p1), .val (.int p2)] [(.int p2), (.ref a0)])) rfl (by rw [hml]; rfl) (Steps.refl _) (argsL := [(.int p2)]) (rest := []) (lenOf pd_4 rfl) rfl (by show 2 * 0 + _ ≤ _; exact Nat.le_of_eq rfl) (hb hby d4_7) (fun _ _ => ⟨rfl, e164, (by decide : 0 + 0 ≤ _), (by decide : 0 + 0 ≤ _)⟩)
  dsimp only [Pt.U, Pt.locs, Pt.cells, Pt.slots] at X173 l173 y173 z173 st173 hQ173
  subst l173 y173 z173
  obtain ⟨h173, e173⟩ : ∃ z, T173.heap = z := ⟨_, rfl⟩
  rw [e173] at hQ173
  obtain ⟨rfl, N173q, K173q, f174, f175, f176, f177⟩ := hQ173
  have f178 := f165.keep K173q
  have K173 := K164.trans K173q (allS (Or.inl (List.mem_of_getElem? (i := 0) rfl)) (allS (Or.inl (List.mem_of_getElem? (i := 1) rfl)) all0))
  have Z173 := Nat.le_trans Z164 K173q.1
  have N173 := Fr.app N164 N173q
  obtain ⟨fs, hr, hrun, hended, hW, hsame⟩ := X173.leave (v := none) (fun _ => rfl)
  refine ⟨_, _, pre0 _ ?_, hrun, hended, _, _, rfl, ?_, ⟨_, rfl⟩, hW, hsame.mono (by decide) (by decide)⟩
  · skip
    show Steps p.tables e below (s₁.setTop (mkF m 0 #[.val (.ref a0), .val (.int p1), .val (.int p2)] [])) _
    refine XS.aloadN X0.here hx rfl (hb hby d4_0) rfl rfl ?_
    show Steps p.tables e below (s₁.setTop (mkF m 1 #[.val (.ref a0), .val (.int p1), .val (.int p2)] [(.ref a0)])) _
    refine XS.iloadN X0.here hx rfl (hb hby d4_1) rfl ?_
    show Steps p.tables e below (s₁.setTop (mkF m 2 #[.val (.ref a0), .val (.int p1), .val (.int p2)] [(.int p1), (.ref a0)])) _
    refine st164.trans ?_
    show Steps p.tables e below (T164.setTop (mkF m 5 #[.val (.ref a0), .val (.int p1), .val (.int p2)] [])) _
    refine XS.aloadN X164.here hx rfl (hb hby d4_5) rfl rfl ?_
    show Steps p.tables e below (T164.setTop (mkF m 6 #[.val (.ref a0), .val (.int p1), .val (.int p2)] [(.ref a0)])) _
    refine XS.iloadN X164.here hx rfl (hb hby d4_6) rfl ?_
    show Steps p.tables e below (T164.setTop (mkF m 7 #[.val (.ref a0), .val (.int p1), .val (.int p2)] [(.int p2), (.ref a0)])) _
    refine st173.trans ?_
    show Steps p.tables e below (T173.setTop (mkF m 10 #[.val (.ref a0), .val (.int p1), .val (.int p2)] [])) _
    exact X173.returnOut hx Bd.returns (hb hby d4_10) hr
  · show Q4 Z a0 p1 p2 bb u0 u1 u2 u3 k_bb h0 n0 _ T173.heap _
    rw [e173]
    exact ⟨rfl, N173, K173, f174, f175, f176, f177⟩
theorem d7_0 : decode prog_2_method_7_code 0 = .ok (.aload_n 0, 1) := by decide +kernel
theorem d7_1 : decode prog_2_method_7_code 1 = .ok (.getfield 7, 3) := by decide +kernel
theorem d7_4 : decode prog_2_method_7_code 4 = .ok (.aload_n 0, 1) := by decide +kernel
theorem d7_5 : decode prog_2_method_7_code 5 = .ok (.dup, 1) := by decide +kernel
theorem d7_6 : decode prog_2_method_7_code 6 = .ok (.getfield 13, 3) := by decide +kernel
theorem d7_9 : decode prog_2_method_7_code 9 = .ok (.iconst 1, 1) := by decide +kernel
theorem d7_10 : decode prog_2_method_7_code 10 = .ok (.isub, 1) := by decide +kernel
theorem d7_11 : decode prog_2_method_7_code 11 = .ok (.dup_x1, 1) := by decide +kernel
theorem d7_12 : decode prog_2_method_7_code 12 = .ok (.putfield 13, 3) := by decide +kernel
theorem d7_15 : decode prog_2_method_7_code 15 = .ok (.iaload, 1) := by decide +kernel
theorem d7_16 : decode prog_2_method_7_code 16 = .ok (.ireturn, 1) := by decide +kernel
theorem ef7_8_5 (m : MethodId) (x0 : Addr) : entryFrame m #[(.ref x0)] 1 = mkF m 0 #[.val (.ref x0)] [] := by first | (simp [entryFrame, mkF, argsToLocals, Value.category]; done) | rfl
abbrev rr7_8_5 : Room := { frames := 0, cells := 0, slots := 0, locals := 0 }
def Q7_8_5 (Z : State) (a0 : Addr) (bb : Addr) (u0 : Int32) (u1 : Int32) (u2 : Int32) (u3 : Int32) (u4 : Int32) (u5 : Int32) (u6 : Int32) (u7 : Int32) (k_bb : ClassId) (h0 : Heap) (n0 : Nat) (v : Option Value) (h : Heap) (L : List Loc) : Prop := v = some (.int u4) ∧ Fr n0 L ∧ Keep h0 h [a0] ∧ Exa Z h a0 "com/example/subsumer/subsumer/classification/IntList" ∧ Fld Z h a0 "com/example/subsumer/subsumer/classification/IntList" "size" "I" (.int (4 : Int32)) ∧ Fld Z h a0 "com/example/subsumer/subsumer/classification/IntList" "items" "[I" (.ref bb)
set_option maxRecDepth 65536 in
set_option maxHeartbeats 40000000 in
theorem rm7_8_5 (l : Launch) (Z : State) (aw : Array Value) (hw : ∀ d ∈ tables_1, d.before aw Z = true) (ws : List Jvm.Cond) (a0 : Addr) (bb : Addr) (u0 : Int32) (u1 : Int32) (u2 : Int32) (u3 : Int32) (u4 : Int32) (u5 : Int32) (u6 : Int32) (u7 : Int32) (k_bb : ClassId) (h0 : Heap) (n0 : Nat) (Z0 : n0 ≤ h0.size) (E_a0 : Exa Z h0 a0 "com/example/subsumer/subsumer/classification/IntList") (F_items_a0 : Fld Z h0 a0 "com/example/subsumer/subsumer/classification/IntList" "items" "[I" (.ref bb)) (F_size_a0 : Fld Z h0 a0 "com/example/subsumer/subsumer/classification/IntList" "size" "I" (.int (5 : Int32))) (V_bb : Arv Z h0 bb k_bb .int (8 : Int32) [(.int u0), (.int u1), (.int u2), (.int u3), (.int u4), (.int u5), (.int u6), (.int u7)] (.int (0 : Int32))) (g_a0 : n0 ≤ a0) (ne_a0_bb : a0 ≠ bb) :
    MetFree l (⟨"com/example/subsumer/subsumer/classification/IntList", "pop", "()I"⟩ : MethodName) (head1 (Jvm.Cond.code (⟨"com/example/subsumer/subsumer/classification/IntList", "pop", "()I"⟩ : MethodName) prog_2_method_7_code 1 (some .int) :: ws) rr7_8_5) (fun a U => a = #[(.ref a0)] ∧ Z.Warmed39 U.vm ∧ U.heap = h0) (fun _ _ _ _ _ => True) (fun _ U o U' => ∃ v L, o = .returned v ∧ Q7_8_5 Z a0 bb u0 u1 u2 u3 u4 u5 u6 u7 k_bb h0 n0 v U'.heap L ∧ FrameEnd U o U' L rr7_8_5.cells rr7_8_5.slots) := by
  refine MetFree.of_bodySF (plainFor_of_name pn_1) hisR ?_
  intro p e s m args below meth c s₁ Bd hml0 hP hK
  obtain ⟨rfl, hZ, hh⟩ := hP
  have hx := Bd.exec
  have hby := Bd.bytes
  have hml : c.maxLocals = 1 := hml0
  have hown : s.vm.findClass "com/example/subsumer/subsumer/classification/IntList" = some m.cls := findClass_of_methodNamed Bd.named
  have hnm := (name_of_methodNamed Bd.named Bd.method).1
  have X0 : Stand p l e rr7_8_5 s m #[(.ref a0)] below meth c s₁ [] 0 0 := Stand.of_body Bd
  have e0 : s₁.heap = h0 := by rw [← hh, Bd.state]; rfl
  have N0 := Fr.nil n0
  have K0 := Keep.refl h0 [a0]
  have pre0 : ∀ t, Steps p.tables e below (s₁.setTop (mkF m 0 #[.val (.ref a0)] [])) t → Steps p.tables e below (s₁.setTop (entryFrame m #[(.ref a0)] 1)) t := fun t k => castTop (ef7_8_5 m a0) k
  obtain ⟨T182, X182, e182, st182⟩ := getF X0 hx hZ hown (host := "") (Or.inl (hw _ (List.mem_of_getElem? (i := 10) rfl))) Via.refl e0 F_items_a0 (g := (mkF m 1 #[.val (.ref a0)] [(.ref a0)])) rfl rfl (hb hby d7_1)
  obtain ⟨T183, X183, e183, st183⟩ := getF X182 hx hZ hown (host := "") (Or.inl (hw _ (List.mem_of_getElem? (i := 17) rfl))) Via.refl e182 F_size_a0 (g := (mkF m 6 #[.val (.ref a0)] [(.ref a0), (.ref a0), (.ref bb)])) rfl rfl (hb hby d7_6)
  obtain ⟨T184, h184, X184, e184, W184, st184⟩ := putF X183 hx hZ hown (host := "") (Or.inl (hw _ (List.mem_of_getElem? (i := 17) rfl))) Via.refl e183 F_size_a0 E_a0 (Or.inl (hw _ (List.mem_of_getElem? (i := 18) rfl))) (hw _ (List.mem_of_getElem? (i := 1) rfl)) (ty := .int) (by decide) rfl rfl (g := (mkF m 12 #[.val (.ref a0)] [(.int (4 : Int32)), (.ref a0), (.int (4 : Int32)), (.ref bb)])) rfl rfl (hb hby d7_12)
  have f184w : Fld Z h184 a0 "com/example/subsumer/subsumer/classification/IntList" "size" "I" (.int (4 : Int32)) := F_size_a0.same W184
  have f185 := E_a0.wr W184
  have f186 := F_items_a0.other W184 (Or.inr (slot_ne (Or.inl (hw _ (List.mem_of_getElem? (i := 11) rfl))) (Or.inl (hw _ (List.mem_of_getElem? (i := 18) rfl))) (by decide) (t := (.array .int)) (t' := .int) (by decide) (by decide)))
  have f188 := V_bb.other W184 (Ne.symm ne_a0_bb)
  have K189 := K0.wr W184 (Or.inl (List.mem_of_getElem? (i := 0) rfl))
  have Z190 := Nat.le_trans Z0 (Keep.of_wr W184).1
  have N191 := Fr.snoc X184 N0 g_a0
  obtain ⟨cl192, Ar192, q192, S192, M192, H192, G192⟩ := id f188
  have hin193 : ¬ ((4 : Int32) < 0 ∨ cl192.slots.size ≤ ((4 : Int32)).toNatClampNeg) := inb_of S192 ⟨by decide, by decide⟩
  have hat194 : cl192.slots[((4 : Int32)).toNatClampNeg]? = some (.int u4) := H192.at hin193 rfl
  obtain ⟨fs, hr, hrun, hended, hW, hsame⟩ := X184.leave (v := some (.int u4)) (fun h => by rw [Bd.returns] at h; cases h)
  refine ⟨_, _, pre0 _ ?_, hrun, hended, _, _, rfl, ?_, ⟨_, rfl⟩, hW, hsame.mono (by decide) (by decide)⟩
  · skip
    show Steps p.tables e below (s₁.setTop (mkF m 0 #[.val (.ref a0)] [])) _
    refine XS.aloadN X0.here hx rfl (hb hby d7_0) rfl rfl ?_
    show Steps p.tables e below (s₁.setTop (mkF m 1 #[.val (.ref a0)] [(.ref a0)])) _
    refine st182 _ ?_
    show Steps p.tables e below (T182.setTop (mkF m 4 #[.val (.ref a0)] [(.ref bb)])) _
    refine XS.aloadN X182.here hx rfl (hb hby d7_4) rfl rfl ?_
    show Steps p.tables e below (T182.setTop (mkF m 5 #[.val (.ref a0)] [(.ref a0), (.ref bb)])) _
    refine XS.dup X182.here hx rfl (hb hby d7_5) rfl rfl ?_
    show Steps p.tables e below (T182.setTop (mkF m 6 #[.val (.ref a0)] [(.ref a0), (.ref a0), (.ref bb)])) _
    refine st183 _ ?_
    show Steps p.tables e below (T183.setTop (mkF m 9 #[.val (.ref a0)] [(.int (5 : Int32)), (.ref a0), (.ref bb)])) _
    refine XS.iconst X183.here hx rfl (hb hby d7_9) ?_
    show Steps p.tables e below (T183.setTop (mkF m 10 #[.val (.ref a0)] [(.int (1 : Int32)), (.int (5 : Int32)), (.ref a0), (.ref bb)])) _
    refine XS.isub X183.here hx rfl (hb hby d7_10) rfl ?_
    show Steps p.tables e below (T183.setTop (mkF m 11 #[.val (.ref a0)] [(.int (4 : Int32)), (.ref a0), (.ref bb)])) _
    refine XS.dupX1 X183.here hx rfl (hb hby d7_11) rfl rfl rfl ?_
    show Steps p.tables e below (T183.setTop (mkF m 12 #[.val (.ref a0)] [(.int (4 : Int32)), (.ref a0), (.int (4 : Int32)), (.ref bb)])) _
    refine st184 _ ?_
    show Steps p.tables e below (T184.setTop (mkF m 15 #[.val (.ref a0)] [(.int (4 : Int32)), (.ref bb)])) _
    refine X184.iaload hx (j := (4 : Int32)) (v := (.int u4)) (by rw [e184]; exact Ar192.1) (State.isArrayOf_alike hZ.alike Ar192.2.1) Ar192.2.2 hin193 hat194 (g := (mkF m 15 #[.val (.ref a0)] [(.int (4 : Int32)), (.ref bb)])) rfl rfl (hb hby d7_15) _ ?_
    show Steps p.tables e below (T184.setTop (mkF m 16 #[.val (.ref a0)] [(.int u4)])) _
    exact retOut X184 hx Bd.returns rfl (Or.inl ⟨rfl, Or.inl rfl, _, rfl⟩) (hb hby d7_16) hr
  · show Q7_8_5 Z a0 bb u0 u1 u2 u3 u4 u5 u6 u7 k_bb h0 n0 _ T184.heap _
    rw [e184]
    exact ⟨rfl, N191, K189, f185, f184w, f186⟩
theorem ef7_8_4 (m : MethodId) (x0 : Addr) : entryFrame m #[(.ref x0)] 1 = mkF m 0 #[.val (.ref x0)] [] := by first | (simp [entryFrame, mkF, argsToLocals, Value.category]; done) | rfl
abbrev rr7_8_4 : Room := { frames := 0, cells := 0, slots := 0, locals := 0 }
def Q7_8_4 (Z : State) (a0 : Addr) (bb : Addr) (u0 : Int32) (u1 : Int32) (u2 : Int32) (u3 : Int32) (u4 : Int32) (u5 : Int32) (u6 : Int32) (u7 : Int32) (k_bb : ClassId) (h0 : Heap) (n0 : Nat) (v : Option Value) (h : Heap) (L : List Loc) : Prop := v = some (.int u3) ∧ Fr n0 L ∧ Keep h0 h [a0] ∧ Exa Z h a0 "com/example/subsumer/subsumer/classification/IntList" ∧ Fld Z h a0 "com/example/subsumer/subsumer/classification/IntList" "size" "I" (.int (3 : Int32)) ∧ Fld Z h a0 "com/example/subsumer/subsumer/classification/IntList" "items" "[I" (.ref bb)
set_option maxRecDepth 65536 in
set_option maxHeartbeats 40000000 in
theorem rm7_8_4 (l : Launch) (Z : State) (aw : Array Value) (hw : ∀ d ∈ tables_1, d.before aw Z = true) (ws : List Jvm.Cond) (a0 : Addr) (bb : Addr) (u0 : Int32) (u1 : Int32) (u2 : Int32) (u3 : Int32) (u4 : Int32) (u5 : Int32) (u6 : Int32) (u7 : Int32) (k_bb : ClassId) (h0 : Heap) (n0 : Nat) (Z0 : n0 ≤ h0.size) (E_a0 : Exa Z h0 a0 "com/example/subsumer/subsumer/classification/IntList") (F_items_a0 : Fld Z h0 a0 "com/example/subsumer/subsumer/classification/IntList" "items" "[I" (.ref bb)) (F_size_a0 : Fld Z h0 a0 "com/example/subsumer/subsumer/classification/IntList" "size" "I" (.int (4 : Int32))) (V_bb : Arv Z h0 bb k_bb .int (8 : Int32) [(.int u0), (.int u1), (.int u2), (.int u3), (.int u4), (.int u5), (.int u6), (.int u7)] (.int (0 : Int32))) (g_a0 : n0 ≤ a0) (ne_a0_bb : a0 ≠ bb) :
    MetFree l (⟨"com/example/subsumer/subsumer/classification/IntList", "pop", "()I"⟩ : MethodName) (head1 (Jvm.Cond.code (⟨"com/example/subsumer/subsumer/classification/IntList", "pop", "()I"⟩ : MethodName) prog_2_method_7_code 1 (some .int) :: ws) rr7_8_4) (fun a U => a = #[(.ref a0)] ∧ Z.Warmed39 U.vm ∧ U.heap = h0) (fun _ _ _ _ _ => True) (fun _ U o U' => ∃ v L, o = .returned v ∧ Q7_8_4 Z a0 bb u0 u1 u2 u3 u4 u5 u6 u7 k_bb h0 n0 v U'.heap L ∧ FrameEnd U o U' L rr7_8_4.cells rr7_8_4.slots) := by
  refine MetFree.of_bodySF (plainFor_of_name pn_1) hisR ?_
  intro p e s m args below meth c s₁ Bd hml0 hP hK
  obtain ⟨rfl, hZ, hh⟩ := hP
  have hx := Bd.exec
  have hby := Bd.bytes
  have hml : c.maxLocals = 1 := hml0
  have hown : s.vm.findClass "com/example/subsumer/subsumer/classification/IntList" = some m.cls := findClass_of_methodNamed Bd.named
  have hnm := (name_of_methodNamed Bd.named Bd.method).1
  have X0 : Stand p l e rr7_8_4 s m #[(.ref a0)] below meth c s₁ [] 0 0 := Stand.of_body Bd
  have e0 : s₁.heap = h0 := by rw [← hh, Bd.state]; rfl
  have N0 := Fr.nil n0
  have K0 := Keep.refl h0 [a0]
  have pre0 : ∀ t, Steps p.tables e below (s₁.setTop (mkF m 0 #[.val (.ref a0)] [])) t → Steps p.tables e below (s₁.setTop (entryFrame m #[(.ref a0)] 1)) t := fun t k => castTop (ef7_8_4 m a0) k
  obtain ⟨T195, X195, e195, st195⟩ := getF X0 hx hZ hown (host := "") (Or.inl (hw _ (List.mem_of_getElem? (i := 10) rfl))) Via.refl e0 F_items_a0 (g := (mkF m 1 #[.val (.ref a0)] [(.ref a0)])) rfl rfl (hb hby d7_1)
  obtain ⟨T196, X196, e196, st196⟩ := getF X195 hx hZ hown (host := "") (Or.inl (hw _ (List.mem_of_getElem? (i := 17) rfl))) Via.refl e195 F_size_a0 (g := (mkF m 6 #[.val (.ref a0)] [(.ref a0), (.ref a0), (.ref bb)])) rfl rfl (hb hby d7_6)
  obtain ⟨T197, h197, X197, e197, W197, st197⟩ := putF X196 hx hZ hown (host := "") (Or.inl (hw _ (List.mem_of_getElem? (i := 17) rfl))) Via.refl e196 F_size_a0 E_a0 (Or.inl (hw _ (List.mem_of_getElem? (i := 18) rfl))) (hw _ (List.mem_of_getElem? (i := 1) rfl)) (ty := .int) (by decide) rfl rfl (g := (mkF m 12 #[.val (.ref a0)] [(.int (3 : Int32)), (.ref a0), (.int (3 : Int32)), (.ref bb)])) rfl rfl (hb hby d7_12)
  have f197w : Fld Z h197 a0 "com/example/subsumer/subsumer/classification/IntList" "size" "I" (.int (3 : Int32)) := F_size_a0.same W197
  have f198 := E_a0.wr W197
  have f199 := F_items_a0.other W197 (Or.inr (slot_ne (Or.inl (hw _ (List.mem_of_getElem? (i := 11) rfl))) (Or.inl (hw _ (List.mem_of_getElem? (i := 18) rfl))) (by decide) (t := (.array .int)) (t' := .int) (by decide) (by decide)))
  have f201 := V_bb.other W197 (Ne.symm ne_a0_bb)
  have K202 := K0.wr W197 (Or.inl (List.mem_of_getElem? (i := 0) rfl))
  have Z203 := Nat.le_trans Z0 (Keep.of_wr W197).1
  have N204 := Fr.snoc X197 N0 g_a0
  obtain ⟨cl205, Ar205, q205, S205, M205, H205, G205⟩ := id f201
  have hin206 : ¬ ((3 : Int32) < 0 ∨ cl205.slots.size ≤ ((3 : Int32)).toNatClampNeg) := inb_of S205 ⟨by decide, by decide⟩
  have hat207 : cl205.slots[((3 : Int32)).toNatClampNeg]? = some (.int u3) := H205.at hin206 rfl
  obtain ⟨fs, hr, hrun, hended, hW, hsame⟩ := X197.leave (v := some (.int u3)) (fun h => by rw [Bd.returns] at h; cases h)
  refine ⟨_, _, pre0 _ ?_, hrun, hended, _, _, rfl, ?_, ⟨_, rfl⟩, hW, hsame.mono (by decide) (by decide)⟩
  · skip
    show Steps p.tables e below (s₁.setTop (mkF m 0 #[.val (.ref a0)] [])) _
    refine XS.aloadN X0.here hx rfl (hb hby d7_0) rfl rfl ?_
    show Steps p.tables e below (s₁.setTop (mkF m 1 #[.val (.ref a0)] [(.ref a0)])) _
    refine st195 _ ?_
    show Steps p.tables e below (T195.setTop (mkF m 4 #[.val (.ref a0)] [(.ref bb)])) _
    refine XS.aloadN X195.here hx rfl (hb hby d7_4) rfl rfl ?_
    show Steps p.tables e below (T195.setTop (mkF m 5 #[.val (.ref a0)] [(.ref a0), (.ref bb)])) _
    refine XS.dup X195.here hx rfl (hb hby d7_5) rfl rfl ?_
    show Steps p.tables e below (T195.setTop (mkF m 6 #[.val (.ref a0)] [(.ref a0), (.ref a0), (.ref bb)])) _
    refine st196 _ ?_
    show Steps p.tables e below (T196.setTop (mkF m 9 #[.val (.ref a0)] [(.int (4 : Int32)), (.ref a0), (.ref bb)])) _
    refine XS.iconst X196.here hx rfl (hb hby d7_9) ?_
    show Steps p.tables e below (T196.setTop (mkF m 10 #[.val (.ref a0)] [(.int (1 : Int32)), (.int (4 : Int32)), (.ref a0), (.ref bb)])) _
    refine XS.isub X196.here hx rfl (hb hby d7_10) rfl ?_
    show Steps p.tables e below (T196.setTop (mkF m 11 #[.val (.ref a0)] [(.int (3 : Int32)), (.ref a0), (.ref bb)])) _
    refine XS.dupX1 X196.here hx rfl (hb hby d7_11) rfl rfl rfl ?_
    show Steps p.tables e below (T196.setTop (mkF m 12 #[.val (.ref a0)] [(.int (3 : Int32)), (.ref a0), (.int (3 : Int32)), (.ref bb)])) _
    refine st197 _ ?_
    show Steps p.tables e below (T197.setTop (mkF m 15 #[.val (.ref a0)] [(.int (3 : Int32)), (.ref bb)])) _
    refine X197.iaload hx (j := (3 : Int32)) (v := (.int u3)) (by rw [e197]; exact Ar205.1) (State.isArrayOf_alike hZ.alike Ar205.2.1) Ar205.2.2 hin206 hat207 (g := (mkF m 15 #[.val (.ref a0)] [(.int (3 : Int32)), (.ref bb)])) rfl rfl (hb hby d7_15) _ ?_
    show Steps p.tables e below (T197.setTop (mkF m 16 #[.val (.ref a0)] [(.int u3)])) _
    exact retOut X197 hx Bd.returns rfl (Or.inl ⟨rfl, Or.inl rfl, _, rfl⟩) (hb hby d7_16) hr
  · show Q7_8_4 Z a0 bb u0 u1 u2 u3 u4 u5 u6 u7 k_bb h0 n0 _ T197.heap _
    rw [e197]
    exact ⟨rfl, N204, K202, f198, f197w, f199⟩
theorem ef7_4_2 (m : MethodId) (x0 : Addr) : entryFrame m #[(.ref x0)] 1 = mkF m 0 #[.val (.ref x0)] [] := by first | (simp [entryFrame, mkF, argsToLocals, Value.category]; done) | rfl
abbrev rr7_4_2 : Room := { frames := 0, cells := 0, slots := 0, locals := 0 }
def Q7_4_2 (Z : State) (a0 : Addr) (bb : Addr) (u0 : Int32) (u1 : Int32) (u2 : Int32) (u3 : Int32) (k_bb : ClassId) (h0 : Heap) (n0 : Nat) (v : Option Value) (h : Heap) (L : List Loc) : Prop := v = some (.int u1) ∧ Fr n0 L ∧ Keep h0 h [a0] ∧ Exa Z h a0 "com/example/subsumer/subsumer/classification/IntList" ∧ Fld Z h a0 "com/example/subsumer/subsumer/classification/IntList" "size" "I" (.int (1 : Int32)) ∧ Fld Z h a0 "com/example/subsumer/subsumer/classification/IntList" "items" "[I" (.ref bb)
set_option maxRecDepth 65536 in
set_option maxHeartbeats 40000000 in
theorem rm7_4_2 (l : Launch) (Z : State) (aw : Array Value) (hw : ∀ d ∈ tables_1, d.before aw Z = true) (ws : List Jvm.Cond) (a0 : Addr) (bb : Addr) (u0 : Int32) (u1 : Int32) (u2 : Int32) (u3 : Int32) (k_bb : ClassId) (h0 : Heap) (n0 : Nat) (Z0 : n0 ≤ h0.size) (E_a0 : Exa Z h0 a0 "com/example/subsumer/subsumer/classification/IntList") (F_items_a0 : Fld Z h0 a0 "com/example/subsumer/subsumer/classification/IntList" "items" "[I" (.ref bb)) (F_size_a0 : Fld Z h0 a0 "com/example/subsumer/subsumer/classification/IntList" "size" "I" (.int (2 : Int32))) (V_bb : Arv Z h0 bb k_bb .int (4 : Int32) [(.int u0), (.int u1), (.int u2), (.int u3)] (.int (0 : Int32))) (g_a0 : n0 ≤ a0) (ne_a0_bb : a0 ≠ bb) :
    MetFree l (⟨"com/example/subsumer/subsumer/classification/IntList", "pop", "()I"⟩ : MethodName) (head1 (Jvm.Cond.code (⟨"com/example/subsumer/subsumer/classification/IntList", "pop", "()I"⟩ : MethodName) prog_2_method_7_code 1 (some .int) :: ws) rr7_4_2) (fun a U => a = #[(.ref a0)] ∧ Z.Warmed39 U.vm ∧ U.heap = h0) (fun _ _ _ _ _ => True) (fun _ U o U' => ∃ v L, o = .returned v ∧ Q7_4_2 Z a0 bb u0 u1 u2 u3 k_bb h0 n0 v U'.heap L ∧ FrameEnd U o U' L rr7_4_2.cells rr7_4_2.slots) := by
  refine MetFree.of_bodySF (plainFor_of_name pn_1) hisR ?_
  intro p e s m args below meth c s₁ Bd hml0 hP hK
  obtain ⟨rfl, hZ, hh⟩ := hP
  have hx := Bd.exec
  have hby := Bd.bytes
  have hml : c.maxLocals = 1 := hml0
  have hown : s.vm.findClass "com/example/subsumer/subsumer/classification/IntList" = some m.cls := findClass_of_methodNamed Bd.named
  have hnm := (name_of_methodNamed Bd.named Bd.method).1
  have X0 : Stand p l e rr7_4_2 s m #[(.ref a0)] below meth c s₁ [] 0 0 := Stand.of_body Bd
  have e0 : s₁.heap = h0 := by rw [← hh, Bd.state]; rfl
  have N0 := Fr.nil n0
  have K0 := Keep.refl h0 [a0]
  have pre0 : ∀ t, Steps p.tables e below (s₁.setTop (mkF m 0 #[.val (.ref a0)] [])) t → Steps p.tables e below (s₁.setTop (entryFrame m #[(.ref a0)] 1)) t := fun t k => castTop (ef7_4_2 m a0) k
  obtain ⟨T208, X208, e208, st208⟩ := getF X0 hx hZ hown (host := "") (Or.inl (hw _ (List.mem_of_getElem? (i := 10) rfl))) Via.refl e0 F_items_a0 (g := (mkF m 1 #[.val (.ref a0)] [(.ref a0)])) rfl rfl (hb hby d7_1)
  obtain ⟨T209, X209, e209, st209⟩ := getF X208 hx hZ hown (host := "") (Or.inl (hw _ (List.mem_of_getElem? (i := 17) rfl))) Via.refl e208 F_size_a0 (g := (mkF m 6 #[.val (.ref a0)] [(.ref a0), (.ref a0), (.ref bb)])) rfl rfl (hb hby d7_6)
  obtain ⟨T210, h210, X210, e210, W210, st210⟩ := putF X209 hx hZ hown (host := "") (Or.inl (hw _ (List.mem_of_getElem? (i := 17) rfl))) Via.refl e209 F_size_a0 E_a0 (Or.inl (hw _ (List.mem_of_getElem? (i := 18) rfl))) (hw _ (List.mem_of_getElem? (i := 1) rfl)) (ty := .int) (by decide) rfl rfl (g := (mkF m 12 #[.val (.ref a0)] [(.int (1 : Int32)), (.ref a0), (.int (1 : Int32)), (.ref bb)])) rfl rfl (hb hby d7_12)
  have f210w : Fld Z h210 a0 "com/example/subsumer/subsumer/classification/IntList" "size" "I" (.int (1 : Int32)) := F_size_a0.same W210
  have f211 := E_a0.wr W210
  have f212 := F_items_a0.other W210 (Or.inr (slot_ne (Or.inl (hw _ (List.mem_of_getElem? (i := 11) rfl))) (Or.inl (hw _ (List.mem_of_getElem? (i := 18) rfl))) (by decide) (t := (.array .int)) (t' := .int) (by decide) (by decide)))
  have f214 := V_bb.other W210 (Ne.symm ne_a0_bb)
  have K215 := K0.wr W210 (Or.inl (List.mem_of_getElem? (i := 0) rfl))
  have Z216 := Nat.le_trans Z0 (Keep.of_wr W210).1
  have N217 := Fr.snoc X210 N0 g_a0
  obtain ⟨cl218, Ar218, q218, S218, M218, H218, G218⟩ := id f214
  have hin219 : ¬ ((1 : Int32) < 0 ∨ cl218.slots.size ≤ ((1 : Int32)).toNatClampNeg) := inb_of S218 ⟨by decide, by decide⟩
  have hat220 : cl218.slots[((1 : Int32)).toNatClampNeg]? = some (.int u1) := H218.at hin219 rfl
  obtain ⟨fs, hr, hrun, hended, hW, hsame⟩ := X210.leave (v := some (.int u1)) (fun h => by rw [Bd.returns] at h; cases h)
  refine ⟨_, _, pre0 _ ?_, hrun, hended, _, _, rfl, ?_, ⟨_, rfl⟩, hW, hsame.mono (by decide) (by decide)⟩
  · skip
    show Steps p.tables e below (s₁.setTop (mkF m 0 #[.val (.ref a0)] [])) _
    refine XS.aloadN X0.here hx rfl (hb hby d7_0) rfl rfl ?_
    show Steps p.tables e below (s₁.setTop (mkF m 1 #[.val (.ref a0)] [(.ref a0)])) _
    refine st208 _ ?_
    show Steps p.tables e below (T208.setTop (mkF m 4 #[.val (.ref a0)] [(.ref bb)])) _
    refine XS.aloadN X208.here hx rfl (hb hby d7_4) rfl rfl ?_
    show Steps p.tables e below (T208.setTop (mkF m 5 #[.val (.ref a0)] [(.ref a0), (.ref bb)])) _
    refine XS.dup X208.here hx rfl (hb hby d7_5) rfl rfl ?_
    show Steps p.tables e below (T208.setTop (mkF m 6 #[.val (.ref a0)] [(.ref a0), (.ref a0), (.ref bb)])) _
    refine st209 _ ?_
    show Steps p.tables e below (T209.setTop (mkF m 9 #[.val (.ref a0)] [(.int (2 : Int32)), (.ref a0), (.ref bb)])) _
    refine XS.iconst X209.here hx rfl (hb hby d7_9) ?_
    show Steps p.tables e below (T209.setTop (mkF m 10 #[.val (.ref a0)] [(.int (1 : Int32)), (.int (2 : Int32)), (.ref a0), (.ref bb)])) _
    refine XS.isub X209.here hx rfl (hb hby d7_10) rfl ?_
    show Steps p.tables e below (T209.setTop (mkF m 11 #[.val (.ref a0)] [(.int (1 : Int32)), (.ref a0), (.ref bb)])) _
    refine XS.dupX1 X209.here hx rfl (hb hby d7_11) rfl rfl rfl ?_
    show Steps p.tables e below (T209.setTop (mkF m 12 #[.val (.ref a0)] [(.int (1 : Int32)), (.ref a0), (.int (1 : Int32)), (.ref bb)])) _
    refine st210 _ ?_
    show Steps p.tables e below (T210.setTop (mkF m 15 #[.val (.ref a0)] [(.int (1 : Int32)), (.ref bb)])) _
    refine X210.iaload hx (j := (1 : Int32)) (v := (.int u1)) (by rw [e210]; exact Ar218.1) (State.isArrayOf_alike hZ.alike Ar218.2.1) Ar218.2.2 hin219 hat220 (g := (mkF m 15 #[.val (.ref a0)] [(.int (1 : Int32)), (.ref bb)])) rfl rfl (hb hby d7_15) _ ?_
    show Steps p.tables e below (T210.setTop (mkF m 16 #[.val (.ref a0)] [(.int u1)])) _
    exact retOut X210 hx Bd.returns rfl (Or.inl ⟨rfl, Or.inl rfl, _, rfl⟩) (hb hby d7_16) hr
  · show Q7_4_2 Z a0 bb u0 u1 u2 u3 k_bb h0 n0 _ T210.heap _
    rw [e210]
    exact ⟨rfl, N217, K215, f211, f210w, f212⟩
theorem ef7_4_1 (m : MethodId) (x0 : Addr) : entryFrame m #[(.ref x0)] 1 = mkF m 0 #[.val (.ref x0)] [] := by first | (simp [entryFrame, mkF, argsToLocals, Value.category]; done) | rfl
abbrev rr7_4_1 : Room := { frames := 0, cells := 0, slots := 0, locals := 0 }
def Q7_4_1 (Z : State) (a0 : Addr) (bb : Addr) (u0 : Int32) (u1 : Int32) (u2 : Int32) (u3 : Int32) (k_bb : ClassId) (h0 : Heap) (n0 : Nat) (v : Option Value) (h : Heap) (L : List Loc) : Prop := v = some (.int u0) ∧ Fr n0 L ∧ Keep h0 h [a0] ∧ Exa Z h a0 "com/example/subsumer/subsumer/classification/IntList" ∧ Fld Z h a0 "com/example/subsumer/subsumer/classification/IntList" "size" "I" (.int (0 : Int32)) ∧ Fld Z h a0 "com/example/subsumer/subsumer/classification/IntList" "items" "[I" (.ref bb)
set_option maxRecDepth 65536 in
set_option maxHeartbeats 40000000 in
theorem rm7_4_1 (l : Launch) (Z : State) (aw : Array Value) (hw : ∀ d ∈ tables_1, d.before aw Z = true) (ws : List Jvm.Cond) (a0 : Addr) (bb : Addr) (u0 : Int32) (u1 : Int32) (u2 : Int32) (u3 : Int32) (k_bb : ClassId) (h0 : Heap) (n0 : Nat) (Z0 : n0 ≤ h0.size) (E_a0 : Exa Z h0 a0 "com/example/subsumer/subsumer/classification/IntList") (F_items_a0 : Fld Z h0 a0 "com/example/subsumer/subsumer/classification/IntList" "items" "[I" (.ref bb)) (F_size_a0 : Fld Z h0 a0 "com/example/subsumer/subsumer/classification/IntList" "size" "I" (.int (1 : Int32))) (V_bb : Arv Z h0 bb k_bb .int (4 : Int32) [(.int u0), (.int u1), (.int u2), (.int u3)] (.int (0 : Int32))) (g_a0 : n0 ≤ a0) (ne_a0_bb : a0 ≠ bb) :
    MetFree l (⟨"com/example/subsumer/subsumer/classification/IntList", "pop", "()I"⟩ : MethodName) (head1 (Jvm.Cond.code (⟨"com/example/subsumer/subsumer/classification/IntList", "pop", "()I"⟩ : MethodName) prog_2_method_7_code 1 (some .int) :: ws) rr7_4_1) (fun a U => a = #[(.ref a0)] ∧ Z.Warmed39 U.vm ∧ U.heap = h0) (fun _ _ _ _ _ => True) (fun _ U o U' => ∃ v L, o = .returned v ∧ Q7_4_1 Z a0 bb u0 u1 u2 u3 k_bb h0 n0 v U'.heap L ∧ FrameEnd U o U' L rr7_4_1.cells rr7_4_1.slots) := by
  refine MetFree.of_bodySF (plainFor_of_name pn_1) hisR ?_
  intro p e s m args below meth c s₁ Bd hml0 hP hK
  obtain ⟨rfl, hZ, hh⟩ := hP
  have hx := Bd.exec
  have hby := Bd.bytes
  have hml : c.maxLocals = 1 := hml0
  have hown : s.vm.findClass "com/example/subsumer/subsumer/classification/IntList" = some m.cls := findClass_of_methodNamed Bd.named
  have hnm := (name_of_methodNamed Bd.named Bd.method).1
  have X0 : Stand p l e rr7_4_1 s m #[(.ref a0)] below meth c s₁ [] 0 0 := Stand.of_body Bd
  have e0 : s₁.heap = h0 := by rw [← hh, Bd.state]; rfl
  have N0 := Fr.nil n0
  have K0 := Keep.refl h0 [a0]
  have pre0 : ∀ t, Steps p.tables e below (s₁.setTop (mkF m 0 #[.val (.ref a0)] [])) t → Steps p.tables e below (s₁.setTop (entryFrame m #[(.ref a0)] 1)) t := fun t k => castTop (ef7_4_1 m a0) k
  obtain ⟨T221, X221, e221, st221⟩ := getF X0 hx hZ hown (host := "") (Or.inl (hw _ (List.mem_of_getElem? (i := 10) rfl))) Via.refl e0 F_items_a0 (g := (mkF m 1 #[.val (.ref a0)] [(.ref a0)])) rfl rfl (hb hby d7_1)
  obtain ⟨T222, X222, e222, st222⟩ := getF X221 hx hZ hown (host := "") (Or.inl (hw _ (List.mem_of_getElem? (i := 17) rfl))) Via.refl e221 F_size_a0 (g := (mkF m 6 #[.val (.ref a0)] [(.ref a0), (.ref a0), (.ref bb)])) rfl rfl (hb hby d7_6)
  obtain ⟨T223, h223, X223, e223, W223, st223⟩ := putF X222 hx hZ hown (host := "") (Or.inl (hw _ (List.mem_of_getElem? (i := 17) rfl))) Via.refl e222 F_size_a0 E_a0 (Or.inl (hw _ (List.mem_of_getElem? (i := 18) rfl))) (hw _ (List.mem_of_getElem? (i := 1) rfl)) (ty := .int) (by decide) rfl rfl (g := (mkF m 12 #[.val (.ref a0)] [(.int (0 : Int32)), (.ref a0), (.int (0 : Int32)), (.ref bb)])) rfl rfl (hb hby d7_12)
  have f223w : Fld Z h223 a0 "com/example/subsumer/subsumer/classification/IntList" "size" "I" (.int (0 : Int32)) := F_size_a0.same W223
  have f224 := E_a0.wr W223
  have f225 := F_items_a0.other W223 (Or.inr (slot_ne (Or.inl (hw _ (List.mem_of_getElem? (i := 11) rfl))) (Or.inl (hw _ (List.mem_of_getElem? (i := 18) rfl))) (by decide) (t := (.array .int)) (t' := .int) (by decide) (by decide)))
  have f227 := V_bb.other W223 (Ne.symm ne_a0_bb)
  have K228 := K0.wr W223 (Or.inl (List.mem_of_getElem? (i := 0) rfl))
  have Z229 := Nat.le_trans Z0 (Keep.of_wr W223).1
  have N230 := Fr.snoc X223 N0 g_a0
  obtain ⟨cl231, Ar231, q231, S231, M231, H231, G231⟩ := id f227
  have hin232 : ¬ ((0 : Int32) < 0 ∨ cl231.slots.size ≤ ((0 : Int32)).toNatClampNeg) := inb_of S231 ⟨by decide, by decide⟩
  have hat233 : cl231.slots[((0 : Int32)).toNatClampNeg]? = some (.int u0) := H231.at hin232 rfl
  obtain ⟨fs, hr, hrun, hended, hW, hsame⟩ := X223.leave (v := some (.int u0)) (fun h => by rw [Bd.returns] at h; cases h)
  refine ⟨_, _, pre0 _ ?_, hrun, hended, _, _, rfl, ?_, ⟨_, rfl⟩, hW, hsame.mono (by decide) (by decide)⟩
  · skip
    show Steps p.tables e below (s₁.setTop (mkF m 0 #[.val (.ref a0)] [])) _
    refine XS.aloadN X0.here hx rfl (hb hby d7_0) rfl rfl ?_
    show Steps p.tables e below (s₁.setTop (mkF m 1 #[.val (.ref a0)] [(.ref a0)])) _
    refine st221 _ ?_
    show Steps p.tables e below (T221.setTop (mkF m 4 #[.val (.ref a0)] [(.ref bb)])) _
    refine XS.aloadN X221.here hx rfl (hb hby d7_4) rfl rfl ?_
    show Steps p.tables e below (T221.setTop (mkF m 5 #[.val (.ref a0)] [(.ref a0), (.ref bb)])) _
    refine XS.dup X221.here hx rfl (hb hby d7_5) rfl rfl ?_
    show Steps p.tables e below (T221.setTop (mkF m 6 #[.val (.ref a0)] [(.ref a0), (.ref a0), (.ref bb)])) _
    refine st222 _ ?_
    show Steps p.tables e below (T222.setTop (mkF m 9 #[.val (.ref a0)] [(.int (1 : Int32)), (.ref a0), (.ref bb)])) _
    refine XS.iconst X222.here hx rfl (hb hby d7_9) ?_
    show Steps p.tables e below (T222.setTop (mkF m 10 #[.val (.ref a0)] [(.int (1 : Int32)), (.int (1 : Int32)), (.ref a0), (.ref bb)])) _
    refine XS.isub X222.here hx rfl (hb hby d7_10) rfl ?_
    show Steps p.tables e below (T222.setTop (mkF m 11 #[.val (.ref a0)] [(.int (0 : Int32)), (.ref a0), (.ref bb)])) _
    refine XS.dupX1 X222.here hx rfl (hb hby d7_11) rfl rfl rfl ?_
    show Steps p.tables e below (T222.setTop (mkF m 12 #[.val (.ref a0)] [(.int (0 : Int32)), (.ref a0), (.int (0 : Int32)), (.ref bb)])) _
    refine st223 _ ?_
    show Steps p.tables e below (T223.setTop (mkF m 15 #[.val (.ref a0)] [(.int (0 : Int32)), (.ref bb)])) _
    refine X223.iaload hx (j := (0 : Int32)) (v := (.int u0)) (by rw [e223]; exact Ar231.1) (State.isArrayOf_alike hZ.alike Ar231.2.1) Ar231.2.2 hin232 hat233 (g := (mkF m 15 #[.val (.ref a0)] [(.int (0 : Int32)), (.ref bb)])) rfl rfl (hb hby d7_15) _ ?_
    show Steps p.tables e below (T223.setTop (mkF m 16 #[.val (.ref a0)] [(.int u0)])) _
    exact retOut X223 hx Bd.returns rfl (Or.inl ⟨rfl, Or.inl rfl, _, rfl⟩) (hb hby d7_16) hr
  · show Q7_4_1 Z a0 bb u0 u1 u2 u3 k_bb h0 n0 _ T223.heap _
    rw [e223]
    exact ⟨rfl, N230, K228, f224, f223w, f225⟩
theorem d8_0 : decode prog_2_method_5_code 0 = .ok (.aload_n 0, 1) := by decide +kernel
theorem d8_1 : decode prog_2_method_5_code 1 = .ok (.getfield 13, 3) := by decide +kernel
theorem d8_4 : decode prog_2_method_5_code 4 = .ok (.ireturn, 1) := by decide +kernel
theorem ef8 (m : MethodId) (x0 : Addr) : entryFrame m #[(.ref x0)] 1 = mkF m 0 #[.val (.ref x0)] [] := by first | (simp [entryFrame, mkF, argsToLocals, Value.category]; done) | rfl
abbrev rr8 : Room := { frames := 0, cells := 0, slots := 0, locals := 0 }
def Q8 (Z : State) (a0 : Addr) (sz : Int32) (h0 : Heap) (n0 : Nat) (v : Option Value) (h : Heap) (L : List Loc) : Prop := v = some (.int sz) ∧ Fr n0 L ∧ h = h0
set_option maxRecDepth 65536 in
set_option maxHeartbeats 40000000 in
theorem rm8 (l : Launch) (Z : State) (aw : Array Value) (hw : ∀ d ∈ tables_1, d.before aw Z = true) (ws : List Jvm.Cond) (a0 : Addr) (sz : Int32) (h0 : Heap) (n0 : Nat) (Z0 : n0 ≤ h0.size) (E_a0 : Exa Z h0 a0 "com/example/subsumer/subsumer/classification/IntList") (F_size_a0 : Fld Z h0 a0 "com/example/subsumer/subsumer/classification/IntList" "size" "I" (.int sz)) :
    MetFree l (⟨"com/example/subsumer/subsumer/classification/IntList", "size", "()I"⟩ : MethodName) (head1 (Jvm.Cond.code (⟨"com/example/subsumer/subsumer/classification/IntList", "size", "()I"⟩ : MethodName) prog_2_method_5_code 1 (some .int) :: ws) rr8) (fun a U => a = #[(.ref a0)] ∧ Z.Warmed39 U.vm ∧ U.heap = h0) (fun _ _ _ _ _ => True) (fun _ U o U' => ∃ v L, o = .returned v ∧ Q8 Z a0 sz h0 n0 v U'.heap L ∧ FrameEnd U o U' L rr8.cells rr8.slots) := by
  refine MetFree.of_bodySF (plainFor_of_name pn_1) hisR ?_
  intro p e s m args below meth c s₁ Bd hml0 hP hK
  obtain ⟨rfl, hZ, hh⟩ := hP
  have hx := Bd.exec
  have hby := Bd.bytes
  have hml : c.maxLocals = 1 := hml0
  have hown : s.vm.findClass "com/example/subsumer/subsumer/classification/IntList" = some m.cls := findClass_of_methodNamed Bd.named
  have hnm := (name_of_methodNamed Bd.named Bd.method).1
  have X0 : Stand p l e rr8 s m #[(.ref a0)] below meth c s₁ [] 0 0 := Stand.of_body Bd
  have e0 : s₁.heap = h0 := by rw [← hh, Bd.state]; rfl
  have N0 := Fr.nil n0
  have pre0 : ∀ t, Steps p.tables e below (s₁.setTop (mkF m 0 #[.val (.ref a0)] [])) t → Steps p.tables e below (s₁.setTop (entryFrame m #[(.ref a0)] 1)) t := fun t k => castTop (ef8 m a0) k
  obtain ⟨T234, X234, e234, st234⟩ := getF X0 hx hZ hown (host := "") (Or.inl (hw _ (List.mem_of_getElem? (i := 17) rfl))) Via.refl e0 F_size_a0 (g := (mkF m 1 #[.val (.ref a0)] [(.ref a0)])) rfl rfl (hb hby d8_1)
  obtain ⟨fs, hr, hrun, hended, hW, hsame⟩ := X234.leave (v := some (.int sz)) (fun h => by rw [Bd.returns] at h; cases h)
  refine ⟨_, _, pre0 _ ?_, hrun, hended, _, _, rfl, ?_, ⟨_, rfl⟩, hW, hsame.mono (by decide) (by decide)⟩
  · skip
    show Steps p.tables e below (s₁.setTop (mkF m 0 #[.val (.ref a0)] [])) _
    refine XS.aloadN X0.here hx rfl (hb hby d8_0) rfl rfl ?_
    show Steps p.tables e below (s₁.setTop (mkF m 1 #[.val (.ref a0)] [(.ref a0)])) _
    refine st234 _ ?_
    show Steps p.tables e below (T234.setTop (mkF m 4 #[.val (.ref a0)] [(.int sz)])) _
    exact retOut X234 hx Bd.returns rfl (Or.inl ⟨rfl, Or.inl rfl, _, rfl⟩) (hb hby d8_4) hr
  · show Q8 Z a0 sz h0 n0 _ T234.heap _
    rw [e234]
    exact ⟨rfl, N0, rfl⟩
theorem d9_0 : decode prog_2_method_4_code 0 = .ok (.aload_n 0, 1) := by decide +kernel
theorem d9_1 : decode prog_2_method_4_code 1 = .ok (.getfield 7, 3) := by decide +kernel
theorem d9_4 : decode prog_2_method_4_code 4 = .ok (.iload_n 1, 1) := by decide +kernel
theorem d9_5 : decode prog_2_method_4_code 5 = .ok (.iaload, 1) := by decide +kernel
theorem d9_6 : decode prog_2_method_4_code 6 = .ok (.ireturn, 1) := by decide +kernel
theorem ef9_8_0 (m : MethodId) (x0 : Addr) (x1 : Int32) : entryFrame m #[(.ref x0), (.int x1)] 2 = mkF m 0 #[.val (.ref x0), .val (.int x1)] [] := by first | (simp [entryFrame, mkF, argsToLocals, Value.category]; done) | rfl
abbrev rr9_8_0 : Room := { frames := 0, cells := 0, slots := 0, locals := 0 }
def Q9_8_0 (Z : State) (a0 : Addr) (bb : Addr) (u0 : Int32) (u1 : Int32) (u2 : Int32) (u3 : Int32) (u4 : Int32) (u5 : Int32) (u6 : Int32) (u7 : Int32) (k_bb : ClassId) (h0 : Heap) (n0 : Nat) (v : Option Value) (h : Heap) (L : List Loc) : Prop := v = some (.int u0) ∧ Fr n0 L ∧ h = h0
set_option maxRecDepth 65536 in
set_option maxHeartbeats 40000000 in
theorem rm9_8_0 (l : Launch) (Z : State) (aw : Array Value) (hw : ∀ d ∈ tables_1, d.before aw Z = true) (ws : List Jvm.Cond) (a0 : Addr) (bb : Addr) (u0 : Int32) (u1 : Int32) (u2 : Int32) (u3 : Int32) (u4 : Int32) (u5 : Int32) (u6 : Int32) (u7 : Int32) (k_bb : ClassId) (h0 : Heap) (n0 : Nat) (Z0 : n0 ≤ h0.size) (E_a0 : Exa Z h0 a0 "com/example/subsumer/subsumer/classification/IntList") (F_items_a0 : Fld Z h0 a0 "com/example/subsumer/subsumer/classification/IntList" "items" "[I" (.ref bb)) (V_bb : Arv Z h0 bb k_bb .int (8 : Int32) [(.int u0), (.int u1), (.int u2), (.int u3), (.int u4), (.int u5), (.int u6), (.int u7)] (.int (0 : Int32))) :
    MetFree l (⟨"com/example/subsumer/subsumer/classification/IntList", "get", "(I)I"⟩ : MethodName) (head1 (Jvm.Cond.code (⟨"com/example/subsumer/subsumer/classification/IntList", "get", "(I)I"⟩ : MethodName) prog_2_method_4_code 2 (some .int) :: ws) rr9_8_0) (fun a U => a = #[(.ref a0), (.int (0 : Int32))] ∧ Z.Warmed39 U.vm ∧ U.heap = h0) (fun _ _ _ _ _ => True) (fun _ U o U' => ∃ v L, o = .returned v ∧ Q9_8_0 Z a0 bb u0 u1 u2 u3 u4 u5 u6 u7 k_bb h0 n0 v U'.heap L ∧ FrameEnd U o U' L rr9_8_0.cells rr9_8_0.slots) := by
  refine MetFree.of_bodySF (plainFor_of_name pn_1) hisR ?_
  intro p e s m args below meth c s₁ Bd hml0 hP hK
  obtain ⟨rfl, hZ, hh⟩ := hP
  have hx := Bd.exec
  have hby := Bd.bytes
  have hml : c.maxLocals = 2 := hml0
  have hown : s.vm.findClass "com/example/subsumer/subsumer/classification/IntList" = some m.cls := findClass_of_methodNamed Bd.named
  have hnm := (name_of_methodNamed Bd.named Bd.method).1
  have X0 : Stand p l e rr9_8_0 s m #[(.ref a0), (.int (0 : Int32))] below meth c s₁ [] 0 0 := Stand.of_body Bd
  have e0 : s₁.heap = h0 := by rw [← hh, Bd.state]; rfl
  have N0 := Fr.nil n0
  have pre0 : ∀ t, Steps p.tables e below (s₁.setTop (mkF m 0 #[.val (.ref a0), .val (.int (0 : Int32))] [])) t → Steps p.tables e below (s₁.setTop (entryFrame m #[(.ref a0), (.int (0 : Int32))] 2)) t := fun t k => castTop (ef9_8_0 m a0 (0 : Int32)) k
  obtain ⟨T235, X235, e235, st235⟩ := getF X0 hx hZ hown (host := "") (Or.inl (hw _ (List.mem_of_getElem? (i := 10) rfl))) Via.refl e0 F_items_a0 (g := (mkF m 1 #[.val (.ref a0), .val (.int (0 : Int32))] [(.ref a0)])) rfl rfl (hb hby d9_1)
  obtain ⟨cl236, Ar236, q236, S236, M236, H236, G236⟩ := id V_bb
  have hin237 : ¬ ((0 : Int32) < 0 ∨ cl236.slots.size ≤ ((0 : Int32)).toNatClampNeg) := inb_of S236 ⟨by decide, by decide⟩
  have hat238 : cl236.slots[((0 : Int32)).toNatClampNeg]? = some (.int u0) := H236.at hin237 rfl
  obtain ⟨fs, hr, hrun, hended, hW, hsame⟩ := X235.leave (v := some (.int u0)) (fun h => by rw [Bd.returns] at h; cases h)
  refine ⟨_, _, pre0 _ ?_, hrun, hended, _, _, rfl, ?_, ⟨_, rfl⟩, hW, hsame.mono (by decide) (by decide)⟩
  · skip
    show Steps p.tables e below (s₁.setTop (mkF m 0 #[.val (.ref a0), .val (.int (0 : Int32))] [])) _
    refine XS.aloadN X0.here hx rfl (hb hby d9_0) rfl rfl ?_
    show Steps p.tables e below (s₁.setTop (mkF m 1 #[.val (.ref a0), .val (.int (0 : Int32))] [(.ref a0)])) _
    refine st235 _ ?_
    show Steps p.tables e below (T235.setTop (mkF m 4 #[.val (.ref a0), .val (.int (0 : Int32))] [(.ref bb)])) _
    refine XS.iloadN X235.here hx rfl (hb hby d9_4) rfl ?_
    show Steps p.tables e below (T235.setTop (mkF m 5 #[.val (.ref a0), .val (.int (0 : Int32))] [(.int (0 : Int32)), (.ref bb)])) _
    refine X235.iaload hx (j := (0 : Int32)) (v := (.int u0)) (by rw [e235]; exact Ar236.1) (State.isArrayOf_alike hZ.alike Ar236.2.1) Ar236.2.2 hin237 hat238 (g := (mkF m 5 #[.val (.ref a0), .val (.int (0 : Int32))] [(.int (0 : Int32)), (.ref bb)])) rfl rfl (hb hby d9_5) _ ?_
    show Steps p.tables e below (T235.setTop (mkF m 6 #[.val (.ref a0), .val (.int (0 : Int32))] [(.int u0)])) _
    exact retOut X235 hx Bd.returns rfl (Or.inl ⟨rfl, Or.inl rfl, _, rfl⟩) (hb hby d9_6) hr
  · show Q9_8_0 Z a0 bb u0 u1 u2 u3 u4 u5 u6 u7 k_bb h0 n0 _ T235.heap _
    rw [e235]
    exact ⟨rfl, N0, rfl⟩
theorem ef9_8_2 (m : MethodId) (x0 : Addr) (x1 : Int32) : entryFrame m #[(.ref x0), (.int x1)] 2 = mkF m 0 #[.val (.ref x0), .val (.int x1)] [] := by first | (simp [entryFrame, mkF, argsToLocals, Value.category]; done) | rfl
abbrev rr9_8_2 : Room := { frames := 0, cells := 0, slots := 0, locals := 0 }
def Q9_8_2 (Z : State) (a0 : Addr) (bb : Addr) (u0 : Int32) (u1 : Int32) (u2 : Int32) (u3 : Int32) (u4 : Int32) (u5 : Int32) (u6 : Int32) (u7 : Int32) (k_bb : ClassId) (h0 : Heap) (n0 : Nat) (v : Option Value) (h : Heap) (L : List Loc) : Prop := v = some (.int u2) ∧ Fr n0 L ∧ h = h0
set_option maxRecDepth 65536 in
set_option maxHeartbeats 40000000 in
theorem rm9_8_2 (l : Launch) (Z : State) (aw : Array Value) (hw : ∀ d ∈ tables_1, d.before aw Z = true) (ws : List Jvm.Cond) (a0 : Addr) (bb : Addr) (u0 : Int32) (u1 : Int32) (u2 : Int32) (u3 : Int32) (u4 : Int32) (u5 : Int32) (u6 : Int32) (u7 : Int32) (k_bb : ClassId) (h0 : Heap) (n0 : Nat) (Z0 : n0 ≤ h0.size) (E_a0 : Exa Z h0 a0 "com/example/subsumer/subsumer/classification/IntList") (F_items_a0 : Fld Z h0 a0 "com/example/subsumer/subsumer/classification/IntList" "items" "[I" (.ref bb)) (V_bb : Arv Z h0 bb k_bb .int (8 : Int32) [(.int u0), (.int u1), (.int u2), (.int u3), (.int u4), (.int u5), (.int u6), (.int u7)] (.int (0 : Int32))) :
    MetFree l (⟨"com/example/subsumer/subsumer/classification/IntList", "get", "(I)I"⟩ : MethodName) (head1 (Jvm.Cond.code (⟨"com/example/subsumer/subsumer/classification/IntList", "get", "(I)I"⟩ : MethodName) prog_2_method_4_code 2 (some .int) :: ws) rr9_8_2) (fun a U => a = #[(.ref a0), (.int (2 : Int32))] ∧ Z.Warmed39 U.vm ∧ U.heap = h0) (fun _ _ _ _ _ => True) (fun _ U o U' => ∃ v L, o = .returned v ∧ Q9_8_2 Z a0 bb u0 u1 u2 u3 u4 u5 u6 u7 k_bb h0 n0 v U'.heap L ∧ FrameEnd U o U' L rr9_8_2.cells rr9_8_2.slots) := by
  refine MetFree.of_bodySF (plainFor_of_name pn_1) hisR ?_
  intro p e s m args below meth c s₁ Bd hml0 hP hK
  obtain ⟨rfl, hZ, hh⟩ := hP
  have hx := Bd.exec
  have hby := Bd.bytes
  have hml : c.maxLocals = 2 := hml0
  have hown : s.vm.findClass "com/example/subsumer/subsumer/classification/IntList" = some m.cls := findClass_of_methodNamed Bd.named
  have hnm := (name_of_methodNamed Bd.named Bd.method).1
  have X0 : Stand p l e rr9_8_2 s m #[(.ref a0), (.int (2 : Int32))] below meth c s₁ [] 0 0 := Stand.of_body Bd
  have e0 : s₁.heap = h0 := by rw [← hh, Bd.state]; rfl
  have N0 := Fr.nil n0
  have pre0 : ∀ t, Steps p.tables e below (s₁.setTop (mkF m 0 #[.val (.ref a0), .val (.int (2 : Int32))] [])) t → Steps p.tables e below (s₁.setTop (entryFrame m #[(.ref a0), (.int (2 : Int32))] 2)) t := fun t k => castTop (ef9_8_2 m a0 (2 : Int32)) k
  obtain ⟨T239, X239, e239, st239⟩ := getF X0 hx hZ hown (host := "") (Or.inl (hw _ (List.mem_of_getElem? (i := 10) rfl))) Via.refl e0 F_items_a0 (g := (mkF m 1 #[.val (.ref a0), .val (.int (2 : Int32))] [(.ref a0)])) rfl rfl (hb hby d9_1)
  obtain ⟨cl240, Ar240, q240, S240, M240, H240, G240⟩ := id V_bb
  have hin241 : ¬ ((2 : Int32) < 0 ∨ cl240.slots.size ≤ ((2 : Int32)).toNatClampNeg) := inb_of S240 ⟨by decide, by decide⟩
  have hat242 : cl240.slots[((2 : Int32)).toNatClampNeg]? = some (.int u2) := H240.at hin241 rfl
  obtain ⟨fs, hr, hrun, hended, hW, hsame⟩ := X239.leave (v := some (.int u2)) (fun h => by rw [Bd.returns] at h; cases h)
  refine ⟨_, _, pre0 _ ?_, hrun, hended, _, _, rfl, ?_, ⟨_, rfl⟩, hW, hsame.mono (by decide) (by decide)⟩
  · skip
    show Steps p.tables e below (s₁.setTop (mkF m 0 #[.val (.ref a0), .val (.int (2 : Int32))] [])) _
    refine XS.aloadN X0.here hx rfl (hb hby d9_0) rfl rfl ?_
    show Steps p.tables e below (s₁.setTop (mkF m 1 #[.val (.ref a0), .val (.int (2 : Int32))] [(.ref a0)])) _
    refine st239 _ ?_
    show Steps p.tables e below (T239.setTop (mkF m 4 #[.val (.ref a0), .val (.int (2 : Int32))] [(.ref bb)])) _
    refine XS.iloadN X239.here hx rfl (hb hby d9_4) rfl ?_
    show Steps p.tables e below (T239.setTop (mkF m 5 #[.val (.ref a0), .val (.int (2 : Int32))] [(.int (2 : Int32)), (.ref bb)])) _
    refine X239.iaload hx (j := (2 : Int32)) (v := (.int u2)) (by rw [e239]; exact Ar240.1) (State.isArrayOf_alike hZ.alike Ar240.2.1) Ar240.2.2 hin241 hat242 (g := (mkF m 5 #[.val (.ref a0), .val (.int (2 : Int32))] [(.int (2 : Int32)), (.ref bb)])) rfl rfl (hb hby d9_5) _ ?_
    show Steps p.tables e below (T239.setTop (mkF m 6 #[.val (.ref a0), .val (.int (2 : Int32))] [(.int u2)])) _
    exact retOut X239 hx Bd.returns rfl (Or.inl ⟨rfl, Or.inl rfl, _, rfl⟩) (hb hby d9_6) hr
  · show Q9_8_2 Z a0 bb u0 u1 u2 u3 u4 u5 u6 u7 k_bb h0 n0 _ T239.heap _
    rw [e239]
    exact ⟨rfl, N0, rfl⟩
theorem pd_5 : parseMethodDescriptor "()V" = some ⟨[], none⟩ := by decide +kernel
theorem pd_6 : parseMethodDescriptor "()I" = some ⟨[], some .int⟩ := by decide +kernel
theorem pd_7 : parseMethodDescriptor "(II)V" = some ⟨[.int, .int], none⟩ := by decide +kernel
theorem pd_8 : parseMethodDescriptor "(I)I" = some ⟨[.int], some .int⟩ := by decide +kernel
def j0_0 (p5 : Int32) : Int32 := (if (p5 &&& (1 : Int32)) = (0 : Int32) then (0 : Int32) else (1 : Int32))
def v0 (p5 : Int32) : Int32 := (if (j0_0 p5) = (0 : Int32) then (1 : Int32) else (1 : Int32))
theorem pn_3 : plainName "com/example/subsumer/subsumer/classification/IntListPopPinLaw" = true := by first | (simp [plainName, overriddenIn]; done) | decide +kernel
theorem ef0 (m : MethodId) (x0 : Int32) (x1 : Int32) (x2 : Int32) (x3 : Int32) (x4 : Int32) (x5 : Int32) : entryFrame m #[(.int x0), (.int x1), (.int x2), (.int x3), (.int x4), (.int x5)] maxLocals = mkF m 0 #[.val (.int x0), .val (.int x1), .val (.int x2), .val (.int x3), .val (.int x4), .val (.int x5), .unset, .unset, .unset, .unset, .unset, .unset, .unset] [] := by first | (simp [entryFrame, mkF, argsToLocals, Value.category, maxLocals]; done) | rfl
def Q0 (Z : State) (p0 : Int32) (p1 : Int32) (p2 : Int32) (p3 : Int32) (p4 : Int32) (p5 : Int32) (h0 : Heap) (n0 : Nat) (v : Option Value) (h : Heap) (L : List Loc) : Prop := v = some (.int (v0 p5)) ∧ Fr n0 L
set_option maxRecDepth 65536 in
set_option maxHeartbeats 40000000 in
theorem rm0 (l : Launch) (Z : State) (aw : Array Value) (hw : ∀ d ∈ tables_1, d.before aw Z = true) (ws : List Jvm.Cond) (p0 : Int32) (p1 : Int32) (p2 : Int32) (p3 : Int32) (p4 : Int32) (p5 : Int32) (h0 : Heap) (n0 : Nat) (Z0 : n0 ≤ h0.size)  :
    MetFree l x (head1 (Jvm.Cond.code x code maxLocals ret :: ws) room_1) (fun a U => a = #[(.int p0), (.int p1), (.int p2), (.int p3), (.int p4), (.int p5)] ∧ Z.Warmed39 U.vm ∧ U.heap = h0) (fun _ _ _ _ _ => True) (fun _ U o U' => ∃ v L, o = .returned v ∧ Q0 Z p0 p1 p2 p3 p4 p5 h0 n0 v U'.heap L ∧ FrameEnd U o U' L room_1.cells room_1.slots) := by
  refine MetFree.of_bodySF (plainFor_of_name pn_3) hisR ?_
  intro p e s m args below meth c s₁ Bd hml0 hP hK
  obtain ⟨rfl, hZ, hh⟩ := hP
  have hx := Bd.exec
  have hby := Bd.bytes
  have hml : c.maxLocals = 13 := hml0
  have hown : s.vm.findClass "com/example/subsumer/subsumer/classification/IntListPopPinLaw" = some m.cls := findClass_of_methodNamed Bd.named
  have hnm := (name_of_methodNamed Bd.named Bd.method).1
  have X0 : Stand p l e room_1 s m #[(.int p0), (.int p1), (.int p2), (.int p3), (.int p4), (.int p5)] below meth c s₁ [] 0 0 := Stand.of_body Bd
  have e0 : s₁.heap = h0 := by rw [← hh, Bd.state]; rfl
  have N0 := Fr.nil n0
  have pre0 : ∀ t, Steps p.tables e below (s₁.setTop (mkF m 0 #[.val (.int p0), .val (.int p1), .val (.int p2), .val (.int p3), .val (.int p4), .val (.int p5), .unset, .unset, .unset, .unset, .unset, .unset, .unset] [])) t → Steps p.tables e below (s₁.setTop (entryFrame m #[(.int p0), (.int p1), (.int p2), (.int p3), (.int p4), (.int p5)] maxLocals)) t := fun t k => castTop (ef0 m p0 p1 p2 p3 p4 p5) k
  have pre243 := fun (t : State) (k : Steps p.tables e below (s₁.setTop (mkF m 4 #[.val (.int p0), .val (.int p1), .val (.int p2), .val (.int p3), .val (.int p4), .val (.int p5), .unset, .unset, .unset, .unset, .unset, .unset, .unset] [(.int (p5 &&& (1 : Int32)))])) t) => pre0 t (by
    show Steps p.tables e below (s₁.setTop (mkF m 0 #[.val (.int p0), .val (.int p1), .val (.int p2), .val (.int p3), .val (.int p4), .val (.int p5), .unset, .unset, .unset, .unset, .unset, .unset, .unset] [])) _
    refine XS.iload X0.here hx rfl (hb hby at_0) rfl ?_
    show Steps p.tables e below (s₁.setTop (mkF m 2 #[.val (.int p0), .val (.int p1), .val (.int p2), .val (.int p3), .val (.int p4), .val (.int p5), .unset, .unset, .unset, .unset, .unset, .unset, .unset] [(.int p5)])) _
    refine XS.iconst X0.here hx rfl (hb hby at_2) ?_
    show Steps p.tables e below (s₁.setTop (mkF m 3 #[.val (.int p0), .val (.int p1), .val (.int p2), .val (.int p3), .val (.int p4), .val (.int p5), .unset, .unset, .unset, .unset, .unset, .unset, .unset] [(.int (1 : Int32)), (.int p5)])) _
    refine XS.iand X0.here hx rfl (hb hby at_3) rfl ?_
    exact k)
  have pre244 := fun (t : State) (k : Steps p.tables e below (s₁.setTop (mkF m 12 #[.val (.int p0), .val (.int p1), .val (.int p2), .val (.int p3), .val (.int p4), .val (.int p5), .unset, .unset, .unset, .unset, .unset, .unset, .unset] [(.int (j0_0 p5))])) t) => pre243 t (by
    by_cases hc245 : (p5 &&& (1 : Int32)) = (0 : Int32)
    · skip
      show Steps p.tables e below (s₁.setTop (mkF m 4 #[.val (.int p0), .val (.int p1), .val (.int p2), .val (.int p3), .val (.int p4), .val (.int p5), .unset, .unset, .unset, .unset, .unset, .unset, .unset] [(.int (p5 &&& (1 : Int32)))])) _
      refine XS.ifYes X0.here hx rfl (pc0 := 4) (pc' := 11) rfl (hb hby at_4) rfl ((if0 _ _).trans (teq hc245).1) (by decide) (by decide) ?_
      show Steps p.tables e below (s₁.setTop (mkF m 11 #[.val (.int p0), .val (.int p1), .val (.int p2), .val (.int p3), .val (.int p4), .val (.int p5), .unset, .unset, .unset, .unset, .unset, .unset, .unset] [])) _
      refine XS.iconst X0.here hx rfl (hb hby at_11) ?_
      have hj246 : (j0_0 p5) = (0 : Int32) := by unfold j0_0; first | (rw [if_pos hc245]) | (simp only [if_pos hc245])
      rw [hj246] at k
      exact k
    · skip
      show Steps p.tables e below (s₁.setTop (mkF m 4 #[.val (.int p0), .val (.int p1), .val (.int p2), .val (.int p3), .val (.int p4), .val (.int p5), .unset, .unset, .unset, .unset, .unset, .unset, .unset] [(.int (p5 &&& (1 : Int32)))])) _
      refine XS.ifNo X0.here hx rfl (hb hby at_4) rfl ((if0 _ _).trans (feq hc245).1) ?_
      show Steps p.tables e below (s₁.setTop (mkF m 7 #[.val (.int p0), .val (.int p1), .val (.int p2), .val (.int p3), .val (.int p4), .val (.int p5), .unset, .unset, .unset, .unset, .unset, .unset, .unset] [])) _
      refine XS.iconst X0.here hx rfl (hb hby at_7) ?_
      show Steps p.tables e below (s₁.setTop (mkF m 8 #[.val (.int p0), .val (.int p1), .val (.int p2), .val (.int p3), .val (.int p4), .val (.int p5), .unset, .unset, .unset, .unset, .unset, .unset, .unset] [(.int (1 : Int32))])) _
      refine XS.goto X0.here hx rfl (pc0 := 8) (pc' := 12) rfl (hb hby at_8) (by decide) (by decide) ?_
      have hj247 : (j0_0 p5) = (1 : Int32) := by unfold j0_0; first | (rw [if_neg hc245]) | (simp only [if_neg hc245])
      rw [hj247] at k
      exact k)
  obtain ⟨T248, h248, X248, e248, E248, A248, D248, -, st248⟩ := newO X0 hx hZ hown (hw _ (List.mem_of_getElem? (i := 0) rfl)) (hw _ (List.mem_of_getElem? (i := 1) rfl)) (hw _ (List.mem_of_getElem? (i := 2) rfl)) e0 (g := (mkF m 14 #[.val (.int p0), .val (.int p1), .val (.int p2), .val (.int p3), .val (.int p4), .val (.int p5), .val (.int (j0_0 p5)), .unset, .unset, .unset, .unset, .unset, .unset] [])) rfl (hb hby at_14) (by decide) (by decide)
  obtain ⟨b248, gg248⟩ : ∃ z, z = h0.size := ⟨_, rfl⟩
  rw [← gg248] at A248 D248 st248
  have g_b248 : n0 ≤ b248 := Nat.le_trans Z0 (Nat.le_of_eq gg248.symm)
  have Z249 := Nat.le_trans Z0 E248.1
  have f250 : Fld Z h248 b248 "com/example/subsumer/subsumer/classification/IntList" "items" "[I" .null := D248 (Or.inl (hw _ (List.mem_of_getElem? (i := 11) rfl))) (ty := (.array .int)) (by decide)
  have f251 : Fld Z h248 b248 "com/example/subsumer/subsumer/classification/IntList" "size" "I" (.int (0 : Int32)) := D248 (Or.inl (hw _ (List.mem_of_getElem? (i := 18) rfl))) (ty := .int) (by decide)
  obtain ⟨_, _, ⟨T252, L252, k252, n252⟩, -, X252, ⟨Lc252, hQ252, l252, y252, z252⟩, st252⟩ := X248.specialBack hx (y := (⟨"com/example/subsumer/subsumer/classification/IntList", "<init>", "()V"⟩ : MethodName)) rfl hown (mvT hZ (hw _ (List.mem_of_getElem? (i := 3) rfl))) (mvT hZ (hw _ (List.mem_of_getElem? (i := 4) rfl))) (mvT hZ (hw _ (List.mem_of_getElem? (i := 5) rfl))) (by decide) (backOf (W := 1) (rm1 l Z aw hw [] b248 h248 n0 Z249 A248 f250 f251 g_b248) hZ (hw _ (List.mem_of_getElem? (i := 5) rfl)) (hw _ (List.mem_of_getElem? (i := 2) rfl)) (by decide) (by decide)) (g := (mkF m 18 #[.val (.int p0), .val (.int p1), .val (.int p2), .val (.int p3), .val (.int p4), .val (.int p5), .val (.int (j0_0 p5)), .unset, .unset, .unset, .unset, .unset, .unset] [(.ref b248), (.ref b248)])) rfl (by rw [hml]; rfl) (Steps.refl _) (a := b248) (argsL := []) (rest := [(.ref b248)]) (lenOf pd_5 rfl) rfl (by show 2 * 0 + _ ≤ _; exact Nat.le_of_eq rfl) (hb hby at_18) (fun _ _ => ⟨rfl, e248, (by decide : 1 + 1 ≤ _), (by decide : 2 + 4 ≤ _)⟩)
  dsimp only [Pt.U, Pt.locs, Pt.cells, Pt.slots] at X252 l252 y252 z252 st252 hQ252
  subst l252 y252 z252
  obtain ⟨h252, e252⟩ : ∃ z, T252.heap = z := ⟨_, rfl⟩
  rw [e252] at hQ252
  obtain ⟨cx0252, cy0252, rfl, N252q, K252q, g_cx0252, zz_cx0252, f253, f254, f255, f256⟩ := hQ252
  have f257 := A248.keep K252q
  have ne260 : b248 ≠ cx0252 := Nat.ne_of_lt (Nat.lt_of_lt_of_le A248.lt zz_cx0252)
  have Z252 := Nat.le_trans Z249 K252q.1
  have N252 := Fr.app N0 N252q
  obtain ⟨cq261, kq261, q261a, q261b, q261c⟩ := isOf hZ e252 f253
  obtain ⟨_, _, ⟨T261, L261, k261, n261⟩, -, X261, ⟨Lc261, hQ261, l261, y261, z261⟩, st261⟩ := X252.virtualBack hx (y := (⟨"com/example/subsumer/subsumer/classification/IntList", "add", "(I)V"⟩ : MethodName)) (z := (⟨"com/example/subsumer/subsumer/classification/IntList", "add", "(I)V"⟩ : MethodName)) hown (mvT hZ (hw _ (List.mem_of_getElem? (i := 12) rfl))) (mvT hZ (hw _ (List.mem_of_getElem? (i := 13) rfl))) (notFace_of_selects (args := #[]) (mvT hZ (hw _ (List.mem_of_getElem? (i := 15) rfl)))) (mvT hZ (hw _ (List.mem_of_getElem? (i := 15) rfl))) (mvT hZ (hw _ (List.mem_of_getElem? (i := 14) rfl))) (by decide) (backOf (W := 0) (rm3_4_0 l Z aw hw [] b248 p0 cx0252 ((0 : Int32)) ((0 : Int32)) ((0 : Int32)) ((0 : Int32)) cy0252 h252 n0 Z252 f253 f255 f254 f256 g_b248 g_cx0252 ne260) hZ (hw _ (List.mem_of_getElem? (i := 16) rfl)) (hw _ (List.mem_of_getElem? (i := 2) rfl)) (by decide) (by decide)) q261a q261c (g := (mkF m 26 #[.val (.int p0), .val (.int p1), .val (.int p2), .val (.int p3), .val (.int p4), .val (.int p5), .val (.int (j0_0 p5)), .val (.ref b248), .unset, .unset, .unset, .unset, .unset] [(.int p0), (.ref b248)])) rfl (by rw [hml]; rfl) (Steps.refl _) (argsL := [(.int p0)]) (rest := []) (lenOf pd_4 rfl) rfl (by show 2 * 0 + _ ≤ _; exact Nat.le_of_eq rfl) (hb hby at_26) (fun _ _ => ⟨rfl, e252, (by decide : 2 + 0 ≤ _), (by decide : 6 + 0 ≤ _)⟩)
  dsimp only [Pt.U, Pt.locs, Pt.cells, Pt.slots] at X261 l261 y261 z261 st261 hQ261
  subst l261 y261 z261
  obtain ⟨h261, e261⟩ : ∃ z, T261.heap = z := ⟨_, rfl⟩
  rw [e261] at hQ261
  obtain ⟨rfl, N261q, K261q, f262, f263, f264, f265⟩ := hQ261
  have f266 := f253.keep K261q
  have Z261 := Nat.le_trans Z252 K261q.1
  have N261 := Fr.app N252 N261q
  obtain ⟨cq270, kq270, q270a, q270b, q270c⟩ := isOf hZ e261 f262
  obtain ⟨_, _, ⟨T270, L270, k270, n270⟩, -, X270, ⟨Lc270, hQ270, l270, y270, z270⟩, st270⟩ := X261.virtualBack hx (y := (⟨"com/example/subsumer/subsumer/classification/IntList", "add", "(I)V"⟩ : MethodName)) (z := (⟨"com/example/subsumer/subsumer/classification/IntList", "add", "(I)V"⟩ : MethodName)) hown (mvT hZ (hw _ (List.mem_of_getElem? (i := 12) rfl))) (mvT hZ (hw _ (List.mem_of_getElem? (i := 13) rfl))) (notFace_of_selects (args := #[]) (mvT hZ (hw _ (List.mem_of_getElem? (i := 15) rfl)))) (mvT hZ (hw _ (List.mem_of_getElem? (i := 15) rfl))) (mvT hZ (hw _ (List.mem_of_getElem? (i := 14) rfl))) (by decide) (backOf (W := 0) (rm3_4_1 l Z aw hw [] b248 p1 cx0252 p0 ((0 : Int32)) ((0 : Int32)) ((0 : Int32)) cy0252 h261 n0 Z261 f262 f264 f263 f265 g_b248 g_cx0252 ne260) hZ (hw _ (List.mem_of_getElem? (i := 16) rfl)) (hw _ (List.mem_of_getElem? (i := 2) rfl)) (by decide) (by decide)) q270a q270c (g := (mkF m 32 #[.val (.int p0), .val (.int p1), .val (.int p2), .val (.int p3), .val (.int p4), .val (.int p5), .val (.int (j0_0 p5)), .val (.ref b248), .unset, .unset, .unset, .unset, .unset] [(.int p1), (.ref b248)])) rfl (by rw [hml]; rfl) (Steps.refl _) (argsL := [(.int p1)]) (rest := []) (lenOf pd_4 rfl) rfl (by show 2 * 0 + _ ≤ _; exact Nat.le_of_eq rfl) (hb hby at_32) (fun _ _ => ⟨rfl, e261, (by decide : 2 + 0 ≤ _), (by decide : 6 + 0 ≤ _)⟩)
  dsimp only [Pt.U, Pt.locs, Pt.cells, Pt.slots] at X270 l270 y270 z270 st270 hQ270
  subst l270 y270 z270
  obtain ⟨h270, e270⟩ : ∃ z, T270.heap = z := ⟨_, rfl⟩
  rw [e270] at hQ270
  obtain ⟨rfl, N270q, K270q, f271, f272, f273, f274⟩ := hQ270
  have f275 := f262.keep K270q
  have Z270 := Nat.le_trans Z261 K270q.1
  have N270 := Fr.app N261 N270q
  have pre280 := fun (t : State) (k : Steps p.tables e below (T270.setTop (mkF m 37 #[.val (.int p0), .val (.int p1), .val (.int p2), .val (.int p3), .val (.int p4), .val (.int p5), .val (.int (j0_0 p5)), .val (.ref b248), .unset, .unset, .unset, .unset, .unset] [(.int (j0_0 p5))])) t) => pre244 t (by
    show Steps p.tables e below (s₁.setTop (mkF m 12 #[.val (.int p0), .val (.int p1), .val (.int p2), .val (.int p3), .val (.int p4), .val (.int p5), .unset, .unset, .unset, .unset, .unset, .unset, .unset] [(.int (j0_0 p5))])) _
    refine XS.istore X0.here hx rfl (hb hby at_12) rfl (l' := #[.val (.int p0), .val (.int p1), .val (.int p2), .val (.int p3), .val (.int p4), .val (.int p5), .val (.int (j0_0 p5)), .unset, .unset, .unset, .unset, .unset, .unset]) rfl ?_
    show Steps p.tables e below (s₁.setTop (mkF m 14 #[.val (.int p0), .val (.int p1), .val (.int p2), .val (.int p3), .val (.int p4), .val (.int p5), .val (.int (j0_0 p5)), .unset, .unset, .unset, .unset, .unset, .unset] [])) _
    refine st248 _ ?_
    show Steps p.tables e below (T248.setTop (mkF m 17 #[.val (.int p0), .val (.int p1), .val (.int p2), .val (.int p3), .val (.int p4), .val (.int p5), .val (.int (j0_0 p5)), .unset, .unset, .unset, .unset, .unset, .unset] [(.ref b248)])) _
    refine XS.dup X248.here hx rfl (hb hby at_17) rfl rfl ?_
    show Steps p.tables e below (T248.setTop (mkF m 18 #[.val (.int p0), .val (.int p1), .val (.int p2), .val (.int p3), .val (.int p4), .val (.int p5), .val (.int (j0_0 p5)), .unset, .unset, .unset, .unset, .unset, .unset] [(.ref b248), (.ref b248)])) _
    refine st252.trans ?_
    show Steps p.tables e below (T252.setTop (mkF m 21 #[.val (.int p0), .val (.int p1), .val (.int p2), .val (.int p3), .val (.int p4), .val (.int p5), .val (.int (j0_0 p5)), .unset, .unset, .unset, .unset, .unset, .unset] [(.ref b248)])) _
    refine XS.astore X252.here hx rfl (hb hby at_21) rfl rfl (l' := #[.val (.int p0), .val (.int p1), .val (.int p2), .val (.int p3), .val (.int p4), .val (.int p5), .val (.int (j0_0 p5)), .val (.ref b248), .unset, .unset, .unset, .unset, .unset]) rfl ?_
    show Steps p.tables e below (T252.setTop (mkF m 23 #[.val (.int p0), .val (.int p1), .val (.int p2), .val (.int p3), .val (.int p4), .val (.int p5), .val (.int (j0_0 p5)), .val (.ref b248), .unset, .unset, .unset, .unset, .unset] [])) _
    refine XS.aload X252.here hx rfl (hb hby at_23) rfl rfl ?_
    show Steps p.tables e below (T252.setTop (mkF m 25 #[.val (.int p0), .val (.int p1), .val (.int p2), .val (.int p3), .val (.int p4), .val (.int p5), .val (.int (j0_0 p5)), .val (.ref b248), .unset, .unset, .unset, .unset, .unset] [(.ref b248)])) _
    refine XS.iloadN X252.here hx rfl (hb hby at_25) rfl ?_
    show Steps p.tables e below (T252.setTop (mkF m 26 #[.val (.int p0), .val (.int p1), .val (.int p2), .val (.int p3), .val (.int p4), .val (.int p5), .val (.int (j0_0 p5)), .val (.ref b248), .unset, .unset, .unset, .unset, .unset] [(.int p0), (.ref b248)])) _
    refine st261.trans ?_
    show Steps p.tables e below (T261.setTop (mkF m 29 #[.val (.int p0), .val (.int p1), .val (.int p2), .val (.int p3), .val (.int p4), .val (.int p5), .val (.int (j0_0 p5)), .val (.ref b248), .unset, .unset, .unset, .unset, .unset] [])) _
    refine XS.aload X261.here hx rfl (hb hby at_29) rfl rfl ?_
    show Steps p.tables e below (T261.setTop (mkF m 31 #[.val (.int p0), .val (.int p1), .val (.int p2), .val (.int p3), .val (.int p4), .val (.int p5), .val (.int (j0_0 p5)), .val (.ref b248), .unset, .unset, .unset, .unset, .unset] [(.ref b248)])) _
    refine XS.iloadN X261.here hx rfl (hb hby at_31) rfl ?_
    show Steps p.tables e below (T261.setTop (mkF m 32 #[.val (.int p0), .val (.int p1), .val (.int p2), .val (.int p3), .val (.int p4), .val (.int p5), .val (.int (j0_0 p5)), .val (.ref b248), .unset, .unset, .unset, .unset, .unset] [(.int p1), (.ref b248)])) _
    refine st270.trans ?_
    show Steps p.tables e below (T270.setTop (mkF m 35 #[.val (.int p0), .val (.int p1), .val (.int p2), .val (.int p3), .val (.int p4), .val (.int p5), .val (.int (j0_0 p5)), .val (.ref b248), .unset, .unset, .unset, .unset, .unset] [])) _
    refine XS.iload X270.here hx rfl (hb hby at_35) rfl ?_
    exact k)
  by_cases hc279 : (j0_0 p5) = (0 : Int32)
  · skip
    obtain ⟨cq281, kq281, q281a, q281b, q281c⟩ := isOf hZ e270 f271
    obtain ⟨_, _, ⟨T281, L281, k281, n281⟩, -, X281, ⟨Lc281, hQ281, l281, y281, z281⟩, st281⟩ := X270.virtualBack hx (y := (⟨"com/example/subsumer/subsumer/classification/IntList", "pop", "()I"⟩ : MethodName)) (z := (⟨"com/example/subsumer/subsumer/classification/IntList", "pop", "()I"⟩ : MethodName)) hown (mvT hZ (hw _ (List.mem_of_getElem? (i := 37) rfl))) (mvT hZ (hw _ (List.mem_of_getElem? (i := 38) rfl))) (notFace_of_selects (args := #[]) (mvT hZ (hw _ (List.mem_of_getElem? (i := 40) rfl)))) (mvT hZ (hw _ (List.mem_of_getElem? (i := 40) rfl))) (mvT hZ (hw _ (List.mem_of_getElem? (i := 39) rfl))) (by decide) (backOf (W := 0) (rm7_4_2 l Z aw hw [] b248 cx0252 p0 p1 ((0 : Int32)) ((0 : Int32)) cy0252 h270 n0 Z270 f271 f273 f272 f274 g_b248 ne260) hZ (hw _ (List.mem_of_getElem? (i := 41) rfl)) (hw _ (List.mem_of_getElem? (i := 2) rfl)) (by decide) (by decide)) q281a q281c (g := (mkF m 56 #[.val (.int p0), .val (.int p1), .val (.int p2), .val (.int p3), .val (.int p4), .val (.int p5), .val (.int (j0_0 p5)), .val (.ref b248), .unset, .unset, .unset, .unset, .unset] [(.ref b248)])) rfl (by rw [hml]; rfl) (Steps.refl _) (argsL := []) (rest := []) (lenOf pd_6 rfl) rfl (by show 2 * 0 + _ ≤ _; exact Nat.le_of_eq rfl) (hb hby at_56) (fun _ _ => ⟨rfl, e270, (by decide : 2 + 0 ≤ _), (by decide : 6 + 0 ≤ _)⟩)
    dsimp only [Pt.U, Pt.locs, Pt.cells, Pt.slots] at X281 l281 y281 z281 st281 hQ281
    subst l281 y281 z281
    obtain ⟨h281, e281⟩ : ∃ z, T281.heap = z := ⟨_, rfl⟩
    rw [e281] at hQ281
    obtain ⟨rfl, N281q, K281q, f282, f283, f284⟩ := hQ281
    have f285 := f271.keep K281q
    have f288 := f274.keep K281q (ninS (Ne.symm ne260) nin0)
    have Z281 := Nat.le_trans Z270 K281q.1
    have N281 := Fr.app N270 N281q
    obtain ⟨cq289, kq289, q289a, q289b, q289c⟩ := isOf hZ e281 f282
    obtain ⟨_, _, ⟨T289, L289, k289, n289⟩, -, X289, ⟨Lc289, hQ289, l289, y289, z289⟩, st289⟩ := X281.virtualBack hx (y := (⟨"com/example/subsumer/subsumer/classification/IntList", "size", "()I"⟩ : MethodName)) (z := (⟨"com/example/subsumer/subsumer/classification/IntList", "size", "()I"⟩ : MethodName)) hown (mvT hZ (hw _ (List.mem_of_getElem? (i := 42) rfl))) (mvT hZ (hw _ (List.mem_of_getElem? (i := 43) rfl))) (notFace_of_selects (args := #[]) (mvT hZ (hw _ (List.mem_of_getElem? (i := 45) rfl)))) (mvT hZ (hw _ (List.mem_of_getElem? (i := 45) rfl))) (mvT hZ (hw _ (List.mem_of_getElem? (i := 44) rfl))) (by decide) (backOf (W := 0) (rm8 l Z aw hw [] b248 ((1 : Int32)) h281 n0 Z281 f282 f283) hZ (hw _ (List.mem_of_getElem? (i := 46) rfl)) (hw _ (List.mem_of_getElem? (i := 2) rfl)) (by decide) (by decide)) q289a q289c (g := (mkF m 63 #[.val (.int p0), .val (.int p1), .val (.int p2), .val (.int p3), .val (.int p4), .val (.int p5), .val (.int (j0_0 p5)), .val (.ref b248), .val (.int p1), .unset, .unset, .unset, .unset] [(.ref b248)])) rfl (by rw [hml]; rfl) (Steps.refl _) (argsL := []) (rest := []) (lenOf pd_6 rfl) rfl (by show 2 * 0 + _ ≤ _; exact Nat.le_of_eq rfl) (hb hby at_63) (fun _ _ => ⟨rfl, e281, (by decide : 2 + 0 ≤ _), (by decide : 6 + 0 ≤ _)⟩)
    dsimp only [Pt.U, Pt.locs, Pt.cells, Pt.slots] at X289 l289 y289 z289 st289 hQ289
    subst l289 y289 z289
    obtain ⟨rfl, N289q, e289⟩ := hQ289
    have N289 := Fr.app N281 N289q
    obtain ⟨cq290, kq290, q290a, q290b, q290c⟩ := isOf hZ e289 f282
    obtain ⟨_, _, ⟨T290, L290, k290, n290⟩, -, X290, ⟨Lc290, hQ290, l290, y290, z290⟩, st290⟩ := X289.virtualBack hx (y := (⟨"com/example/subsumer/subsumer/classification/IntList", "pop", "()I"⟩ : MethodName)) (z := (⟨"com/example/subsumer/subsumer/classification/IntList", "pop", "()I"⟩ : MethodName)) hown (mvT hZ (hw _ (List.mem_of_getElem? (i := 37) rfl))) (mvT hZ (hw _ (List.mem_of_getElem? (i := 38) rfl))) (notFace_of_selects (args := #[]) (mvT hZ (hw _ (List.mem_of_getElem? (i := 40) rfl)))) (mvT hZ (hw _ (List.mem_of_getElem? (i := 40) rfl))) (mvT hZ (hw _ (List.mem_of_getElem? (i := 39) rfl))) (by decide) (backOf (W := 0) (rm7_4_1 l Z aw hw [] b248 cx0252 p0 p1 ((0 : Int32)) ((0 : Int32)) cy0252 h281 n0 Z281 f282 f284 f283 f288 g_b248 ne260) hZ (hw _ (List.mem_of_getElem? (i := 41) rfl)) (hw _ (List.mem_of_getElem? (i := 2) rfl)) (by decide) (by decide)) q290a q290c (g := (mkF m 70 #[.val (.int p0), .val (.int p1), .val (.int p2), .val (.int p3), .val (.int p4), .val (.int p5), .val (.int (j0_0 p5)), .val (.ref b248), .val (.int p1), .val (.int (1 : Int32)), .unset, .unset, .unset] [(.ref b248)])) rfl (by rw [hml]; rfl) (Steps.refl _) (argsL := []) (rest := []) (lenOf pd_6 rfl) rfl (by show 2 * 0 + _ ≤ _; exact Nat.le_of_eq rfl) (hb hby at_70) (fun _ _ => ⟨rfl, e289, (by decide : 2 + 0 ≤ _), (by decide : 6 + 0 ≤ _)⟩)
    dsimp only [Pt.U, Pt.locs, Pt.cells, Pt.slots] at X290 l290 y290 z290 st290 hQ290
    subst l290 y290 z290
    obtain ⟨h290, e290⟩ : ∃ z, T290.heap = z := ⟨_, rfl⟩
    rw [e290] at hQ290
    obtain ⟨rfl, N290q, K290q, f291, f292, f293⟩ := hQ290
    have f294 := f282.keep K290q
    have f295 := f288.keep K290q (ninS (Ne.symm ne260) nin0)
    have Z290 := Nat.le_trans Z281 K290q.1
    have N290 := Fr.app N289 N290q
    obtain ⟨cq298, kq298, q298a, q298b, q298c⟩ := isOf hZ e290 f291
    obtain ⟨_, _, ⟨T298, L298, k298, n298⟩, -, X298, ⟨Lc298, hQ298, l298, y298, z298⟩, st298⟩ := X290.virtualBack hx (y := (⟨"com/example/subsumer/subsumer/classification/IntList", "size", "()I"⟩ : MethodName)) (z := (⟨"com/example/subsumer/subsumer/classification/IntList", "size", "()I"⟩ : MethodName)) hown (mvT hZ (hw _ (List.mem_of_getElem? (i := 42) rfl))) (mvT hZ (hw _ (List.mem_of_getElem? (i := 43) rfl))) (notFace_of_selects (args := #[]) (mvT hZ (hw _ (List.mem_of_getElem? (i := 45) rfl)))) (mvT hZ (hw _ (List.mem_of_getElem? (i := 45) rfl))) (mvT hZ (hw _ (List.mem_of_getElem? (i := 44) rfl))) (by decide) (backOf (W := 0) (rm8 l Z aw hw [] b248 ((0 : Int32)) h290 n0 Z290 f291 f292) hZ (hw _ (List.mem_of_getElem? (i := 46) rfl)) (hw _ (List.mem_of_getElem? (i := 2) rfl)) (by decide) (by decide)) q298a q298c (g := (mkF m 77 #[.val (.int p0), .val (.int p1), .val (.int p2), .val (.int p3), .val (.int p4), .val (.int p5), .val (.int (j0_0 p5)), .val (.ref b248), .val (.int p1), .val (.int (1 : Int32)), .val (.int p0), .unset, .unset] [(.ref b248)])) rfl (by rw [hml]; rfl) (Steps.refl _) (argsL := []) (rest := []) (lenOf pd_6 rfl) rfl (by show 2 * 0 + _ ≤ _; exact Nat.le_of_eq rfl) (hb hby at_77) (fun _ _ => ⟨rfl, e290, (by decide : 2 + 0 ≤ _), (by decide : 6 + 0 ≤ _)⟩)
    dsimp only [Pt.U, Pt.locs, Pt.cells, Pt.slots] at X298 l298 y298 z298 st298 hQ298
    subst l298 y298 z298
    obtain ⟨rfl, N298q, e298⟩ := hQ298
    have N298 := Fr.app N290 N298q
    obtain ⟨fs, hr, hrun, hended, hW, hsame⟩ := X298.leave (v := some (.int (1 : Int32))) (fun h => by rw [Bd.returns] at h; cases h)
    refine ⟨_, _, pre280 _ ?_, hrun, hended, _, _, rfl, ?_, ⟨_, rfl⟩, hW, hsame.mono (by decide) (by decide)⟩
    · skip
      show Steps p.tables e below (T270.setTop (mkF m 37 #[.val (.int p0), .val (.int p1), .val (.int p2), .val (.int p3), .val (.int p4), .val (.int p5), .val (.int (j0_0 p5)), .val (.ref b248), .unset, .unset, .unset, .unset, .unset] [(.int (j0_0 p5))])) _
      refine XS.ifYes X270.here hx rfl (pc0 := 37) (pc' := 54) rfl (hb hby at_37) rfl ((if0 _ _).trans (teq hc279).1) (by decide) (by decide) ?_
      show Steps p.tables e below (T270.setTop (mkF m 54 #[.val (.int p0), .val (.int p1), .val (.int p2), .val (.int p3), .val (.int p4), .val (.int p5), .val (.int (j0_0 p5)), .val (.ref b248), .unset, .unset, .unset, .unset, .unset] [])) _
      refine XS.aload X270.here hx rfl (hb hby at_54) rfl rfl ?_
      show Steps p.tables e below (T270.setTop (mkF m 56 #[.val (.int p0), .val (.int p1), .val (.int p2), .val (.int p3), .val (.int p4), .val (.int p5), .val (.int (j0_0 p5)), .val (.ref b248), .unset, .unset, .unset, .unset, .unset] [(.ref b248)])) _
      refine st281.trans ?_
      show Steps p.tables e below (T281.setTop (mkF m 59 #[.val (.int p0), .val (.int p1), .val (.int p2), .val (.int p3), .val (.int p4), .val (.int p5), .val (.int (j0_0 p5)), .val (.ref b248), .unset, .unset, .unset, .unset, .unset] [(.int p1)])) _
      refine XS.istore X281.here hx rfl (hb hby at_59) rfl (l' := #[.val (.int p0), .val (.int p1), .val (.int p2), .val (.int p3), .val (.int p4), .val (.int p5), .val (.int (j0_0 p5)), .val (.ref b248), .val (.int p1), .unset, .unset, .unset, .unset]) rfl ?_
      show Steps p.tables e below (T281.setTop (mkF m 61 #[.val (.int p0), .val (.int p1), .val (.int p2), .val (.int p3), .val (.int p4), .val (.int p5), .val (.int (j0_0 p5)), .val (.ref b248), .val (.int p1), .unset, .unset, .unset, .unset] [])) _
      refine XS.aload X281.here hx rfl (hb hby at_61) rfl rfl ?_
      show Steps p.tables e below (T281.setTop (mkF m 63 #[.val (.int p0), .val (.int p1), .val (.int p2), .val (.int p3), .val (.int p4), .val (.int p5), .val (.int (j0_0 p5)), .val (.ref b248), .val (.int p1), .unset, .unset, .unset, .unset] [(.ref b248)])) _
      refine st289.trans ?_
      show Steps p.tables e below (T289.setTop (mkF m 66 #[.val (.int p0), .val (.int p1), .val (.int p2), .val (.int p3), .val (.int p4), .val (.int p5), .val (.int (j0_0 p5)), .val (.ref b248), .val (.int p1), .unset, .unset, .unset, .unset] [(.int (1 : Int32))])) _
      refine XS.istore X289.here hx rfl (hb hby at_66) rfl (l' := #[.val (.int p0), .val (.int p1), .val (.int p2), .val (.int p3), .val (.int p4), .val (.int p5), .val (.int (j0_0 p5)), .val (.ref b248), .val (.int p1), .val (.int (1 : Int32)), .unset, .unset, .unset]) rfl ?_
      show Steps p.tables e below (T289.setTop (mkF m 68 #[.val (.int p0), .val (.int p1), .val (.int p2), .val (.int p3), .val (.int p4), .val (.int p5), .val (.int (j0_0 p5)), .val (.ref b248), .val (.int p1), .val (.int (1 : Int32)), .unset, .unset, .unset] [])) _
      refine XS.aload X289.here hx rfl (hb hby at_68) rfl rfl ?_
      show Steps p.tables e below (T289.setTop (mkF m 70 #[.val (.int p0), .val (.int p1), .val (.int p2), .val (.int p3), .val (.int p4), .val (.int p5), .val (.int (j0_0 p5)), .val (.ref b248), .val (.int p1), .val (.int (1 : Int32)), .unset, .unset, .unset] [(.ref b248)])) _
      refine st290.trans ?_
      show Steps p.tables e below (T290.setTop (mkF m 73 #[.val (.int p0), .val (.int p1), .val (.int p2), .val (.int p3), .val (.int p4), .val (.int p5), .val (.int (j0_0 p5)), .val (.ref b248), .val (.int p1), .val (.int (1 : Int32)), .unset, .unset, .unset] [(.int p0)])) _
      refine XS.istore X290.here hx rfl (hb hby at_73) rfl (l' := #[.val (.int p0), .val (.int p1), .val (.int p2), .val (.int p3), .val (.int p4), .val (.int p5), .val (.int (j0_0 p5)), .val (.ref b248), .val (.int p1), .val (.int (1 : Int32)), .val (.int p0), .unset, .unset]) rfl ?_
      show Steps p.tables e below (T290.setTop (mkF m 75 #[.val (.int p0), .val (.int p1), .val (.int p2), .val (.int p3), .val (.int p4), .val (.int p5), .val (.int (j0_0 p5)), .val (.ref b248), .val (.int p1), .val (.int (1 : Int32)), .val (.int p0), .unset, .unset] [])) _
      refine XS.aload X290.here hx rfl (hb hby at_75) rfl rfl ?_
      show Steps p.tables e below (T290.setTop (mkF m 77 #[.val (.int p0), .val (.int p1), .val (.int p2), .val (.int p3), .val (.int p4), .val (.int p5), .val (.int (j0_0 p5)), .val (.ref b248), .val (.int p1), .val (.int (1 : Int32)), .val (.int p0), .unset, .unset] [(.ref b248)])) _
      refine st298.trans ?_
      show Steps p.tables e below (T298.setTop (mkF m 80 #[.val (.int p0), .val (.int p1), .val (.int p2), .val (.int p3), .val (.int p4), .val (.int p5), .val (.int (j0_0 p5)), .val (.ref b248), .val (.int p1), .val (.int (1 : Int32)), .val (.int p0), .unset, .unset] [(.int (0 : Int32))])) _
      refine XS.istore X298.here hx rfl (hb hby at_80) rfl (l' := #[.val (.int p0), .val (.int p1), .val (.int p2), .val (.int p3), .val (.int p4), .val (.int p5), .val (.int (j0_0 p5)), .val (.ref b248), .val (.int p1), .val (.int (1 : Int32)), .val (.int p0), .val (.int (0 : Int32)), .unset]) rfl ?_
      show Steps p.tables e below (T298.setTop (mkF m 82 #[.val (.int p0), .val (.int p1), .val (.int p2), .val (.int p3), .val (.int p4), .val (.int p5), .val (.int (j0_0 p5)), .val (.ref b248), .val (.int p1), .val (.int (1 : Int32)), .val (.int p0), .val (.int (0 : Int32)), .unset] [])) _
      refine XS.iload X298.here hx rfl (hb hby at_82) rfl ?_
      show Steps p.tables e below (T298.setTop (mkF m 84 #[.val (.int p0), .val (.int p1), .val (.int p2), .val (.int p3), .val (.int p4), .val (.int p5), .val (.int (j0_0 p5)), .val (.ref b248), .val (.int p1), .val (.int (1 : Int32)), .val (.int p0), .val (.int (0 : Int32)), .unset] [(.int (j0_0 p5))])) _
      refine XS.ifYes X298.here hx rfl (pc0 := 84) (pc' := 142) rfl (hb hby at_84) rfl ((if0 _ _).trans (teq hc279).1) (by decide) (by decide) ?_
      show Steps p.tables e below (T298.setTop (mkF m 142 #[.val (.int p0), .val (.int p1), .val (.int p2), .val (.int p3), .val (.int p4), .val (.int p5), .val (.int (j0_0 p5)), .val (.ref b248), .val (.int p1), .val (.int (1 : Int32)), .val (.int p0), .val (.int (0 : Int32)), .unset] [])) _
      refine XS.iload X298.here hx rfl (hb hby at_142) rfl ?_
      show Steps p.tables e below (T298.setTop (mkF m 144 #[.val (.int p0), .val (.int p1), .val (.int p2), .val (.int p3), .val (.int p4), .val (.int p5), .val (.int (j0_0 p5)), .val (.ref b248), .val (.int p1), .val (.int (1 : Int32)), .val (.int p0), .val (.int (0 : Int32)), .unset] [(.int p1)])) _
      refine XS.iloadN X298.here hx rfl (hb hby at_144) rfl ?_
      show Steps p.tables e below (T298.setTop (mkF m 145 #[.val (.int p0), .val (.int p1), .val (.int p2), .val (.int p3), .val (.int p4), .val (.int p5), .val (.int (j0_0 p5)), .val (.ref b248), .val (.int p1), .val (.int (1 : Int32)), .val (.int p0), .val (.int (0 : Int32)), .unset] [(.int p1), (.int p1)])) _
      refine XS.icmpNo X298.here hx rfl (hb hby at_145) rfl (teq (rfl : p1 = p1)).2 ?_
      show Steps p.tables e below (T298.setTop (mkF m 148 #[.val (.int p0), .val (.int p1), .val (.int p2), .val (.int p3), .val (.int p4), .val (.int p5), .val (.int (j0_0 p5)), .val (.ref b248), .val (.int p1), .val (.int (1 : Int32)), .val (.int p0), .val (.int (0 : Int32)), .unset] [])) _
      refine XS.iload X298.here hx rfl (hb hby at_148) rfl ?_
      show Steps p.tables e below (T298.setTop (mkF m 150 #[.val (.int p0), .val (.int p1), .val (.int p2), .val (.int p3), .val (.int p4), .val (.int p5), .val (.int (j0_0 p5)), .val (.ref b248), .val (.int p1), .val (.int (1 : Int32)), .val (.int p0), .val (.int (0 : Int32)), .unset] [(.int (1 : Int32))])) _
      refine XS.iconst X298.here hx rfl (hb hby at_150) ?_
      show Steps p.tables e below (T298.setTop (mkF m 151 #[.val (.int p0), .val (.int p1), .val (.int p2), .val (.int p3), .val (.int p4), .val (.int p5), .val (.int (j0_0 p5)), .val (.ref b248), .val (.int p1), .val (.int (1 : Int32)), .val (.int p0), .val (.int (0 : Int32)), .unset] [(.int (1 : Int32)), (.int (1 : Int32))])) _
      refine XS.icmpNo X298.here hx rfl (hb hby at_151) rfl (teq (rfl : (1 : Int32) = (1 : Int32))).2 ?_
      show Steps p.tables e below (T298.setTop (mkF m 154 #[.val (.int p0), .val (.int p1), .val (.int p2), .val (.int p3), .val (.int p4), .val (.int p5), .val (.int (j0_0 p5)), .val (.ref b248), .val (.int p1), .val (.int (1 : Int32)), .val (.int p0), .val (.int (0 : Int32)), .unset] [])) _
      refine XS.iload X298.here hx rfl (hb hby at_154) rfl ?_
      show Steps p.tables e below (T298.setTop (mkF m 156 #[.val (.int p0), .val (.int p1), .val (.int p2), .val (.int p3), .val (.int p4), .val (.int p5), .val (.int (j0_0 p5)), .val (.ref b248), .val (.int p1), .val (.int (1 : Int32)), .val (.int p0), .val (.int (0 : Int32)), .unset] [(.int p0)])) _
      refine XS.iloadN X298.here hx rfl (hb hby at_156) rfl ?_
      show Steps p.tables e below (T298.setTop (mkF m 157 #[.val (.int p0), .val (.int p1), .val (.int p2), .val (.int p3), .val (.int p4), .val (.int p5), .val (.int (j0_0 p5)), .val (.ref b248), .val (.int p1), .val (.int (1 : Int32)), .val (.int p0), .val (.int (0 : Int32)), .unset] [(.int p0), (.int p0)])) _
      refine XS.icmpNo X298.here hx rfl (hb hby at_157) rfl (teq (rfl : p0 = p0)).2 ?_
      show Steps p.tables e below (T298.setTop (mkF m 160 #[.val (.int p0), .val (.int p1), .val (.int p2), .val (.int p3), .val (.int p4), .val (.int p5), .val (.int (j0_0 p5)), .val (.ref b248), .val (.int p1), .val (.int (1 : Int32)), .val (.int p0), .val (.int (0 : Int32)), .unset] [])) _
      refine XS.iload X298.here hx rfl (hb hby at_160) rfl ?_
      show Steps p.tables e below (T298.setTop (mkF m 162 #[.val (.int p0), .val (.int p1), .val (.int p2), .val (.int p3), .val (.int p4), .val (.int p5), .val (.int (j0_0 p5)), .val (.ref b248), .val (.int p1), .val (.int (1 : Int32)), .val (.int p0), .val (.int (0 : Int32)), .unset] [(.int (0 : Int32))])) _
      refine XS.ifNo X298.here hx rfl (hb hby at_162) rfl ((if0 _ _).trans (teq (rfl : (0 : Int32) = (0 : Int32))).2) ?_
      show Steps p.tables e below (T298.setTop (mkF m 165 #[.val (.int p0), .val (.int p1), .val (.int p2), .val (.int p3), .val (.int p4), .val (.int p5), .val (.int (j0_0 p5)), .val (.ref b248), .val (.int p1), .val (.int (1 : Int32)), .val (.int p0), .val (.int (0 : Int32)), .unset] [])) _
      refine XS.iconst X298.here hx rfl (hb hby at_165) ?_
      show Steps p.tables e below (T298.setTop (mkF m 166 #[.val (.int p0), .val (.int p1), .val (.int p2), .val (.int p3), .val (.int p4), .val (.int p5), .val (.int (j0_0 p5)), .val (.ref b248), .val (.int p1), .val (.int (1 : Int32)), .val (.int p0), .val (.int (0 : Int32)), .unset] [(.int (1 : Int32))])) _
      refine XS.goto X298.here hx rfl (pc0 := 166) (pc' := 170) rfl (hb hby at_166) (by decide) (by decide) ?_
      show Steps p.tables e below (T298.setTop (mkF m 170 #[.val (.int p0), .val (.int p1), .val (.int p2), .val (.int p3), .val (.int p4), .val (.int p5), .val (.int (j0_0 p5)), .val (.ref b248), .val (.int p1), .val (.int (1 : Int32)), .val (.int p0), .val (.int (0 : Int32)), .unset] [(.int (1 : Int32))])) _
      refine XS.istore X298.here hx rfl (hb hby at_170) rfl (l' := #[.val (.int p0), .val (.int p1), .val (.int p2), .val (.int p3), .val (.int p4), .val (.int p5), .val (.int (j0_0 p5)), .val (.ref b248), .val (.int p1), .val (.int (1 : Int32)), .val (.int p0), .val (.int (0 : Int32)), .val (.int (1 : Int32))]) rfl ?_
      show Steps p.tables e below (T298.setTop (mkF m 172 #[.val (.int p0), .val (.int p1), .val (.int p2), .val (.int p3), .val (.int p4), .val (.int p5), .val (.int (j0_0 p5)), .val (.ref b248), .val (.int p1), .val (.int (1 : Int32)), .val (.int p0), .val (.int (0 : Int32)), .val (.int (1 : Int32))] [])) _
      refine XS.iload X298.here hx rfl (hb hby at_172) rfl ?_
      show Steps p.tables e below (T298.setTop (mkF m 174 #[.val (.int p0), .val (.int p1), .val (.int p2), .val (.int p3), .val (.int p4), .val (.int p5), .val (.int (j0_0 p5)), .val (.ref b248), .val (.int p1), .val (.int (1 : Int32)), .val (.int p0), .val (.int (0 : Int32)), .val (.int (1 : Int32))] [(.int (1 : Int32))])) _
      exact retN X298 hx (t := .boolean) Bd.returns (by simp) (hb hby at_174) hr
    · show Q0 Z p0 p1 p2 p3 p4 p5 h0 n0 _ T298.heap _
      rw [e298]
      have hv : (1 : Int32) = (v0 p5) := by unfold v0; first | (rw [if_pos hc279]) | (simp only [if_pos hc279])
      exact ⟨(by rw [← hv]), N298⟩
  · skip
    obtain ⟨cq299, kq299, q299a, q299b, q299c⟩ := isOf hZ e270 f271
    obtain ⟨_, _, ⟨T299, L299, k299, n299⟩, -, X299, ⟨Lc299, hQ299, l299, y299, z299⟩, st299⟩ := X270.virtualBack hx (y := (⟨"com/example/subsumer/subsumer/classification/IntList", "add", "(II)V"⟩ : MethodName)) (z := (⟨"com/example/subsumer/subsumer/classification/IntList", "add", "(II)V"⟩ : MethodName)) hown (mvT hZ (hw _ (List.mem_of_getElem? (i := 19) rfl))) (mvT hZ (hw _ (List.mem_of_getElem? (i := 20) rfl))) (notFace_of_selects (args := #[]) (mvT hZ (hw _ (List.mem_of_getElem? (i := 22) rfl)))) (mvT hZ (hw _ (List.mem_of_getElem? (i := 22) rfl))) (mvT hZ (hw _ (List.mem_of_getElem? (i := 21) rfl))) (by decide) (backOf (W := 0) (rm4 l Z aw hw [] b248 p2 p3 cx0252 p0 p1 ((0 : Int32)) ((0 : Int32)) cy0252 h270 n0 Z270 f271 f273 f272 f274 g_b248 g_cx0252 ne260) hZ (hw _ (List.mem_of_getElem? (i := 23) rfl)) (hw _ (List.mem_of_getElem? (i := 2) rfl)) (by decide) (by decide)) q299a q299c (g := (mkF m 44 #[.val (.int p0), .val (.int p1), .val (.int p2), .val (.int p3), .val (.int p4), .val (.int p5), .val (.int (j0_0 p5)), .val (.ref b248), .unset, .unset, .unset, .unset, .unset] [(.int p3), (.int p2), (.ref b248)])) rfl (by rw [hml]; rfl) (Steps.refl _) (argsL := [(.int p2), (.int p3)]) (rest := []) (lenOf pd_7 rfl) rfl (by show 2 * 0 + _ ≤ _; exact Nat.le_of_eq rfl) (hb hby at_44) (fun _ _ => ⟨rfl, e270, (by decide : 2 + 0 ≤ _), (by decide : 6 + 0 ≤ _)⟩)
    dsimp only [Pt.U, Pt.locs, Pt.cells, Pt.slots] at X299 l299 y299 z299 st299 hQ299
    subst l299 y299 z299
    obtain ⟨h299, e299⟩ : ∃ z, T299.heap = z := ⟨_, rfl⟩
    rw [e299] at hQ299
    obtain ⟨rfl, N299q, K299q, f300, f301, f302, f303⟩ := hQ299
    have f304 := f271.keep K299q
    have Z299 := Nat.le_trans Z270 K299q.1
    have N299 := Fr.app N270 N299q
    obtain ⟨cq308, kq308, q308a, q308b, q308c⟩ := isOf hZ e299 f300
    obtain ⟨_, _, ⟨T308, L308, k308, n308⟩, -, X308, ⟨Lc308, hQ308, l308, y308, z308⟩, st308⟩ := X299.virtualBack hx (y := (⟨"com/example/subsumer/subsumer/classification/IntList", "add", "(I)V"⟩ : MethodName)) (z := (⟨"com/example/subsumer/subsumer/classification/IntList", "add", "(I)V"⟩ : MethodName)) hown (mvT hZ (hw _ (List.mem_of_getElem? (i := 12) rfl))) (mvT hZ (hw _ (List.mem_of_getElem? (i := 13) rfl))) (notFace_of_selects (args := #[]) (mvT hZ (hw _ (List.mem_of_getElem? (i := 15) rfl)))) (mvT hZ (hw _ (List.mem_of_getElem? (i := 15) rfl))) (mvT hZ (hw _ (List.mem_of_getElem? (i := 14) rfl))) (by decide) (backOf (W := 0) (rm3_4_4 l Z aw hw [] b248 p4 cx0252 p0 p1 p2 p3 cy0252 h299 n0 Z299 f300 f302 f301 f303 g_b248 ne260) hZ (hw _ (List.mem_of_getElem? (i := 16) rfl)) (hw _ (List.mem_of_getElem? (i := 2) rfl)) (by decide) (by decide)) q308a q308c (g := (mkF m 51 #[.val (.int p0), .val (.int p1), .val (.int p2), .val (.int p3), .val (.int p4), .val (.int p5), .val (.int (j0_0 p5)), .val (.ref b248), .unset, .unset, .unset, .unset, .unset] [(.int p4), (.ref b248)])) rfl (by rw [hml]; rfl) (Steps.refl _) (argsL := [(.int p4)]) (rest := []) (lenOf pd_4 rfl) rfl (by show 2 * 0 + _ ≤ _; exact Nat.le_of_eq rfl) (hb hby at_51) (fun _ _ => ⟨rfl, e299, (by decide : 2 + 1 ≤ _), (by decide : 6 + 8 ≤ _)⟩)
    dsimp only [Pt.U, Pt.locs, Pt.cells, Pt.slots] at X308 l308 y308 z308 st308 hQ308
    subst l308 y308 z308
    obtain ⟨h308, e308⟩ : ∃ z, T308.heap = z := ⟨_, rfl⟩
    rw [e308] at hQ308
    obtain ⟨cx0308, cy0308, rfl, N308q, K308q, g_cx0308, zz_cx0308, f309, f310, f311, f312⟩ := hQ308
    have f313 := f300.keep K308q
    have f316 := f303.keep K308q (ninS (Ne.symm ne260) nin0)
    have ne317 : b248 ≠ cx0308 := Nat.ne_of_lt (Nat.lt_of_lt_of_le f300.lt zz_cx0308)
    have ne318 : cx0252 ≠ cx0308 := Nat.ne_of_lt (Nat.lt_of_lt_of_le f303.lt zz_cx0308)
    have Z308 := Nat.le_trans Z299 K308q.1
    have N308 := Fr.app N299 N308q
    obtain ⟨cq319, kq319, q319a, q319b, q319c⟩ := isOf hZ e308 f309
    obtain ⟨_, _, ⟨T319, L319, k319, n319⟩, -, X319, ⟨Lc319, hQ319, l319, y319, z319⟩, st319⟩ := X308.virtualBack hx (y := (⟨"com/example/subsumer/subsumer/classification/IntList", "pop", "()I"⟩ : MethodName)) (z := (⟨"com/example/subsumer/subsumer/classification/IntList", "pop", "()I"⟩ : MethodName)) hown (mvT hZ (hw _ (List.mem_of_getElem? (i := 37) rfl))) (mvT hZ (hw _ (List.mem_of_getElem? (i := 38) rfl))) (notFace_of_selects (args := #[]) (mvT hZ (hw _ (List.mem_of_getElem? (i := 40) rfl)))) (mvT hZ (hw _ (List.mem_of_getElem? (i := 40) rfl))) (mvT hZ (hw _ (List.mem_of_getElem? (i := 39) rfl))) (by decide) (backOf (W := 0) (rm7_8_5 l Z aw hw [] b248 cx0308 p0 p1 p2 p3 p4 ((0 : Int32)) ((0 : Int32)) ((0 : Int32)) cy0308 h308 n0 Z308 f309 f311 f310 f312 g_b248 ne317) hZ (hw _ (List.mem_of_getElem? (i := 41) rfl)) (hw _ (List.mem_of_getElem? (i := 2) rfl)) (by decide) (by decide)) q319a q319c (g := (mkF m 56 #[.val (.int p0), .val (.int p1), .val (.int p2), .val (.int p3), .val (.int p4), .val (.int p5), .val (.int (j0_0 p5)), .val (.ref b248), .unset, .unset, .unset, .unset, .unset] [(.ref b248)])) rfl (by rw [hml]; rfl) (Steps.refl _) (argsL := []) (rest := []) (lenOf pd_6 rfl) rfl (by show 2 * 0 + _ ≤ _; exact Nat.le_of_eq rfl) (hb hby at_56) (fun _ _ => ⟨rfl, e308, (by decide : 3 + 0 ≤ _), (by decide : 14 + 0 ≤ _)⟩)
    dsimp only [Pt.U, Pt.locs, Pt.cells, Pt.slots] at X319 l319 y319 z319 st319 hQ319
    subst l319 y319 z319
    obtain ⟨h319, e319⟩ : ∃ z, T319.heap = z := ⟨_, rfl⟩
    rw [e319] at hQ319
    obtain ⟨rfl, N319q, K319q, f320, f321, f322⟩ := hQ319
    have f323 := f309.keep K319q
    have f324 := f316.keep K319q (ninS (Ne.symm ne260) nin0)
    have f327 := f312.keep K319q (ninS (Ne.symm ne317) nin0)
    have Z319 := Nat.le_trans Z308 K319q.1
    have N319 := Fr.app N308 N319q
    obtain ⟨cq328, kq328, q328a, q328b, q328c⟩ := isOf hZ e319 f320
    obtain ⟨_, _, ⟨T328, L328, k328, n328⟩, -, X328, ⟨Lc328, hQ328, l328, y328, z328⟩, st328⟩ := X319.virtualBack hx (y := (⟨"com/example/subsumer/subsumer/classification/IntList", "size", "()I"⟩ : MethodName)) (z := (⟨"com/example/subsumer/subsumer/classification/IntList", "size", "()I"⟩ : MethodName)) hown (mvT hZ (hw _ (List.mem_of_getElem? (i := 42) rfl))) (mvT hZ (hw _ (List.mem_of_getElem? (i := 43) rfl))) (notFace_of_selects (args := #[]) (mvT hZ (hw _ (List.mem_of_getElem? (i := 45) rfl)))) (mvT hZ (hw _ (List.mem_of_getElem? (i := 45) rfl))) (mvT hZ (hw _ (List.mem_of_getElem? (i := 44) rfl))) (by decide) (backOf (W := 0) (rm8 l Z aw hw [] b248 ((4 : Int32)) h319 n0 Z319 f320 f321) hZ (hw _ (List.mem_of_getElem? (i := 46) rfl)) (hw _ (List.mem_of_getElem? (i := 2) rfl)) (by decide) (by decide)) q328a q328c (g := (mkF m 63 #[.val (.int p0), .val (.int p1), .val (.int p2), .val (.int p3), .val (.int p4), .val (.int p5), .val (.int (j0_0 p5)), .val (.ref b248), .val (.int p4), .unset, .unset, .unset, .unset] [(.ref b248)])) rfl (by rw [hml]; rfl) (Steps.refl _) (argsL := []) (rest := []) (lenOf pd_6 rfl) rfl (by show 2 * 0 + _ ≤ _; exact Nat.le_of_eq rfl) (hb hby at_63) (fun _ _ => ⟨rfl, e319, (by decide : 3 + 0 ≤ _), (by decide : 14 + 0 ≤ _)⟩)
    dsimp only [Pt.U, Pt.locs, Pt.cells, Pt.slots] at X328 l328 y328 z328 st328 hQ328
    subst l328 y328 z328
    obtain ⟨rfl, N328q, e328⟩ := hQ328
    have N328 := Fr.app N319 N328q
    obtain ⟨cq329, kq329, q329a, q329b, q329c⟩ := isOf hZ e328 f320
    obtain ⟨_, _, ⟨T329, L329, k329, n329⟩, -, X329, ⟨Lc329, hQ329, l329, y329, z329⟩, st329⟩ := X328.virtualBack hx (y := (⟨"com/example/subsumer/subsumer/classification/IntList", "pop", "()I"⟩ : MethodName)) (z := (⟨"com/example/subsumer/subsumer/classification/IntList", "pop", "()I"⟩ : MethodName)) hown (mvT hZ (hw _ (List.mem_of_getElem? (i := 37) rfl))) (mvT hZ (hw _ (List.mem_of_getElem? (i := 38) rfl))) (notFace_of_selects (args := #[]) (mvT hZ (hw _ (List.mem_of_getElem? (i := 40) rfl)))) (mvT hZ (hw _ (List.mem_of_getElem? (i := 40) rfl))) (mvT hZ (hw _ (List.mem_of_getElem? (i := 39) rfl))) (by decide) (backOf (W := 0) (rm7_8_4 l Z aw hw [] b248 cx0308 p0 p1 p2 p3 p4 ((0 : Int32)) ((0 : Int32)) ((0 : Int32)) cy0308 h319 n0 Z319 f320 f322 f321 f327 g_b248 ne317) hZ (hw _ (List.mem_of_getElem? (i := 41) rfl)) (hw _ (List.mem_of_getElem? (i := 2) rfl)) (by decide) (by decide)) q329a q329c (g := (mkF m 70 #[.val (.int p0), .val (.int p1), .val (.int p2), .val (.int p3), .val (.int p4), .val (.int p5), .val (.int (j0_0 p5)), .val (.ref b248), .val (.int p4), .val (.int (4 : Int32)), .unset, .unset, .unset] [(.ref b248)])) rfl (by rw [hml]; rfl) (Steps.refl _) (argsL := []) (rest := []) (lenOf pd_6 rfl) rfl (by show 2 * 0 + _ ≤ _; exact Nat.le_of_eq rfl) (hb hby at_70) (fun _ _ => ⟨rfl, e328, (by decide : 3 + 0 ≤ _), (by decide : 14 + 0 ≤ _)⟩)
    dsimp only [Pt.U, Pt.locs, Pt.cells, Pt.slots] at X329 l329 y329 z329 st329 hQ329
    subst l329 y329 z329
    obtain ⟨h329, e329⟩ : ∃ z, T329.heap = z := ⟨_, rfl⟩
    rw [e329] at hQ329
    obtain ⟨rfl, N329q, K329q, f330, f331, f332⟩ := hQ329
    have f333 := f320.keep K329q
    have f334 := f324.keep K329q (ninS (Ne.symm ne260) nin0)
    have f335 := f327.keep K329q (ninS (Ne.symm ne317) nin0)
    have Z329 := Nat.le_trans Z319 K329q.1
    have N329 := Fr.app N328 N329q
    obtain ⟨cq338, kq338, q338a, q338b, q338c⟩ := isOf hZ e329 f330
    obtain ⟨_, _, ⟨T338, L338, k338, n338⟩, -, X338, ⟨Lc338, hQ338, l338, y338, z338⟩, st338⟩ := X329.virtualBack hx (y := (⟨"com/example/subsumer/subsumer/classification/IntList", "size", "()I"⟩ : MethodName)) (z := (⟨"com/example/subsumer/subsumer/classification/IntList", "size", "()I"⟩ : MethodName)) hown (mvT hZ (hw _ (List.mem_of_getElem? (i := 42) rfl))) (mvT hZ (hw _ (List.mem_of_getElem? (i := 43) rfl))) (notFace_of_selects (args := #[]) (mvT hZ (hw _ (List.mem_of_getElem? (i := 45) rfl)))) (mvT hZ (hw _ (List.mem_of_getElem? (i := 45) rfl))) (mvT hZ (hw _ (List.mem_of_getElem? (i := 44) rfl))) (by decide) (backOf (W := 0) (rm8 l Z aw hw [] b248 ((3 : Int32)) h329 n0 Z329 f330 f331) hZ (hw _ (List.mem_of_getElem? (i := 46) rfl)) (hw _ (List.mem_of_getElem? (i := 2) rfl)) (by decide) (by decide)) q338a q338c (g := (mkF m 77 #[.val (.int p0), .val (.int p1), .val (.int p2), .val (.int p3), .val (.int p4), .val (.int p5), .val (.int (j0_0 p5)), .val (.ref b248), .val (.int p4), .val (.int (4 : Int32)), .val (.int p3), .unset, .unset] [(.ref b248)])) rfl (by rw [hml]; rfl) (Steps.refl _) (argsL := []) (rest := []) (lenOf pd_6 rfl) rfl (by show 2 * 0 + _ ≤ _; exact Nat.le_of_eq rfl) (hb hby at_77) (fun _ _ => ⟨rfl, e329, (by decide : 3 + 0 ≤ _), (by decide : 14 + 0 ≤ _)⟩)
    dsimp only [Pt.U, Pt.locs, Pt.cells, Pt.slots] at X338 l338 y338 z338 st338 hQ338
    subst l338 y338 z338
    obtain ⟨rfl, N338q, e338⟩ := hQ338
    have N338 := Fr.app N329 N338q
    obtain ⟨cq339, kq339, q339a, q339b, q339c⟩ := isOf hZ e338 f330
    obtain ⟨_, _, ⟨T339, L339, k339, n339⟩, -, X339, ⟨Lc339, hQ339, l339, y339, z339⟩, st339⟩ := X338.virtualBack hx (y := (⟨"com/example/subsumer/subsumer/classification/IntList", "get", "(I)I"⟩ : MethodName)) (z := (⟨"com/example/subsumer/subsumer/classification/IntList", "get", "(I)I"⟩ : MethodName)) hown (mvT hZ (hw _ (List.mem_of_getElem? (i := 47) rfl))) (mvT hZ (hw _ (List.mem_of_getElem? (i := 48) rfl))) (notFace_of_selects (args := #[]) (mvT hZ (hw _ (List.mem_of_getElem? (i := 50) rfl)))) (mvT hZ (hw _ (List.mem_of_getElem? (i := 50) rfl))) (mvT hZ (hw _ (List.mem_of_getElem? (i := 49) rfl))) (by decide) (backOf (W := 0) (rm9_8_0 l Z aw hw [] b248 cx0308 p0 p1 p2 p3 p4 ((0 : Int32)) ((0 : Int32)) ((0 : Int32)) cy0308 h329 n0 Z329 f330 f332 f335) hZ (hw _ (List.mem_of_getElem? (i := 51) rfl)) (hw _ (List.mem_of_getElem? (i := 2) rfl)) (by decide) (by decide)) q339a q339c (g := (mkF m 115 #[.val (.int p0), .val (.int p1), .val (.int p2), .val (.int p3), .val (.int p4), .val (.int p5), .val (.int (j0_0 p5)), .val (.ref b248), .val (.int p4), .val (.int (4 : Int32)), .val (.int p3), .val (.int (3 : Int32)), .unset] [(.int (0 : Int32)), (.ref b248)])) rfl (by rw [hml]; rfl) (Steps.refl _) (argsL := [(.int (0 : Int32))]) (rest := []) (lenOf pd_8 rfl) rfl (by show 2 * 0 + _ ≤ _; exact Nat.le_of_eq rfl) (hb hby at_115) (fun _ _ => ⟨rfl, e338, (by decide : 3 + 0 ≤ _), (by decide : 14 + 0 ≤ _)⟩)
    dsimp only [Pt.U, Pt.locs, Pt.cells, Pt.slots] at X339 l339 y339 z339 st339 hQ339
    subst l339 y339 z339
    obtain ⟨rfl, N339q, e339⟩ := hQ339
    have N339 := Fr.app N338 N339q
    obtain ⟨cq340, kq340, q340a, q340b, q340c⟩ := isOf hZ e339 f330
    obtain ⟨_, _, ⟨T340, L340, k340, n340⟩, -, X340, ⟨Lc340, hQ340, l340, y340, z340⟩, st340⟩ := X339.virtualBack hx (y := (⟨"com/example/subsumer/subsumer/classification/IntList", "get", "(I)I"⟩ : MethodName)) (z := (⟨"com/example/subsumer/subsumer/classification/IntList", "get", "(I)I"⟩ : MethodName)) hown (mvT hZ (hw _ (List.mem_of_getElem? (i := 47) rfl))) (mvT hZ (hw _ (List.mem_of_getElem? (i := 48) rfl))) (notFace_of_selects (args := #[]) (mvT hZ (hw _ (List.mem_of_getElem? (i := 50) rfl)))) (mvT hZ (hw _ (List.mem_of_getElem? (i := 50) rfl))) (mvT hZ (hw _ (List.mem_of_getElem? (i := 49) rfl))) (by decide) (backOf (W := 0) (rm9_8_2 l Z aw hw [] b248 cx0308 p0 p1 p2 p3 p4 ((0 : Int32)) ((0 : Int32)) ((0 : Int32)) cy0308 h329 n0 Z329 f330 f332 f335) hZ (hw _ (List.mem_of_getElem? (i := 51) rfl)) (hw _ (List.mem_of_getElem? (i := 2) rfl)) (by decide) (by decide)) q340a q340c (g := (mkF m 125 #[.val (.int p0), .val (.int p1), .val (.int p2), .val (.int p3), .val (.int p4), .val (.int p5), .val (.int (j0_0 p5)), .val (.ref b248), .val (.int p4), .val (.int (4 : Int32)), .val (.int p3), .val (.int (3 : Int32)), .unset] [(.int (2 : Int32)), (.ref b248)])) rfl (by rw [hml]; rfl) (Steps.refl _) (argsL := [(.int (2 : Int32))]) (rest := []) (lenOf pd_8 rfl) rfl (by show 2 * 0 + _ ≤ _; exact Nat.le_of_eq rfl) (hb hby at_125) (fun _ _ => ⟨rfl, e339, (by decide : 3 + 0 ≤ _), (by decide : 14 + 0 ≤ _)⟩)
    dsimp only [Pt.U, Pt.locs, Pt.cells, Pt.slots] at X340 l340 y340 z340 st340 hQ340
    subst l340 y340 z340
    obtain ⟨rfl, N340q, e340⟩ := hQ340
    have N340 := Fr.app N339 N340q
    obtain ⟨fs, hr, hrun, hended, hW, hsame⟩ := X340.leave (v := some (.int (1 : Int32))) (fun h => by rw [Bd.returns] at h; cases h)
    refine ⟨_, _, pre280 _ ?_, hrun, hended, _, _, rfl, ?_, ⟨_, rfl⟩, hW, hsame.mono (by decide) (by decide)⟩
    · skip
      show Steps p.tables e below (T270.setTop (mkF m 37 #[.val (.int p0), .val (.int p1), .val (.int p2), .val (.int p3), .val (.int p4), .val (.int p5), .val (.int (j0_0 p5)), .val (.ref b248), .unset, .unset, .unset, .unset, .unset] [(.int (j0_0 p5))])) _
      refine XS.ifNo X270.here hx rfl (hb hby at_37) rfl ((if0 _ _).trans (feq hc279).1) ?_
      show Steps p.tables e below (T270.setTop (mkF m 40 #[.val (.int p0), .val (.int p1), .val (.int p2), .val (.int p3), .val (.int p4), .val (.int p5), .val (.int (j0_0 p5)), .val (.ref b248), .unset, .unset, .unset, .unset, .unset] [])) _
      refine XS.aload X270.here hx rfl (hb hby at_40) rfl rfl ?_
      show Steps p.tables e below (T270.setTop (mkF m 42 #[.val (.int p0), .val (.int p1), .val (.int p2), .val (.int p3), .val (.int p4), .val (.int p5), .val (.int (j0_0 p5)), .val (.ref b248), .unset, .unset, .unset, .unset, .unset] [(.ref b248)])) _
      refine XS.iloadN X270.here hx rfl (hb hby at_42) rfl ?_
      show Steps p.tables e below (T270.setTop (mkF m 43 #[.val (.int p0), .val (.int p1), .val (.int p2), .val (.int p3), .val (.int p4), .val (.int p5), .val (.int (j0_0 p5)), .val (.ref b248), .unset, .unset, .unset, .unset, .unset] [(.int p2), (.ref b248)])) _
      refine XS.iloadN X270.here hx rfl (hb hby at_43) rfl ?_
      show Steps p.tables e below (T270.setTop (mkF m 44 #[.val (.int p0), .val (.int p1), .val (.int p2), .val (.int p3), .val (.int p4), .val (.int p5), .val (.int (j0_0 p5)), .val (.ref b248), .unset, .unset, .unset, .unset, .unset] [(.int p3), (.int p2), (.ref b248)])) _
      refine st299.trans ?_
      show Steps p.tables e below (T299.setTop (mkF m 47 #[.val (.int p0), .val (.int p1), .val (.int p2), .val (.int p3), .val (.int p4), .val (.int p5), .val (.int (j0_0 p5)), .val (.ref b248), .unset, .unset, .unset, .unset, .unset] [])) _
      refine XS.aload X299.here hx rfl (hb hby at_47) rfl rfl ?_
      show Steps p.tables e below (T299.setTop (mkF m 49 #[.val (.int p0), .val (.int p1), .val (.int p2), .val (.int p3), .val (.int p4), .val (.int p5), .val (.int (j0_0 p5)), .val (.ref b248), .unset, .unset, .unset, .unset, .unset] [(.ref b248)])) _
      refine XS.iload X299.here hx rfl (hb hby at_49) rfl ?_
      show Steps p.tables e below (T299.setTop (mkF m 51 #[.val (.int p0), .val (.int p1), .val (.int p2), .val (.int p3), .val (.int p4), .val (.int p5), .val (.int (j0_0 p5)), .val (.ref b248), .unset, .unset, .unset, .unset, .unset] [(.int p4), (.ref b248)])) _
      refine st308.trans ?_
      show Steps p.tables e below (T308.setTop (mkF m 54 #[.val (.int p0), .val (.int p1), .val (.int p2), .val (.int p3), .val (.int p4), .val (.int p5), .val (.int (j0_0 p5)), .val (.ref b248), .unset, .unset, .unset, .unset, .unset] [])) _
      refine XS.aload X308.here hx rfl (hb hby at_54) rfl rfl ?_
      show Steps p.tables e below (T308.setTop (mkF m 56 #[.val (.int p0), .val (.int p1), .val (.int p2), .val (.int p3), .val (.int p4), .val (.int p5), .val (.int (j0_0 p5)), .val (.ref b248), .unset, .unset, .unset, .unset, .unset] [(.ref b248)])) _
      refine st319.trans ?_
      show Steps p.tables e below (T319.setTop (mkF m 59 #[.val (.int p0), .val (.int p1), .val (.int p2), .val (.int p3), .val (.int p4), .val (.int p5), .val (.int (j0_0 p5)), .val (.ref b248), .unset, .unset, .unset, .unset, .unset] [(.int p4)])) _
      refine XS.istore X319.here hx rfl (hb hby at_59) rfl (l' := #[.val (.int p0), .val (.int p1), .val (.int p2), .val (.int p3), .val (.int p4), .val (.int p5), .val (.int (j0_0 p5)), .val (.ref b248), .val (.int p4), .unset, .unset, .unset, .unset]) rfl ?_
      show Steps p.tables e below (T319.setTop (mkF m 61 #[.val (.int p0), .val (.int p1), .val (.int p2), .val (.int p3), .val (.int p4), .val (.int p5), .val (.int (j0_0 p5)), .val (.ref b248), .val (.int p4), .unset, .unset, .unset, .unset] [])) _
      refine XS.aload X319.here hx rfl (hb hby at_61) rfl rfl ?_
      show Steps p.tables e below (T319.setTop (mkF m 63 #[.val (.int p0), .val (.int p1), .val (.int p2), .val (.int p3), .val (.int p4), .val (.int p5), .val (.int (j0_0 p5)), .val (.ref b248), .val (.int p4), .unset, .unset, .unset, .unset] [(.ref b248)])) _
      refine st328.trans ?_
      show Steps p.tables e below (T328.setTop (mkF m 66 #[.val (.int p0), .val (.int p1), .val (.int p2), .val (.int p3), .val (.int p4), .val (.int p5), .val (.int (j0_0 p5)), .val (.ref b248), .val (.int p4), .unset, .unset, .unset, .unset] [(.int (4 : Int32))])) _
      refine XS.istore X328.here hx rfl (hb hby at_66) rfl (l' := #[.val (.int p0), .val (.int p1), .val (.int p2), .val (.int p3), .val (.int p4), .val (.int p5), .val (.int (j0_0 p5)), .val (.ref b248), .val (.int p4), .val (.int (4 : Int32)), .unset, .unset, .unset]) rfl ?_
      show Steps p.tables e below (T328.setTop (mkF m 68 #[.val (.int p0), .val (.int p1), .val (.int p2), .val (.int p3), .val (.int p4), .val (.int p5), .val (.int (j0_0 p5)), .val (.ref b248), .val (.int p4), .val (.int (4 : Int32)), .unset, .unset, .unset] [])) _
      refine XS.aload X328.here hx rfl (hb hby at_68) rfl rfl ?_
      show Steps p.tables e below (T328.setTop (mkF m 70 #[.val (.int p0), .val (.int p1), .val (.int p2), .val (.int p3), .val (.int p4), .val (.int p5), .val (.int (j0_0 p5)), .val (.ref b248), .val (.int p4), .val (.int (4 : Int32)), .unset, .unset, .unset] [(.ref b248)])) _
      refine st329.trans ?_
      show Steps p.tables e below (T329.setTop (mkF m 73 #[.val (.int p0), .val (.int p1), .val (.int p2), .val (.int p3), .val (.int p4), .val (.int p5), .val (.int (j0_0 p5)), .val (.ref b248), .val (.int p4), .val (.int (4 : Int32)), .unset, .unset, .unset] [(.int p3)])) _
      refine XS.istore X329.here hx rfl (hb hby at_73) rfl (l' := #[.val (.int p0), .val (.int p1), .val (.int p2), .val (.int p3), .val (.int p4), .val (.int p5), .val (.int (j0_0 p5)), .val (.ref b248), .val (.int p4), .val (.int (4 : Int32)), .val (.int p3), .unset, .unset]) rfl ?_
      show Steps p.tables e below (T329.setTop (mkF m 75 #[.val (.int p0), .val (.int p1), .val (.int p2), .val (.int p3), .val (.int p4), .val (.int p5), .val (.int (j0_0 p5)), .val (.ref b248), .val (.int p4), .val (.int (4 : Int32)), .val (.int p3), .unset, .unset] [])) _
      refine XS.aload X329.here hx rfl (hb hby at_75) rfl rfl ?_
      show Steps p.tables e below (T329.setTop (mkF m 77 #[.val (.int p0), .val (.int p1), .val (.int p2), .val (.int p3), .val (.int p4), .val (.int p5), .val (.int (j0_0 p5)), .val (.ref b248), .val (.int p4), .val (.int (4 : Int32)), .val (.int p3), .unset, .unset] [(.ref b248)])) _
      refine st338.trans ?_
      show Steps p.tables e below (T338.setTop (mkF m 80 #[.val (.int p0), .val (.int p1), .val (.int p2), .val (.int p3), .val (.int p4), .val (.int p5), .val (.int (j0_0 p5)), .val (.ref b248), .val (.int p4), .val (.int (4 : Int32)), .val (.int p3), .unset, .unset] [(.int (3 : Int32))])) _
      refine XS.istore X338.here hx rfl (hb hby at_80) rfl (l' := #[.val (.int p0), .val (.int p1), .val (.int p2), .val (.int p3), .val (.int p4), .val (.int p5), .val (.int (j0_0 p5)), .val (.ref b248), .val (.int p4), .val (.int (4 : Int32)), .val (.int p3), .val (.int (3 : Int32)), .unset]) rfl ?_
      show Steps p.tables e below (T338.setTop (mkF m 82 #[.val (.int p0), .val (.int p1), .val (.int p2), .val (.int p3), .val (.int p4), .val (.int p5), .val (.int (j0_0 p5)), .val (.ref b248), .val (.int p4), .val (.int (4 : Int32)), .val (.int p3), .val (.int (3 : Int32)), .unset] [])) _
      refine XS.iload X338.here hx rfl (hb hby at_82) rfl ?_
      show Steps p.tables e below (T338.setTop (mkF m 84 #[.val (.int p0), .val (.int p1), .val (.int p2), .val (.int p3), .val (.int p4), .val (.int p5), .val (.int (j0_0 p5)), .val (.ref b248), .val (.int p4), .val (.int (4 : Int32)), .val (.int p3), .val (.int (3 : Int32)), .unset] [(.int (j0_0 p5))])) _
      refine XS.ifNo X338.here hx rfl (hb hby at_84) rfl ((if0 _ _).trans (feq hc279).1) ?_
      show Steps p.tables e below (T338.setTop (mkF m 87 #[.val (.int p0), .val (.int p1), .val (.int p2), .val (.int p3), .val (.int p4), .val (.int p5), .val (.int (j0_0 p5)), .val (.ref b248), .val (.int p4), .val (.int (4 : Int32)), .val (.int p3), .val (.int (3 : Int32)), .unset] [])) _
      refine XS.iload X338.here hx rfl (hb hby at_87) rfl ?_
      show Steps p.tables e below (T338.setTop (mkF m 89 #[.val (.int p0), .val (.int p1), .val (.int p2), .val (.int p3), .val (.int p4), .val (.int p5), .val (.int (j0_0 p5)), .val (.ref b248), .val (.int p4), .val (.int (4 : Int32)), .val (.int p3), .val (.int (3 : Int32)), .unset] [(.int p4)])) _
      refine XS.iload X338.here hx rfl (hb hby at_89) rfl ?_
      show Steps p.tables e below (T338.setTop (mkF m 91 #[.val (.int p0), .val (.int p1), .val (.int p2), .val (.int p3), .val (.int p4), .val (.int p5), .val (.int (j0_0 p5)), .val (.ref b248), .val (.int p4), .val (.int (4 : Int32)), .val (.int p3), .val (.int (3 : Int32)), .unset] [(.int p4), (.int p4)])) _
      refine XS.icmpNo X338.here hx rfl (hb hby at_91) rfl (teq (rfl : p4 = p4)).2 ?_
      show Steps p.tables e below (T338.setTop (mkF m 94 #[.val (.int p0), .val (.int p1), .val (.int p2), .val (.int p3), .val (.int p4), .val (.int p5), .val (.int (j0_0 p5)), .val (.ref b248), .val (.int p4), .val (.int (4 : Int32)), .val (.int p3), .val (.int (3 : Int32)), .unset] [])) _
      refine XS.iload X338.here hx rfl (hb hby at_94) rfl ?_
      show Steps p.tables e below (T338.setTop (mkF m 96 #[.val (.int p0), .val (.int p1), .val (.int p2), .val (.int p3), .val (.int p4), .val (.int p5), .val (.int (j0_0 p5)), .val (.ref b248), .val (.int p4), .val (.int (4 : Int32)), .val (.int p3), .val (.int (3 : Int32)), .unset] [(.int (4 : Int32))])) _
      refine XS.iconst X338.here hx rfl (hb hby at_96) ?_
      show Steps p.tables e below (T338.setTop (mkF m 97 #[.val (.int p0), .val (.int p1), .val (.int p2), .val (.int p3), .val (.int p4), .val (.int p5), .val (.int (j0_0 p5)), .val (.ref b248), .val (.int p4), .val (.int (4 : Int32)), .val (.int p3), .val (.int (3 : Int32)), .unset] [(.int (4 : Int32)), (.int (4 : Int32))])) _
      refine XS.icmpNo X338.here hx rfl (hb hby at_97) rfl (teq (rfl : (4 : Int32) = (4 : Int32))).2 ?_
      show Steps p.tables e below (T338.setTop (mkF m 100 #[.val (.int p0), .val (.int p1), .val (.int p2), .val (.int p3), .val (.int p4), .val (.int p5), .val (.int (j0_0 p5)), .val (.ref b248), .val (.int p4), .val (.int (4 : Int32)), .val (.int p3), .val (.int (3 : Int32)), .unset] [])) _
      refine XS.iload X338.here hx rfl (hb hby at_100) rfl ?_
      show Steps p.tables e below (T338.setTop (mkF m 102 #[.val (.int p0), .val (.int p1), .val (.int p2), .val (.int p3), .val (.int p4), .val (.int p5), .val (.int (j0_0 p5)), .val (.ref b248), .val (.int p4), .val (.int (4 : Int32)), .val (.int p3), .val (.int (3 : Int32)), .unset] [(.int p3)])) _
      refine XS.iloadN X338.here hx rfl (hb hby at_102) rfl ?_
      show Steps p.tables e below (T338.setTop (mkF m 103 #[.val (.int p0), .val (.int p1), .val (.int p2), .val (.int p3), .val (.int p4), .val (.int p5), .val (.int (j0_0 p5)), .val (.ref b248), .val (.int p4), .val (.int (4 : Int32)), .val (.int p3), .val (.int (3 : Int32)), .unset] [(.int p3), (.int p3)])) _
      refine XS.icmpNo X338.here hx rfl (hb hby at_103) rfl (teq (rfl : p3 = p3)).2 ?_
      show Steps p.tables e below (T338.setTop (mkF m 106 #[.val (.int p0), .val (.int p1), .val (.int p2), .val (.int p3), .val (.int p4), .val (.int p5), .val (.int (j0_0 p5)), .val (.ref b248), .val (.int p4), .val (.int (4 : Int32)), .val (.int p3), .val (.int (3 : Int32)), .unset] [])) _
      refine XS.iload X338.here hx rfl (hb hby at_106) rfl ?_
      show Steps p.tables e below (T338.setTop (mkF m 108 #[.val (.int p0), .val (.int p1), .val (.int p2), .val (.int p3), .val (.int p4), .val (.int p5), .val (.int (j0_0 p5)), .val (.ref b248), .val (.int p4), .val (.int (4 : Int32)), .val (.int p3), .val (.int (3 : Int32)), .unset] [(.int (3 : Int32))])) _
      refine XS.iconst X338.here hx rfl (hb hby at_108) ?_
      show Steps p.tables e below (T338.setTop (mkF m 109 #[.val (.int p0), .val (.int p1), .val (.int p2), .val (.int p3), .val (.int p4), .val (.int p5), .val (.int (j0_0 p5)), .val (.ref b248), .val (.int p4), .val (.int (4 : Int32)), .val (.int p3), .val (.int (3 : Int32)), .unset] [(.int (3 : Int32)), (.int (3 : Int32))])) _
      refine XS.icmpNo X338.here hx rfl (hb hby at_109) rfl (teq (rfl : (3 : Int32) = (3 : Int32))).2 ?_
      show Steps p.tables e below (T338.setTop (mkF m 112 #[.val (.int p0), .val (.int p1), .val (.int p2), .val (.int p3), .val (.int p4), .val (.int p5), .val (.int (j0_0 p5)), .val (.ref b248), .val (.int p4), .val (.int (4 : Int32)), .val (.int p3), .val (.int (3 : Int32)), .unset] [])) _
      refine XS.aload X338.here hx rfl (hb hby at_112) rfl rfl ?_
      show Steps p.tables e below (T338.setTop (mkF m 114 #[.val (.int p0), .val (.int p1), .val (.int p2), .val (.int p3), .val (.int p4), .val (.int p5), .val (.int (j0_0 p5)), .val (.ref b248), .val (.int p4), .val (.int (4 : Int32)), .val (.int p3), .val (.int (3 : Int32)), .unset] [(.ref b248)])) _
      refine XS.iconst X338.here hx rfl (hb hby at_114) ?_
      show Steps p.tables e below (T338.setTop (mkF m 115 #[.val (.int p0), .val (.int p1), .val (.int p2), .val (.int p3), .val (.int p4), .val (.int p5), .val (.int (j0_0 p5)), .val (.ref b248), .val (.int p4), .val (.int (4 : Int32)), .val (.int p3), .val (.int (3 : Int32)), .unset] [(.int (0 : Int32)), (.ref b248)])) _
      refine st339.trans ?_
      show Steps p.tables e below (T339.setTop (mkF m 118 #[.val (.int p0), .val (.int p1), .val (.int p2), .val (.int p3), .val (.int p4), .val (.int p5), .val (.int (j0_0 p5)), .val (.ref b248), .val (.int p4), .val (.int (4 : Int32)), .val (.int p3), .val (.int (3 : Int32)), .unset] [(.int p0)])) _
      refine XS.iloadN X339.here hx rfl (hb hby at_118) rfl ?_
      show Steps p.tables e below (T339.setTop (mkF m 119 #[.val (.int p0), .val (.int p1), .val (.int p2), .val (.int p3), .val (.int p4), .val (.int p5), .val (.int (j0_0 p5)), .val (.ref b248), .val (.int p4), .val (.int (4 : Int32)), .val (.int p3), .val (.int (3 : Int32)), .unset] [(.int p0), (.int p0)])) _
      refine XS.icmpNo X339.here hx rfl (hb hby at_119) rfl (teq (rfl : p0 = p0)).2 ?_
      show Steps p.tables e below (T339.setTop (mkF m 122 #[.val (.int p0), .val (.int p1), .val (.int p2), .val (.int p3), .val (.int p4), .val (.int p5), .val (.int (j0_0 p5)), .val (.ref b248), .val (.int p4), .val (.int (4 : Int32)), .val (.int p3), .val (.int (3 : Int32)), .unset] [])) _
      refine XS.aload X339.here hx rfl (hb hby at_122) rfl rfl ?_
      show Steps p.tables e below (T339.setTop (mkF m 124 #[.val (.int p0), .val (.int p1), .val (.int p2), .val (.int p3), .val (.int p4), .val (.int p5), .val (.int (j0_0 p5)), .val (.ref b248), .val (.int p4), .val (.int (4 : Int32)), .val (.int p3), .val (.int (3 : Int32)), .unset] [(.ref b248)])) _
      refine XS.iconst X339.here hx rfl (hb hby at_124) ?_
      show Steps p.tables e below (T339.setTop (mkF m 125 #[.val (.int p0), .val (.int p1), .val (.int p2), .val (.int p3), .val (.int p4), .val (.int p5), .val (.int (j0_0 p5)), .val (.ref b248), .val (.int p4), .val (.int (4 : Int32)), .val (.int p3), .val (.int (3 : Int32)), .unset] [(.int (2 : Int32)), (.ref b248)])) _
      refine st340.trans ?_
      show Steps p.tables e below (T340.setTop (mkF m 128 #[.val (.int p0), .val (.int p1), .val (.int p2), .val (.int p3), .val (.int p4), .val (.int p5), .val (.int (j0_0 p5)), .val (.ref b248), .val (.int p4), .val (.int (4 : Int32)), .val (.int p3), .val (.int (3 : Int32)), .unset] [(.int p2)])) _
      refine XS.iloadN X340.here hx rfl (hb hby at_128) rfl ?_
      show Steps p.tables e below (T340.setTop (mkF m 129 #[.val (.int p0), .val (.int p1), .val (.int p2), .val (.int p3), .val (.int p4), .val (.int p5), .val (.int (j0_0 p5)), .val (.ref b248), .val (.int p4), .val (.int (4 : Int32)), .val (.int p3), .val (.int (3 : Int32)), .unset] [(.int p2), (.int p2)])) _
      refine XS.icmpNo X340.here hx rfl (hb hby at_129) rfl (teq (rfl : p2 = p2)).2 ?_
      show Steps p.tables e below (T340.setTop (mkF m 132 #[.val (.int p0), .val (.int p1), .val (.int p2), .val (.int p3), .val (.int p4), .val (.int p5), .val (.int (j0_0 p5)), .val (.ref b248), .val (.int p4), .val (.int (4 : Int32)), .val (.int p3), .val (.int (3 : Int32)), .unset] [])) _
      refine XS.iconst X340.here hx rfl (hb hby at_132) ?_
      show Steps p.tables e below (T340.setTop (mkF m 133 #[.val (.int p0), .val (.int p1), .val (.int p2), .val (.int p3), .val (.int p4), .val (.int p5), .val (.int (j0_0 p5)), .val (.ref b248), .val (.int p4), .val (.int (4 : Int32)), .val (.int p3), .val (.int (3 : Int32)), .unset] [(.int (1 : Int32))])) _
      refine XS.goto X340.here hx rfl (pc0 := 133) (pc' := 137) rfl (hb hby at_133) (by decide) (by decide) ?_
      show Steps p.tables e below (T340.setTop (mkF m 137 #[.val (.int p0), .val (.int p1), .val (.int p2), .val (.int p3), .val (.int p4), .val (.int p5), .val (.int (j0_0 p5)), .val (.ref b248), .val (.int p4), .val (.int (4 : Int32)), .val (.int p3), .val (.int (3 : Int32)), .unset] [(.int (1 : Int32))])) _
      refine XS.istore X340.here hx rfl (hb hby at_137) rfl (l' := #[.val (.int p0), .val (.int p1), .val (.int p2), .val (.int p3), .val (.int p4), .val (.int p5), .val (.int (j0_0 p5)), .val (.ref b248), .val (.int p4), .val (.int (4 : Int32)), .val (.int p3), .val (.int (3 : Int32)), .val (.int (1 : Int32))]) rfl ?_
      show Steps p.tables e below (T340.setTop (mkF m 139 #[.val (.int p0), .val (.int p1), .val (.int p2), .val (.int p3), .val (.int p4), .val (.int p5), .val (.int (j0_0 p5)), .val (.ref b248), .val (.int p4), .val (.int (4 : Int32)), .val (.int p3), .val (.int (3 : Int32)), .val (.int (1 : Int32))] [])) _
      refine XS.goto X340.here hx rfl (pc0 := 139) (pc' := 172) rfl (hb hby at_139) (by decide) (by decide) ?_
      show Steps p.tables e below (T340.setTop (mkF m 172 #[.val (.int p0), .val (.int p1), .val (.int p2), .val (.int p3), .val (.int p4), .val (.int p5), .val (.int (j0_0 p5)), .val (.ref b248), .val (.int p4), .val (.int (4 : Int32)), .val (.int p3), .val (.int (3 : Int32)), .val (.int (1 : Int32))] [])) _
      refine XS.iload X340.here hx rfl (hb hby at_172) rfl ?_
      show Steps p.tables e below (T340.setTop (mkF m 174 #[.val (.int p0), .val (.int p1), .val (.int p2), .val (.int p3), .val (.int p4), .val (.int p5), .val (.int (j0_0 p5)), .val (.ref b248), .val (.int p4), .val (.int (4 : Int32)), .val (.int p3), .val (.int (3 : Int32)), .val (.int (1 : Int32))] [(.int (1 : Int32))])) _
      exact retN X340 hx (t := .boolean) Bd.returns (by simp) (hb hby at_174) hr
    · show Q0 Z p0 p1 p2 p3 p4 p5 h0 n0 _ T340.heap _
      rw [e340]
      have hv : (1 : Int32) = (v0 p5) := by unfold v0; first | (rw [if_neg hc279]) | (simp only [if_neg hc279])
      exact ⟨(by rw [← hv]), N340⟩
theorem law_one (p5 : Int32) : (v0 p5) = 1 := by
  unfold v0; split <;> rfl
set_option maxRecDepth 65536 in
set_option maxHeartbeats 40000000 in
theorem comes_1 {Post : Tables → Env → Array Value → State → Outcome → State → Prop} (hpost : ∀ tb e args s v u, (limb_1_1.after args s (.returned v) u = true ∧ limb_1_2.after args s (.returned v) u = true ∧ True) → FrameEnd s (.returned v) u (Jvm.fieldLocs frame_1_writes args s ++ Jvm.arrayLocs frame_1_arrays args s ++ Jvm.staticLocs frame_1_statics s) 16 128 → Post tb e args s (.returned v) u) :
    ArmFor flags0 classFile x code maxLocals ret World_1 tables_1 room_1 Calls_1 rest_1 Pre_1 Post := by
  intro l hfl _ _ p e ha hc hk s m args below hf hA hF happ hP
  obtain ⟨hcalls, hrest, hpre⟩ := hP
  obtain ⟨-, -, -, hnamed, -, -, -, hat⟩ := (Spec.applies_iff hf).mp happ
  obtain ⟨hg, hn⟩ := and_e (Cond.before_iff.mp (show (Jvm.Cond.and given_1 narrow_1).before args s = true from hpre))
  obtain ⟨hcount, r0⟩ := and_e hg
  obtain ⟨k0, r1⟩ := and_e r0
  obtain ⟨k1, r2⟩ := and_e r1
  obtain ⟨k2, r3⟩ := and_e r2
  obtain ⟨k3, r4⟩ := and_e r3
  obtain ⟨k4, r5⟩ := and_e r4
  have k5 := r5
  obtain ⟨w0, w1, w2, w3, w4, w5, rfl⟩ : ∃ w0 w1 w2 w3 w4 w5 : Value, args = #[w0, w1, w2, w3, w4, w5] := by
    have hs : args.size = 6 := by simpa [Cond.value, given_1] using hcount
    obtain ⟨L⟩ := args
    match L, hs with
    | [w0, w1, w2, w3, w4, w5], _ => exact ⟨w0, w1, w2, w3, w4, w5, rfl⟩
  have hw := fun d (hd : d ∈ tables_1) => atoms_spec (ws := Jvm.Cond.code x code maxLocals ret :: tables_1) hat d (List.mem_cons_of_mem _ hd)
  obtain ⟨i0, ei0⟩ := is_v k0
  obtain rfl : w0 = (.int i0) := Option.some.inj ei0
  obtain ⟨i1, ei1⟩ := is_v k1
  obtain rfl : w1 = (.int i1) := Option.some.inj ei1
  obtain ⟨i2, ei2⟩ := is_v k2
  obtain rfl : w2 = (.int i2) := Option.some.inj ei2
  obtain ⟨i3, ei3⟩ := is_v k3
  obtain rfl : w3 = (.int i3) := Option.some.inj ei3
  obtain ⟨i4, ei4⟩ := is_v k4
  obtain rfl : w4 = (.int i4) := Option.some.inj ei4
  obtain ⟨i5, ei5⟩ := is_v k5
  obtain rfl : w5 = (.int i5) := Option.some.inj ei5
  obtain ⟨n, o, h1, h2, h3, v, L, rfl, ⟨hv, N⟩, hq⟩ := rm0 l s _ hw tables_1 i0 i1 i2 i3 i4 i5 s.heap s.heap.size (Nat.le_refl _) p e ha hc hk s m _ below hf ((Spec.applies_iff_loose hf).mp happ).1 ⟨rfl, State.Warmed39.refl s, rfl⟩ trivial
  rw [law_one i5] at hv
  subst hv
  refine ⟨n, _, h1, h2, h3, hpost _ _ _ _ _ _ ⟨Cond.after_iff.mpr rfl, Cond.after_iff.mpr (eq_i res_at (Term.int_eval (1)) rfl), trivial⟩ ⟨hq.1, hq.2.1, (hq.2.2.sift fun y hy => Or.inr (N y hy)).mono (by decide) (by decide)⟩⟩
theorem main_1_1 : Claimed_1_1 := comes_1 fun _ _ _ _ _ _ h hF => ⟨h.1, hF⟩
theorem main_1_2 : Claimed_1_2 := comes_1 fun _ _ _ _ _ _ h hF => ⟨h.2.1, hF⟩
end Jvm.Pilot.@@N@@
namespace Jvm.Pilot.@@N@@
open Jvm Jvm.ClassFile Sem Op Lib Jvm.Free Jvm.Stand Jvm.Pilot.@@N@@.Jvm.D
/-! MADE BY PROGRAM (witnessworld.py) out of the Statement's table words and the real class files: 12 classes; the members and pool entries that the words name. The judged class is class 1, her method 1. -/
namespace start1
open Jvm.ClassFile
def u (s : String) : CpInfo := .utf8 (stringToUtf16 s)
/-- a pool by its gaps: so many unusable entries, then the entry; so many at the end -/
def gap : Nat → List CpInfo → List CpInfo
  | 0, r => r
  | n + 1, r => .unusable :: gap n r
def poolList (es : List (Nat × CpInfo)) (last : Nat) : List CpInfo := es.foldr (fun e r => gap e.1 (e.2 :: r)) (gap last [])
def pool (es : List (Nat × CpInfo)) (last : Nat) : Array CpInfo := ⟨poolList es last⟩
def fileOf (pool : Array CpInfo) (this : Nat) (attrs : Array Attribute := #[]) (ms : Array MethodInfo := #[]) (fl : Nat := 33) (sup : Nat := 0) (ifs : Array Nat := #[]) (fds : Array FieldInfo := #[]) : ClassFile where
  minorVersion := 0
  majorVersion := 65
  constantPool := pool
  accessFlags := fl
  thisClass := this
  superClass := sup
  interfaces := ifs
  fields := fds
  methods := ms
  attributes := attrs
def plain (name : String) (sup : Option ClassId) : Class where
  name := name
  kind := .ordinary
  loader := none
  accessFlags := 33
  super := sup
  interfaces := #[]
  cf := none
  fields := #[]
  methods := #[]
  instanceTypes := #[]
  staticTypes := #[]
  resolved := #[]
  callSites := []
  init := .initialized
  statics := none
  mirror := none

def pool0 : Array CpInfo := pool [(5, u "<init>"), (0, u "()V"), (1, .class_ 10), (1, u "java/lang/Object")] 113

def k0c0 : Code := { maxStack := 0, maxLocals := 1, code := object_method_1_code, exceptionTable := #[], attributes := #[] }
def k0m0 : Method := { name := "<init>", desc := "()V", sig := { parameters := [], returnType := none }, accessFlags := 1, code := some k0c0 }
/-- java/lang/Object -/
def k0 : Class := { plain "java/lang/Object" none with
  accessFlags := 33
  interfaces := #[]
  cf := some (fileOf pool0 8 #[] #[{ accessFlags := 1, nameIndex := 5, descriptorIndex := 6, attributes := #[] }] 33 0 #[] #[])
  fields := #[]
  methods := #[k0m0]
  instanceTypes := #[]
  staticTypes := #[]
  resolved := Array.replicate 124 none
  statics := none }

def pool1 : Array CpInfo := pool [(2, .class_ 4), (0, .nameAndType 5 6), (0, u "java/lang/Object"), (0, u "<init>"), (0, u "()V"), (0, .class_ 8), (0, u "com/example/subsumer/subsumer/classification/IntList"), (0, .methodref 7 3), (0, .methodref 7 11), (0, .nameAndType 12 13), (0, u "add"), (0, u "(I)V"), (0, .methodref 7 15), (0, .nameAndType 12 16), (0, u "(II)V"), (0, .methodref 7 18), (0, .nameAndType 19 20), (0, u "pop"), (0, u "()I"), (0, .methodref 7 22), (0, .nameAndType 23 20), (0, u "size"), (0, .methodref 7 25), (0, .nameAndType 26 27), (0, u "get"), (0, u "(I)I"), (0, .class_ 29), (0, u "com/example/subsumer/subsumer/classification/IntListPopPinLaw"), (2, u "law"), (0, u "(IIIIII)Z")] 3

def k1m0 : Method := { name := "<init>", desc := "()V", sig := { parameters := [], returnType := none }, accessFlags := 1, code := none }
def k1c1 : Code := { maxStack := 3, maxLocals := 13, code := code, exceptionTable := #[], attributes := #[] }
def k1m1 : Method := { name := "law", desc := "(IIIIII)Z", sig := { parameters := [.int, .int, .int, .int, .int, .int], returnType := some .boolean }, accessFlags := 9, code := some k1c1 }
/-- com/example/subsumer/subsumer/classification/IntListPopPinLaw -/
def k1 : Class := { plain "com/example/subsumer/subsumer/classification/IntListPopPinLaw" (some 0) with
  accessFlags := 49
  interfaces := #[]
  cf := some (fileOf pool1 28 #[] #[{ accessFlags := 1, nameIndex := 5, descriptorIndex := 6, attributes := #[] }, { accessFlags := 9, nameIndex := 32, descriptorIndex := 33, attributes := #[] }] 49 2 #[] #[])
  fields := #[]
  methods := #[k1m0, k1m1]
  instanceTypes := #[]
  staticTypes := #[]
  resolved := Array.replicate 37 none
  statics := none }

def pool2 : Array CpInfo := pool [(1, .methodref 2 3), (0, .class_ 4), (0, .nameAndType 5 6), (0, u "java/lang/Object"), (0, u "<init>"), (0, u "()V"), (0, .fieldref 8 9), (0, .class_ 10), (0, .nameAndType 11 12), (0, u "com/example/subsumer/subsumer/classification/IntList"), (0, u "items"), (0, u "[I"), (0, .fieldref 8 14), (0, .nameAndType 15 16), (0, u "size"), (0, u "I"), (0, .methodref 18 19), (0, .class_ 20), (0, .nameAndType 21 22), (0, u "java/util/Arrays"), (0, u "copyOf"), (0, u "([II)[I"), (0, .methodref 8 24), (0, .nameAndType 25 26), (0, u "add"), (0, u "(I)V"), (3, u "NONE"), (0, u "Lcom/example/subsumer/subsumer/classification/IntList;"), (3, u "(II)V"), (0, u "get"), (0, u "(I)I"), (0, u "()I"), (2, u "pop")] 7

def k2c0 : Code := { maxStack := 2, maxLocals := 1, code := prog_2_method_1_code, exceptionTable := #[], attributes := #[] }
def k2m0 : Method := { name := "<init>", desc := "()V", sig := { parameters := [], returnType := none }, accessFlags := 0, code := some k2c0 }
def k2c1 : Code := { maxStack := 5, maxLocals := 2, code := prog_2_method_2_code, exceptionTable := #[], attributes := #[] }
def k2m1 : Method := { name := "add", desc := "(I)V", sig := { parameters := [.int], returnType := none }, accessFlags := 0, code := some k2c1 }
def k2c2 : Code := { maxStack := 2, maxLocals := 3, code := prog_2_method_3_code, exceptionTable := #[], attributes := #[] }
def k2m2 : Method := { name := "add", desc := "(II)V", sig := { parameters := [.int, .int], returnType := none }, accessFlags := 0, code := some k2c2 }
def k2c3 : Code := { maxStack := 2, maxLocals := 2, code := prog_2_method_4_code, exceptionTable := #[], attributes := #[] }
def k2m3 : Method := { name := "get", desc := "(I)I", sig := { parameters := [.int], returnType := some .int }, accessFlags := 0, code := some k2c3 }
def k2c4 : Code := { maxStack := 1, maxLocals := 1, code := prog_2_method_5_code, exceptionTable := #[], attributes := #[] }
def k2m4 : Method := { name := "size", desc := "()I", sig := { parameters := [], returnType := some .int }, accessFlags := 0, code := some k2c4 }
def k2c5 : Code := { maxStack := 4, maxLocals := 1, code := prog_2_method_7_code, exceptionTable := #[], attributes := #[] }
def k2m5 : Method := { name := "pop", desc := "()I", sig := { parameters := [], returnType := some .int }, accessFlags := 0, code := some k2c5 }
/-- com/example/subsumer/subsumer/classification/IntList -/
def k2 : Class := { plain "com/example/subsumer/subsumer/classification/IntList" (some 0) with
  accessFlags := 48
  interfaces := #[]
  cf := some (fileOf pool2 8 #[] #[{ accessFlags := 0, nameIndex := 5, descriptorIndex := 6, attributes := #[] }, { accessFlags := 0, nameIndex := 25, descriptorIndex := 26, attributes := #[] }, { accessFlags := 0, nameIndex := 25, descriptorIndex := 35, attributes := #[] }, { accessFlags := 0, nameIndex := 36, descriptorIndex := 37, attributes := #[] }, { accessFlags := 0, nameIndex := 15, descriptorIndex := 38, attributes := #[] }, { accessFlags := 0, nameIndex := 41, descriptorIndex := 38, attributes := #[] }] 48 2 #[] #[{ accessFlags := 26, nameIndex := 30, descriptorIndex := 31, attributes := #[] }, { accessFlags := 2, nameIndex := 11, descriptorIndex := 12, attributes := #[] }, { accessFlags := 2, nameIndex := 15, descriptorIndex := 16, attributes := #[] }])
  fields := #[{ name := "NONE", type := (.object "com/example/subsumer/subsumer/classification/IntList"), accessFlags := 26, slot := 0, constantValue := 0 }, { name := "items", type := (.array .int), accessFlags := 2, slot := 0, constantValue := 0 }, { name := "size", type := .int, accessFlags := 2, slot := 1, constantValue := 0 }]
  methods := #[k2m0, k2m1, k2m2, k2m3, k2m4, k2m5]
  instanceTypes := #[(.array .int), .int]
  staticTypes := #[(.object "com/example/subsumer/subsumer/classification/IntList")]
  resolved := Array.replicate 49 none
  statics := none }

def pool3 : Array CpInfo := pool [(2, .class_ 4), (1, u "java/lang/Object"), (0, u "<init>"), (0, u "()V"), (7, .class_ 16), (1, u "java/util/Arrays"), (57, .class_ 76), (1, u "java/util/Arrays$NaturalOrder"), (36, .class_ 115), (1, u "java/util/Arrays$LegacyMergeSort"), (1, u "Z"), (32, .methodref 151 152), (0, .class_ 153), (0, .nameAndType 154 155), (0, u "java/lang/System"), (0, u "arraycopy"), (0, u "(Ljava/lang/Object;ILjava/lang/Object;II)V"), (146, u "copyOf"), (1, .methodref 305 306), (0, .class_ 307), (0, .nameAndType 308 309), (0, u "java/lang/Math"), (0, u "min"), (0, u "(II)I"), (65, .class_ 376), (0, u "java/util/Arrays$ArrayList"), (68, u "$assertionsDisabled"), (269, u "MIN_ARRAY_SORT_GRAN"), (0, u "I"), (2, u "INSERTIONSORT_THRESHOLD"), (151, u "([II)[I"), (103, .class_ 976), (0, u "java/util/Arrays$ArrayItr")] 52

def k3m0 : Method := { name := "<init>", desc := "()V", sig := { parameters := [], returnType := none }, accessFlags := 2, code := none }
def k3c1 : Code := { maxStack := 6, maxLocals := 3, code := jdk_65_method_123_code, exceptionTable := #[], attributes := #[] }
def k3m1 : Method := { name := "copyOf", desc := "([II)[I", sig := { parameters := [(.array .int), .int], returnType := some (.array .int) }, accessFlags := 9, code := some k3c1 }
/-- java/util/Arrays -/
def k3 : Class := { plain "java/util/Arrays" (some 0) with
  accessFlags := 49
  interfaces := #[]
  cf := some (fileOf pool3 14 #[.nestMembers #[975, 375, 113, 74]] #[{ accessFlags := 2, nameIndex := 5, descriptorIndex := 6, attributes := #[] }, { accessFlags := 9, nameIndex := 302, descriptorIndex := 871, attributes := #[] }] 49 2 #[] #[{ accessFlags := 26, nameIndex := 715, descriptorIndex := 716, attributes := #[] }, { accessFlags := 26, nameIndex := 719, descriptorIndex := 716, attributes := #[] }, { accessFlags := 4120, nameIndex := 445, descriptorIndex := 117, attributes := #[] }])
  fields := #[{ name := "MIN_ARRAY_SORT_GRAN", type := .int, accessFlags := 26, slot := 0, constantValue := 0 }, { name := "INSERTIONSORT_THRESHOLD", type := .int, accessFlags := 26, slot := 1, constantValue := 0 }, { name := "$assertionsDisabled", type := .boolean, accessFlags := 4120, slot := 2, constantValue := 0 }]
  methods := #[k3m0, k3m1]
  instanceTypes := #[]
  staticTypes := #[.int, .int, .boolean]
  resolved := Array.replicate 1029 none
  statics := none }

def pool4 : Array CpInfo := pool [(1, .class_ 2), (0, u "java/lang/Math"), (1, .class_ 6), (1, u "java/lang/Object"), (0, u "<init>"), (0, u "()V"), (89, .class_ 100), (1, u "java/lang/Math$RandomNumberGeneratorHolder"), (71, u "negativeZeroFloatBits"), (0, u "J"), (2, u "negativeZeroDoubleBits"), (24, u "min"), (43, u "$assertionsDisabled"), (0, u "Z"), (88, u "(II)I"), (2, u "twoToTheDoubleScaleDown"), (0, u "D"), (4, u "twoToTheDoubleScaleUp"), (9, u "E"), (3, u "PI"), (2, u "TAU"), (2, u "DEGREES_TO_RADIANS"), (0, u "RADIANS_TO_DEGREES")] 94

def k4m0 : Method := { name := "<init>", desc := "()V", sig := { parameters := [], returnType := none }, accessFlags := 2, code := none }
def k4c1 : Code := { maxStack := 2, maxLocals := 2, code := jdk_29_method_69_code, exceptionTable := #[], attributes := #[] }
def k4m1 : Method := { name := "min", desc := "(II)I", sig := { parameters := [.int, .int], returnType := some .int }, accessFlags := 9, code := some k4c1 }
/-- java/lang/Math -/
def k4 : Class := { plain "java/lang/Math" (some 0) with
  accessFlags := 49
  interfaces := #[]
  cf := some (fileOf pool4 1 #[.nestMembers #[98]] #[{ accessFlags := 2, nameIndex := 7, descriptorIndex := 8, attributes := #[] }, { accessFlags := 9, nameIndex := 201, descriptorIndex := 335, attributes := #[] }] 49 4 #[] #[{ accessFlags := 25, nameIndex := 354, descriptorIndex := 339, attributes := #[] }, { accessFlags := 25, nameIndex := 358, descriptorIndex := 339, attributes := #[] }, { accessFlags := 25, nameIndex := 361, descriptorIndex := 339, attributes := #[] }, { accessFlags := 26, nameIndex := 364, descriptorIndex := 339, attributes := #[] }, { accessFlags := 26, nameIndex := 365, descriptorIndex := 339, attributes := #[] }, { accessFlags := 26, nameIndex := 172, descriptorIndex := 173, attributes := #[] }, { accessFlags := 26, nameIndex := 176, descriptorIndex := 173, attributes := #[] }, { accessFlags := 8, nameIndex := 344, descriptorIndex := 339, attributes := #[] }, { accessFlags := 8, nameIndex := 338, descriptorIndex := 339, attributes := #[] }, { accessFlags := 4120, nameIndex := 245, descriptorIndex := 246, attributes := #[] }])
  fields := #[{ name := "E", type := .double, accessFlags := 25, slot := 0, constantValue := 0 }, { name := "PI", type := .double, accessFlags := 25, slot := 1, constantValue := 0 }, { name := "TAU", type := .double, accessFlags := 25, slot := 2, constantValue := 0 }, { name := "DEGREES_TO_RADIANS", type := .double, accessFlags := 26, slot := 3, constantValue := 0 }, { name := "RADIANS_TO_DEGREES", type := .double, accessFlags := 26, slot := 4, constantValue := 0 }, { name := "negativeZeroFloatBits", type := .long, accessFlags := 26, slot := 5, constantValue := 0 }, { name := "negativeZeroDoubleBits", type := .long, accessFlags := 26, slot := 6, constantValue := 0 }, { name := "twoToTheDoubleScaleUp", type := .double, accessFlags := 8, slot := 7, constantValue := 0 }, { name := "twoToTheDoubleScaleDown", type := .double, accessFlags := 8, slot := 8, constantValue := 0 }, { name := "$assertionsDisabled", type := .boolean, accessFlags := 4120, slot := 9, constantValue := 0 }]
  methods := #[k4m0, k4m1]
  instanceTypes := #[]
  staticTypes := #[.double, .double, .double, .double, .double, .long, .long, .double, .double, .boolean]
  resolved := Array.replicate 460 none
  statics := none }

def pool5 : Array CpInfo := pool [(2, .class_ 4), (1, u "java/lang/Object"), (0, u "<init>"), (0, u "()V"), (1, .class_ 10), (1, u "java/lang/System"), (0, u "allowSecurityManager"), (0, u "I"), (16, u "cons"), (0, u "Ljava/io/Console;"), (77, .class_ 110), (1, u "java/lang/System$CallersHolder"), (43, u "initialErrStream"), (0, u "Ljava/io/PrintStream;"), (19, u "security"), (0, u "Ljava/lang/SecurityManager;"), (31, .class_ 209), (0, u "java/lang/System$1"), (7, u "props"), (0, u "Ljava/util/Properties;"), (2, u "lineSeparator"), (0, u "Ljava/lang/String;"), (96, .class_ 321), (1, u "java/lang/System$LoggerFinder"), (5, .class_ 328), (0, u "java/lang/System$Logger"), (67, u "err"), (2, u "out"), (91, u "notSupportedJnuEncoding"), (15, u "in"), (17, u "initialIn"), (0, u "Ljava/io/InputStream;"), (35, u "bootLayer"), (0, u "Ljava/lang/ModuleLayer;"), (99, .class_ 664), (0, u "java/lang/System$2"), (9, u "NEVER"), (2, u "MAYBE"), (49, u "arraycopy"), (0, u "(Ljava/lang/Object;ILjava/lang/Object;II)V"), (72, .class_ 802), (0, u "java/lang/System$Logger$Level")] 31

def k5m0 : Method := { name := "<init>", desc := "()V", sig := { parameters := [], returnType := none }, accessFlags := 2, code := none }
def k5m1 : Method := { name := "arraycopy", desc := "(Ljava/lang/Object;ILjava/lang/Object;II)V", sig := { parameters := [(.object "java/lang/Object"), .int, (.object "java/lang/Object"), .int, .int], returnType := none }, accessFlags := 265, code := none }
/-- java/lang/System -/
def k5 : Class := { plain "java/lang/System" (some 0) with
  accessFlags := 49
  interfaces := #[]
  cf := some (fileOf pool5 8 #[.nestMembers #[319, 327, 801, 108, 663, 208]] #[{ accessFlags := 2, nameIndex := 5, descriptorIndex := 6, attributes := #[] }, { accessFlags := 265, nameIndex := 727, descriptorIndex := 728, attributes := #[] }] 49 2 #[] #[{ accessFlags := 25, nameIndex := 507, descriptorIndex := 526, attributes := #[] }, { accessFlags := 25, nameIndex := 399, descriptorIndex := 155, attributes := #[] }, { accessFlags := 25, nameIndex := 396, descriptorIndex := 155, attributes := #[] }, { accessFlags := 10, nameIndex := 525, descriptorIndex := 526, attributes := #[] }, { accessFlags := 26, nameIndex := 674, descriptorIndex := 12, attributes := #[] }, { accessFlags := 26, nameIndex := 677, descriptorIndex := 12, attributes := #[] }, { accessFlags := 10, nameIndex := 11, descriptorIndex := 12, attributes := #[] }, { accessFlags := 74, nameIndex := 175, descriptorIndex := 176, attributes := #[] }, { accessFlags := 10, nameIndex := 491, descriptorIndex := 222, attributes := #[] }, { accessFlags := 74, nameIndex := 29, descriptorIndex := 30, attributes := #[] }, { accessFlags := 74, nameIndex := 154, descriptorIndex := 155, attributes := #[] }, { accessFlags := 10, nameIndex := 217, descriptorIndex := 218, attributes := #[] }, { accessFlags := 10, nameIndex := 221, descriptorIndex := 222, attributes := #[] }, { accessFlags := 8, nameIndex := 562, descriptorIndex := 563, attributes := #[] }])
  fields := #[{ name := "in", type := (.object "java/io/InputStream"), accessFlags := 25, slot := 0, constantValue := 0 }, { name := "out", type := (.object "java/io/PrintStream"), accessFlags := 25, slot := 1, constantValue := 0 }, { name := "err", type := (.object "java/io/PrintStream"), accessFlags := 25, slot := 2, constantValue := 0 }, { name := "initialIn", type := (.object "java/io/InputStream"), accessFlags := 10, slot := 3, constantValue := 0 }, { name := "NEVER", type := .int, accessFlags := 26, slot := 4, constantValue := 0 }, { name := "MAYBE", type := .int, accessFlags := 26, slot := 5, constantValue := 0 }, { name := "allowSecurityManager", type := .int, accessFlags := 10, slot := 6, constantValue := 0 }, { name := "security", type := (.object "java/lang/SecurityManager"), accessFlags := 74, slot := 7, constantValue := 0 }, { name := "notSupportedJnuEncoding", type := (.object "java/lang/String"), accessFlags := 10, slot := 8, constantValue := 0 }, { name := "cons", type := (.object "java/io/Console"), accessFlags := 74, slot := 9, constantValue := 0 }, { name := "initialErrStream", type := (.object "java/io/PrintStream"), accessFlags := 74, slot := 10, constantValue := 0 }, { name := "props", type := (.object "java/util/Properties"), accessFlags := 10, slot := 11, constantValue := 0 }, { name := "lineSeparator", type := (.object "java/lang/String"), accessFlags := 10, slot := 12, constantValue := 0 }, { name := "bootLayer", type := (.object "java/lang/ModuleLayer"), accessFlags := 8, slot := 13, constantValue := 0 }]
  methods := #[k5m0, k5m1]
  instanceTypes := #[]
  staticTypes := #[(.object "java/io/InputStream"), (.object "java/io/PrintStream"), (.object "java/io/PrintStream"), (.object "java/io/InputStream"), .int, .int, .int, (.object "java/lang/SecurityManager"), (.object "java/lang/String"), (.object "java/io/Console"), (.object "java/io/PrintStream"), (.object "java/util/Properties"), (.object "java/lang/String"), (.object "java/lang/ModuleLayer")]
  resolved := Array.replicate 834 none
  statics := none }

def pool6 : Array CpInfo := pool [(1, u "java/lang/Cloneable"), (0, .class_ 1), (0, u "java/lang/Object"), (0, .class_ 3)] 3

/-- java/lang/Cloneable -/
def k6 : Class := { plain "java/lang/Cloneable" (some 0) with
  accessFlags := 1537
  interfaces := #[]
  cf := some (fileOf pool6 2 #[] #[] 1537 4 #[] #[])
  fields := #[]
  methods := #[]
  instanceTypes := #[]
  staticTypes := #[]
  resolved := Array.replicate 8 none
  statics := none }

def pool7 : Array CpInfo := pool [(1, u "java/io/Serializable"), (0, .class_ 1), (0, u "java/lang/Object"), (0, .class_ 3)] 3

/-- java/io/Serializable -/
def k7 : Class := { plain "java/io/Serializable" (some 0) with
  accessFlags := 1537
  interfaces := #[]
  cf := some (fileOf pool7 2 #[] #[] 1537 4 #[] #[])
  fields := #[]
  methods := #[]
  instanceTypes := #[]
  staticTypes := #[]
  resolved := Array.replicate 8 none
  statics := none }

/-- the primitive byte -/
def k8 : Class := { plain "byte" none with kind := .primitive 'B', accessFlags := 0x411 }
/-- [B -/
def k9 : Class := { plain "[B" (some 0) with kind := .array 8 .byte, interfaces := #[6, 7], accessFlags := 1041 }

/-- the primitive int -/
def k10 : Class := { plain "int" none with kind := .primitive 'I', accessFlags := 0x411 }
/-- [I -/
def k11 : Class := { plain "[I" (some 0) with kind := .array 10 .int, interfaces := #[6, 7], accessFlags := 1041 }

def heap : Heap := #[]
def classes : Array Class := #[k0, k1, k2, k3, k4, k5, k6, k7, k8, k9, k10, k11]
def interned : List (Array UInt16 × Addr) := []
def slotsUsed : Nat := 0
def theMethod : MethodId := ⟨1, 1⟩
def args0 : Array Value := #[.int 5, .int 5, .int 5, .int 5, .int 5, .int 5]
def aboutOver (below : List Frame) : State where
  vm := { classes := classes, interned := interned.toArray }
  heap := heap
  slotsUsed := slotsUsed
  threads := #[{ frames := .invoking theMethod args0 :: below }]
def below0 : List Frame := [.native { method := ⟨0, 0⟩, args := #[] }]
def about1 : State := aboutOver below0
def p0 : Program := .bare "" "" ""
def e0 : Env := launch0.env 0 0 0
theorem w_frames : about1.frames = Frame.invoking theMethod args0 :: below0 := rfl
set_option maxRecDepth 65536 in
theorem w_args : argsFit about1.vm theMethod args0 = true := by decide +kernel
set_option maxRecDepth 65536 in
theorem w_heap : heapFits about1 = true := by decide +kernel
set_option maxRecDepth 65536 in
theorem w_runnable : about1.curStatus? = some .runnable := by decide +kernel
set_option maxRecDepth 65536 in
theorem w_alone : about1.alone = true := by decide +kernel
set_option maxRecDepth 65536 in
theorem w_named : about1.methodNamed? x = some theMethod := by decide +kernel
set_option maxRecDepth 65536 in
theorem w_hears : about1.hears theMethod below0 = true := by decide +kernel
set_option maxRecDepth 65536 in
theorem w_ripe : about1.ripe theMethod args0 below0 = true := by decide +kernel
theorem w_running : about1.status = .running := rfl
set_option maxRecDepth 65536 in
theorem w_room : about1.hasRoom e0.platform room_1 = true :=
  launch0.hasRoom_least _ room_1 (by decide +kernel) (by decide +kernel) (by decide +kernel) (by decide +kernel) (by decide +kernel) (by decide +kernel)
theorem allAtoms_all (ts : List Jvm.Cond) (a : Array Jvm.Value) (st : Jvm.State) : (allAtoms ts).before a st = ts.all (fun c => c.before a st) := by
  induction ts with
  | nil => rfl
  | cons c t ih =>
    show (Jvm.Cond.and c (allAtoms t)).before a st = _
    rw [Jvm.Cond.before_and, ih, List.all_cons]
def words1 : List Jvm.Cond := Jvm.Cond.code x code maxLocals ret :: tables_1
/-- a 'code' word, met by the world's own term for the bytes: nothing is compared byte by byte -/
theorem code_word {y : MethodName} {bytes : ByteArray} {mx : Nat} {rt : Option FieldType} {a : Array Value} {s : State} {m : MethodId} {meth : Method} {c : Code} (h1 : s.methodNamed? y = some m) (h2 : s.vm.method? m = some meth) (h3 : meth.code = some c) (h4 : c.code = bytes)
    (h5 : (c.maxLocals == mx && c.exceptionTable.isEmpty && decide (c.maxStack ≤ mostOperands) && decide (meth.sig.returnType = rt) && !meth.locks && decide (parseMethodDescriptor y.desc = some meth.sig)) = true) : (Jvm.Cond.code y bytes mx rt).before a s = true := by
  simp only [Bool.and_eq_true, beq_iff_eq, Bool.not_eq_true', decide_eq_true_eq] at h5
  obtain ⟨⟨⟨⟨⟨g1, g2⟩, g3⟩, g4⟩, g5⟩, g6⟩ := h5
  simp [Cond.before, Cond.holds, Cond.value, h1, h2, h3, h4, g1, g2, g3, g4, g5, g6]
def isCode : Jvm.Cond → Bool
  | .code _ _ _ _ => true
  | _ => false
theorem all_split {L : List Jvm.Cond} {P : Jvm.Cond → Bool} (h1 : L.all (fun c => isCode c || P c) = true) (h2 : ∀ c ∈ L.filter isCode, P c = true) : L.all P = true := by
  refine List.all_eq_true.mpr fun c hc => ?_
  have h := List.all_eq_true.mp h1 c hc
  rcases Bool.eq_false_or_eq_true (isCode c) with hi | hi
  · exact h2 c (List.mem_filter.mpr ⟨hc, hi⟩)
  · simpa [hi] using h
set_option maxRecDepth 65536 in
theorem w_c0 : (Jvm.Cond.code x code maxLocals ret).before args0 about1 = true := code_word (m := ⟨1, 1⟩) (meth := k1m1) (c := k1c1) (by decide +kernel) rfl rfl rfl (by decide +kernel)
set_option maxRecDepth 65536 in
theorem w_c1 : (Jvm.Cond.code ({ cls := "com/example/subsumer/subsumer/classification/IntList", name := "<init>", desc := "()V" } : Jvm.MethodName) prog_2_method_1_code (1 : Nat) (Option.none : Option Jvm.ClassFile.FieldType)).before args0 about1 = true := code_word (m := ⟨2, 0⟩) (meth := k2m0) (c := k2c0) (by decide +kernel) rfl rfl rfl (by decide +kernel)
set_option maxRecDepth 65536 in
theorem w_c2 : (Jvm.Cond.code ({ cls := "java/lang/Object", name := "<init>", desc := "()V" } : Jvm.MethodName) object_method_1_code (1 : Nat) (Option.none : Option Jvm.ClassFile.FieldType)).before args0 about1 = true := code_word (m := ⟨0, 0⟩) (meth := k0m0) (c := k0c0) (by decide +kernel) rfl rfl rfl (by decide +kernel)
set_option maxRecDepth 65536 in
theorem w_c3 : (Jvm.Cond.code ({ cls := "com/example/subsumer/subsumer/classification/IntList", name := "add", desc := "(I)V" } : Jvm.MethodName) prog_2_method_2_code (2 : Nat) (Option.none : Option Jvm.ClassFile.FieldType)).before args0 about1 = true := code_word (m := ⟨2, 1⟩) (meth := k2m1) (c := k2c1) (by decide +kernel) rfl rfl rfl (by decide +kernel)
set_option maxRecDepth 65536 in
theorem w_c4 : (Jvm.Cond.code ({ cls := "com/example/subsumer/subsumer/classification/IntList", name := "add", desc := "(II)V" } : Jvm.MethodName) prog_2_method_3_code (3 : Nat) (Option.none : Option Jvm.ClassFile.FieldType)).before args0 about1 = true := code_word (m := ⟨2, 2⟩) (meth := k2m2) (c := k2c2) (by decide +kernel) rfl rfl rfl (by decide +kernel)
set_option maxRecDepth 65536 in
theorem w_c5 : (Jvm.Cond.code ({ cls := "java/util/Arrays", name := "copyOf", desc := "([II)[I" } : Jvm.MethodName) jdk_65_method_123_code (3 : Nat) (Option.some (Jvm.ClassFile.FieldType.array Jvm.ClassFile.FieldType.int))).before args0 about1 = true := code_word (m := ⟨3, 1⟩) (meth := k3m1) (c := k3c1) (by decide +kernel) rfl rfl rfl (by decide +kernel)
set_option maxRecDepth 65536 in
theorem w_c6 : (Jvm.Cond.code ({ cls := "java/lang/Math", name := "min", desc := "(II)I" } : Jvm.MethodName) jdk_29_method_69_code (2 : Nat) (Option.some Jvm.ClassFile.FieldType.int)).before args0 about1 = true := code_word (m := ⟨4, 1⟩) (meth := k4m1) (c := k4c1) (by decide +kernel) rfl rfl rfl (by decide +kernel)
set_option maxRecDepth 65536 in
theorem w_c7 : (Jvm.Cond.code ({ cls := "com/example/subsumer/subsumer/classification/IntList", name := "pop", desc := "()I" } : Jvm.MethodName) prog_2_method_7_code (1 : Nat) (Option.some Jvm.ClassFile.FieldType.int)).before args0 about1 = true := code_word (m := ⟨2, 5⟩) (meth := k2m5) (c := k2c5) (by decide +kernel) rfl rfl rfl (by decide +kernel)
set_option maxRecDepth 65536 in
theorem w_c8 : (Jvm.Cond.code ({ cls := "com/example/subsumer/subsumer/classification/IntList", name := "size", desc := "()I" } : Jvm.MethodName) prog_2_method_5_code (1 : Nat) (Option.some Jvm.ClassFile.FieldType.int)).before args0 about1 = true := code_word (m := ⟨2, 4⟩) (meth := k2m4) (c := k2c4) (by decide +kernel) rfl rfl rfl (by decide +kernel)
set_option maxRecDepth 65536 in
theorem w_c9 : (Jvm.Cond.code ({ cls := "com/example/subsumer/subsumer/classification/IntList", name := "get", desc := "(I)I" } : Jvm.MethodName) prog_2_method_4_code (2 : Nat) (Option.some Jvm.ClassFile.FieldType.int)).before args0 about1 = true := code_word (m := ⟨2, 3⟩) (meth := k2m3) (c := k2c3) (by decide +kernel) rfl rfl rfl (by decide +kernel)
def codes1 : List Jvm.Cond := [Jvm.Cond.code x code maxLocals ret, Jvm.Cond.code ({ cls := "com/example/subsumer/subsumer/classification/IntList", name := "<init>", desc := "()V" } : Jvm.MethodName) prog_2_method_1_code (1 : Nat) (Option.none : Option Jvm.ClassFile.FieldType), Jvm.Cond.code ({ cls := "java/lang/Object", name := "<init>", desc := "()V" } : Jvm.MethodName) object_method_1_code (1 : Nat) (Option.none : Option Jvm.ClassFile.FieldType), Jvm.Cond.code ({ cls := "com/example/subsumer/subsumer/classification/IntList", name := "add", desc := "(I)V" } : Jvm.MethodName) prog_2_method_2_code (2 : Nat) (Option.none : Option Jvm.ClassFile.FieldType), Jvm.Cond.code ({ cls := "com/example/subsumer/subsumer/classification/IntList", name := "add", desc := "(II)V" } : Jvm.MethodName) prog_2_method_3_code (3 : Nat) (Option.none : Option Jvm.ClassFile.FieldType), Jvm.Cond.code ({ cls := "java/util/Arrays", name := "copyOf", desc := "([II)[I" } : Jvm.MethodName) jdk_65_method_123_code (3 : Nat) (Option.some (Jvm.ClassFile.FieldType.array Jvm.ClassFile.FieldType.int)), Jvm.Cond.code ({ cls := "java/lang/Math", name := "min", desc := "(II)I" } : Jvm.MethodName) jdk_29_method_69_code (2 : Nat) (Option.some Jvm.ClassFile.FieldType.int), Jvm.Cond.code ({ cls := "com/example/subsumer/subsumer/classification/IntList", name := "pop", desc := "()I" } : Jvm.MethodName) prog_2_method_7_code (1 : Nat) (Option.some Jvm.ClassFile.FieldType.int), Jvm.Cond.code ({ cls := "com/example/subsumer/subsumer/classification/IntList", name := "size", desc := "()I" } : Jvm.MethodName) prog_2_method_5_code (1 : Nat) (Option.some Jvm.ClassFile.FieldType.int), Jvm.Cond.code ({ cls := "com/example/subsumer/subsumer/classification/IntList", name := "get", desc := "(I)I" } : Jvm.MethodName) prog_2_method_4_code (2 : Nat) (Option.some Jvm.ClassFile.FieldType.int)]
set_option maxRecDepth 65536 in
theorem codes_eq : words1.filter isCode = codes1 := rfl
theorem w_codes : ∀ c ∈ words1.filter isCode, c.before args0 about1 = true := by
  rw [codes_eq]
  intro c hc
  simp only [codes1, List.mem_cons, List.not_mem_nil, or_false] at hc
  rcases hc with rfl | rfl | rfl | rfl | rfl | rfl | rfl | rfl | rfl | rfl
  · exact w_c0
  · exact w_c1
  · exact w_c2
  · exact w_c3
  · exact w_c4
  · exact w_c5
  · exact w_c6
  · exact w_c7
  · exact w_c8
  · exact w_c9
set_option maxRecDepth 65536 in
theorem w_t1 : (words1.take 24).all (fun c => isCode c || c.before args0 about1) = true := by decide +kernel
set_option maxRecDepth 65536 in
theorem w_t2 : ((words1.drop 24).take 24).all (fun c => isCode c || c.before args0 about1) = true := by decide +kernel
set_option maxRecDepth 65536 in
theorem w_t3 : ((words1.drop 24).drop 24).all (fun c => isCode c || c.before args0 about1) = true := by decide +kernel
theorem w_tables : (allAtoms (Jvm.Cond.code x code maxLocals ret :: tables_1)).before args0 about1 = true := by
  rw [allAtoms_all]
  show words1.all (fun c => c.before args0 about1) = true
  refine all_split ?_ w_codes
  rw [← List.take_append_drop 24 words1, List.all_append, w_t1, ← List.take_append_drop 24 (words1.drop 24), List.all_append, w_t2, w_t3]
  rfl
set_option maxRecDepth 65536 in
theorem w_case : (Jvm.Cond.and given_1 narrow_1).before args0 about1 = true := by decide +kernel
theorem w_applies : (headSpec (Jvm.Cond.code x code maxLocals ret :: tables_1) room_1).applies x e0.platform about1 = true :=
  (Spec.applies_iff w_frames).mpr ⟨w_running, w_runnable, w_alone, w_named, w_hears, w_ripe, w_room, w_tables⟩
theorem atStart : AtStart classFile x code maxLocals ret World_1 tables_1 room_1 Calls_1 rest_1 Pre_1 launch0 p0 e0 about1 theMethod args0 below0 :=
  ⟨lists_1, trivial, launch0.admits_env _ _ _, launch0.least_env, fairChoices_fair.cas, fairChoices_fair.clock, w_frames, w_args, w_heap, w_applies, trivial, trivial, w_case⟩
end start1
theorem witness_1 : WitnessClaimed_1 := ⟨start1.p0, start1.e0, start1.about1, start1.theMethod, start1.args0, start1.below0, start1.atStart⟩
end Jvm.Pilot.@@N@@
