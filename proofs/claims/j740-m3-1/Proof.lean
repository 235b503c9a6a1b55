import JvmDerived
import JvmDerived.Pilot.@@N@@Statement
import JvmDerived.Pilot.@@N@@Code
set_option linter.unusedVariables false
set_option linter.unusedSimpArgs false
@@BLOCK:NumsL.lean.txt@@
namespace Jvm.Pilot.@@N@@
open Jvm Jvm.ClassFile Sem Op Lib Jvm.Free Jvm.Stand Jvm.LawKit Jvm.RoadKit Bundle Jvm.Pilot.@@N@@.Jvm.D
theorem own_m {Z : State} {aw : Array Value} (hw : ∀ d ∈ tables_1, d.before aw Z = true) (i : Nat) {d : Jvm.Cond} (h : tables_1[i]? = some d) : d.before aw Z = true := hw d (List.mem_of_getElem? h)
theorem own_tnc (x : Int32) : x.toNatClampNeg = x.toInt.toNat := rfl
theorem own_lc (x y : Int64) : lcmpW x y = if x > y then 1 else if x = y then 0 else -1 := rfl
theorem own_lt (x y : Int64) : lcmpW x y < 0 ↔ x < y := by
  rw [own_lc]; split
  · rename_i h; exact ⟨fun q => absurd q (by decide), fun q => absurd h (Int64.lt_asymm q)⟩
  · split
    · rename_i h1 h2; subst h2; exact ⟨fun q => absurd q (by decide), fun q => absurd q Int64.lt_irrefl⟩
    · rename_i h1 h2; exact ⟨fun _ => (Int64.lt_or_lt_of_ne h2).resolve_right h1, fun _ => by decide⟩
theorem own_gt (x y : Int64) : 0 < lcmpW x y ↔ y < x := by
  rw [own_lc]; split
  · rename_i h; exact ⟨fun _ => h, fun _ => by decide⟩
  · split
    · rename_i h1 h2; exact ⟨fun q => absurd q (by decide), fun q => absurd q h1⟩
    · rename_i h1 h2; exact ⟨fun q => absurd q (by decide), fun q => absurd q h1⟩
theorem own_eq (x y : Int64) : lcmpW x y = 0 ↔ x = y := by
  rw [own_lc]; split
  · rename_i h; exact ⟨fun q => absurd q (by decide), fun q => absurd (q ▸ h) Int64.lt_irrefl⟩
  · split
    · rename_i h1 h2; exact ⟨fun _ => h2, fun _ => rfl⟩
    · rename_i h1 h2; exact ⟨fun q => absurd q (by decide), fun q => absurd q h2⟩
theorem d2_0 : decode prog_2_method_1_code 0 = .ok (.aload_n 0, 1) := by decide +kernel
theorem d2_1 : decode prog_2_method_1_code 1 = .ok (.invokespecial 1, 3) := by decide +kernel
theorem d2_4 : decode prog_2_method_1_code 4 = .ok (.aload_n 0, 1) := by decide +kernel
theorem d2_5 : decode prog_2_method_1_code 5 = .ok (.iconst 4, 1) := by decide +kernel
theorem d2_6 : decode prog_2_method_1_code 6 = .ok (.newarray .int, 2) := by decide +kernel
theorem d2_8 : decode prog_2_method_1_code 8 = .ok (.putfield 7, 3) := by decide +kernel
theorem d2_11 : decode prog_2_method_1_code 11 = .ok (.return_, 1) := by decide +kernel
theorem pn_1 : plainName "com/example/subsumer/subsumer/classification/IntList" = true := by first | (simp [plainName, overriddenIn]; done) | decide +kernel
theorem ef2 (m : MethodId) (x0 : Addr) : entryFrame m #[(.ref x0)] 1 = mkF m 0 #[.val (.ref x0)] [] := by first | (simp [entryFrame, mkF, argsToLocals, Value.category]; done) | rfl
abbrev rr2 : Room := { frames := 1, cells := 1, slots := 4, locals := 12 }
def Q2 (Z : State) (a0 : Addr) (h0 : Heap) (n0 : Nat) (v : Option Value) (h : Heap) (L : List Loc) : Prop := ∃ (x0 : Addr) (y0 : ClassId), v = none ∧ Fr n0 L ∧ Keep h0 h [a0] ∧ n0 ≤ x0 ∧ h0.size ≤ x0 ∧ Exa Z h a0 "com/example/subsumer/subsumer/classification/IntList" ∧ Fld Z h a0 "com/example/subsumer/subsumer/classification/IntList" "size" "I" (.int (0 : Int32)) ∧ Fld Z h a0 "com/example/subsumer/subsumer/classification/IntList" "items" "[I" (.ref x0) ∧ Arv Z h x0 y0 .int (4 : Int32) [(.int (0 : Int32)), (.int (0 : Int32)), (.int (0 : Int32)), (.int (0 : Int32))] (.int (0 : Int32))
set_option maxRecDepth 65536 in
set_option maxHeartbeats 40000000 in
theorem rm2 (l : Launch) (Z : State) (aw : Array Value) (hw : ∀ d ∈ tables_1, d.before aw Z = true) (ws : List Jvm.Cond) (a0 : Addr) (h0 : Heap) (n0 : Nat) (Z0 : n0 ≤ h0.size) (E_a0 : Exa Z h0 a0 "com/example/subsumer/subsumer/classification/IntList") (F_items_a0 : Fld Z h0 a0 "com/example/subsumer/subsumer/classification/IntList" "items" "[I" .null) (F_size_a0 : Fld Z h0 a0 "com/example/subsumer/subsumer/classification/IntList" "size" "I" (.int (0 : Int32))) (g_a0 : n0 ≤ a0) :
    MetFree l (⟨"com/example/subsumer/subsumer/classification/IntList", "<init>", "()V"⟩ : MethodName) (head1 (Jvm.Cond.code (⟨"com/example/subsumer/subsumer/classification/IntList", "<init>", "()V"⟩ : MethodName) prog_2_method_1_code 1 none :: ws) rr2) (fun a U => a = #[(.ref a0)] ∧ Z.Warmed39 U.vm ∧ U.heap = h0) (fun _ _ _ _ _ => True) (fun _ U o U' => ∃ v L, o = .returned v ∧ Q2 Z a0 h0 n0 v U'.heap L ∧ FrameEnd U o U' L rr2.cells rr2.slots) := by
  refine MetFree.of_bodySF (plainFor_of_name pn_1) hisR ?_
  intro p e s m args below meth c s₁ Bd hml0 hP hK
  obtain ⟨rfl, hZ, hh⟩ := hP
  have hx := Bd.exec
  have hby := Bd.bytes
  have hml : c.maxLocals = 1 := hml0
  have hown : s.vm.findClass "com/example/subsumer/subsumer/classification/IntList" = some m.cls := findClass_of_methodNamed Bd.named
  have hnm := (name_of_methodNamed Bd.named Bd.method).1
  have X0 : Stand p l e rr2 s m #[(.ref a0)] below meth c s₁ [] 0 0 := Stand.of_body Bd
  have e0 : s₁.heap = h0 := by rw [← hh, Bd.state]; rfl
  have N0 := Fr.nil n0
  have K0 := Keep.refl h0 [a0]
  have pre0 : ∀ t, Steps p.tables e below (s₁.setTop (mkF m 0 #[.val (.ref a0)] [])) t → Steps p.tables e below (s₁.setTop (entryFrame m #[(.ref a0)] 1)) t := fun t k => castTop (ef2 m a0) k
  obtain ⟨T1, X1, e1, st1⟩ := initO X0 hx hZ hown (hw _ (List.mem_of_getElem? (i := 11) rfl)) (hw _ (List.mem_of_getElem? (i := 12) rfl)) (hw _ (List.mem_of_getElem? (i := 13) rfl)) e0 (g := (mkF m 1 #[.val (.ref a0)] [(.ref a0)])) rfl (by rw [hml]; rfl) rfl (hb hby d2_1) (by decide) (W := 0) (by show 2 * 0 + _ ≤ _; exact Nat.le_of_eq rfl) (by decide)
  obtain ⟨T2, h2, k2, X2, e2, E2, A2, st2⟩ := newP X1 hx hZ (hw _ (List.mem_of_getElem? (i := 14) rfl)) e1 (g := (mkF m 6 #[.val (.ref a0)] [(.int (4 : Int32)), (.ref a0)])) rfl (hb hby d2_6) rfl (by decide) (cap := 4) (by decide) (by decide) (by decide) (by decide)
  obtain ⟨b2, gg2⟩ : ∃ z, z = h0.size := ⟨_, rfl⟩
  rw [← gg2] at A2 st2
  have f3 := E_a0.ext E2
  have f4 := F_items_a0.ext E2
  have f5 := F_size_a0.ext E2
  have ne6 : a0 ≠ b2 := Nat.ne_of_lt (Nat.lt_of_lt_of_le E_a0.lt (Nat.le_of_eq gg2.symm))
  have g_b2 : n0 ≤ b2 := Nat.le_trans Z0 (Nat.le_of_eq gg2.symm)
  have sz_b2 : h0.size ≤ b2 := Nat.le_trans K0.1 (Nat.le_of_eq gg2.symm)
  have K7 := K0.ext E2
  have Z8 := Nat.le_trans Z0 E2.1
  have V2 : Arv Z h2 b2 k2 .int (4 : Int32) [(.int (0 : Int32)), (.int (0 : Int32)), (.int (0 : Int32)), (.int (0 : Int32))] (.int (0 : Int32)) := (Arv.new A2 (by decide)).pad (pad_rep [] (.int (0 : Int32)) 4)
  obtain ⟨T9, h9, X9, e9, W9, st9⟩ := putF X2 hx hZ hown (host := "") (Or.inl (hw _ (List.mem_of_getElem? (i := 15) rfl))) Via.refl e2 f4 f3 (Or.inl (hw _ (List.mem_of_getElem? (i := 16) rfl))) (hw _ (List.mem_of_getElem? (i := 6) rfl)) (ty := (.array .int)) (by decide) rfl rfl (g := (mkF m 8 #[.val (.ref a0)] [(.ref b2), (.ref a0)])) rfl rfl (hb hby d2_8)
  have f9w : Fld Z h9 a0 "com/example/subsumer/subsumer/classification/IntList" "items" "[I" (.ref b2) := f4.same W9
  have f10 := f3.wr W9
  have f12 := f5.other W9 (Or.inr (slot_ne (Or.inl (hw _ (List.mem_of_getElem? (i := 23) rfl))) (Or.inl (hw _ (List.mem_of_getElem? (i := 16) rfl))) (by decide) (t := .int) (t' := (.array .int)) (by decide) (by decide)))
  have f13 := V2.other W9 (Ne.symm ne6)
  have K14 := K7.wr W9 (Or.inl (List.mem_of_getElem? (i := 0) rfl))
  have Z15 := Nat.le_trans Z8 (Keep.of_wr W9).1
  have N16 := Fr.snoc X9 N0 g_a0
  obtain ⟨fs, hr, hrun, hended, hW, hsame⟩ := X9.leave (v := none) (fun _ => rfl)
  refine ⟨_, _, pre0 _ ?_, hrun, hended, _, _, rfl, ?_, ⟨_, rfl⟩, hW, hsame.mono (by decide) (by decide)⟩
  · skip
    show Steps p.tables e below (s₁.setTop (mkF m 0 #[.val (.ref a0)] [])) _
    refine XS.aloadN X0.here hx rfl (hb hby d2_0) rfl rfl ?_
    show Steps p.tables e below (s₁.setTop (mkF m 1 #[.val (.ref a0)] [(.ref a0)])) _
    refine st1 _ ?_
    show Steps p.tables e below (T1.setTop (mkF m 4 #[.val (.ref a0)] [])) _
    refine XS.aloadN X1.here hx rfl (hb hby d2_4) rfl rfl ?_
    show Steps p.tables e below (T1.setTop (mkF m 5 #[.val (.ref a0)] [(.ref a0)])) _
    refine XS.iconst X1.here hx rfl (hb hby d2_5) ?_
    show Steps p.tables e below (T1.setTop (mkF m 6 #[.val (.ref a0)] [(.int (4 : Int32)), (.ref a0)])) _
    refine st2 _ ?_
    show Steps p.tables e below (T2.setTop (mkF m 8 #[.val (.ref a0)] [(.ref b2), (.ref a0)])) _
    refine st9 _ ?_
    show Steps p.tables e below (T9.setTop (mkF m 11 #[.val (.ref a0)] [])) _
    exact X9.returnOut hx Bd.returns (hb hby d2_11) hr
  · show Q2 Z a0 h0 n0 _ T9.heap _
    rw [e9]
    exact ⟨b2, k2, rfl, N16, K14, g_b2, sz_b2, f10, f12, f9w, f13⟩
theorem d1_0 : decode jdk_29_method_69_code 0 = .ok (.iload_n 0, 1) := by decide +kernel
theorem d1_1 : decode jdk_29_method_69_code 1 = .ok (.iload_n 1, 1) := by decide +kernel
theorem d1_2 : decode jdk_29_method_69_code 2 = .ok (.if_icmp .gt 7, 3) := by decide +kernel
theorem d1_5 : decode jdk_29_method_69_code 5 = .ok (.iload_n 0, 1) := by decide +kernel
theorem d1_6 : decode jdk_29_method_69_code 6 = .ok (.goto 4, 3) := by decide +kernel
theorem d1_10 : decode jdk_29_method_69_code 10 = .ok (.ireturn, 1) := by decide +kernel
theorem ef1l (m : MethodId) (x0 : Int32) (x1 : Int32) : entryFrame m #[(.int x0), (.int x1)] 2 = mkF m 0 #[.val (.int x0), .val (.int x1)] [] := by first | (simp [entryFrame, mkF, argsToLocals, Value.category]; done) | rfl
abbrev rr1l : Room := { frames := 0, cells := 0, slots := 0, locals := 0 }
def Q1l (Z : State) (p0 : Int32) (p1 : Int32) (h0 : Heap) (n0 : Nat) (v : Option Value) (h : Heap) (L : List Loc) : Prop := v = some (.int p0) ∧ Fr n0 L ∧ h = h0
set_option maxRecDepth 65536 in
set_option maxHeartbeats 40000000 in
theorem rm1l (l : Launch) (Z : State) (aw : Array Value) (hw : ∀ d ∈ tables_1, d.before aw Z = true) (ws : List Jvm.Cond) (p0 : Int32) (p1 : Int32) (h0 : Heap) (n0 : Nat) (Z0 : n0 ≤ h0.size) (hc : ¬ p1 < p0) :
    MetFree l (⟨"java/lang/Math", "min", "(II)I"⟩ : MethodName) (head1 (Jvm.Cond.code (⟨"java/lang/Math", "min", "(II)I"⟩ : MethodName) jdk_29_method_69_code 2 (some .int) :: ws) rr1l) (fun a U => a = #[(.int p0), (.int p1)] ∧ Z.Warmed39 U.vm ∧ U.heap = h0) (fun _ _ _ _ _ => True) (fun _ U o U' => ∃ v L, o = .returned v ∧ Q1l Z p0 p1 h0 n0 v U'.heap L ∧ FrameEnd U o U' L rr1l.cells rr1l.slots) := by
  refine MetFree.of_bodySF (Jvm.Free.JP.mathPlain rfl (by decide +kernel)) hisR ?_
  intro p e s m args below meth c s₁ Bd hml0 hP hK
  obtain ⟨rfl, hZ, hh⟩ := hP
  have hx := Bd.exec
  have hby := Bd.bytes
  have hml : c.maxLocals = 2 := hml0
  have hown : s.vm.findClass "java/lang/Math" = some m.cls := findClass_of_methodNamed Bd.named
  have hnm := (name_of_methodNamed Bd.named Bd.method).1
  have X0 : Stand p l e rr1l s m #[(.int p0), (.int p1)] below meth c s₁ [] 0 0 := Stand.of_body Bd
  have e0 : s₁.heap = h0 := by rw [← hh, Bd.state]; rfl
  have N0 := Fr.nil n0
  have pre0 : ∀ t, Steps p.tables e below (s₁.setTop (mkF m 0 #[.val (.int p0), .val (.int p1)] [])) t → Steps p.tables e below (s₁.setTop (entryFrame m #[(.int p0), (.int p1)] 2)) t := fun t k => castTop (ef1l m p0 p1) k
  obtain ⟨fs, hr, hrun, hended, hW, hsame⟩ := X0.leave (v := some (.int p0)) (fun h => by rw [Bd.returns] at h; cases h)
  refine ⟨_, _, pre0 _ ?_, hrun, hended, _, _, rfl, ?_, ⟨_, rfl⟩, hW, hsame.mono (by decide) (by decide)⟩
  · skip
    show Steps p.tables e below (s₁.setTop (mkF m 0 #[.val (.int p0), .val (.int p1)] [])) _
    refine XS.iloadN X0.here hx rfl (hb hby d1_0) rfl ?_
    show Steps p.tables e below (s₁.setTop (mkF m 1 #[.val (.int p0), .val (.int p1)] [(.int p0)])) _
    refine XS.iloadN X0.here hx rfl (hb hby d1_1) rfl ?_
    show Steps p.tables e below (s₁.setTop (mkF m 2 #[.val (.int p0), .val (.int p1)] [(.int p1), (.int p0)])) _
    refine XS.icmpNo X0.here hx rfl (hb hby d1_2) rfl (flt hc).2.2.1 ?_
    show Steps p.tables e below (s₁.setTop (mkF m 5 #[.val (.int p0), .val (.int p1)] [])) _
    refine XS.iloadN X0.here hx rfl (hb hby d1_5) rfl ?_
    show Steps p.tables e below (s₁.setTop (mkF m 6 #[.val (.int p0), .val (.int p1)] [(.int p0)])) _
    refine XS.goto X0.here hx rfl (pc0 := 6) (pc' := 10) rfl (hb hby d1_6) (by decide) (by decide) ?_
    show Steps p.tables e below (s₁.setTop (mkF m 10 #[.val (.int p0), .val (.int p1)] [(.int p0)])) _
    exact retOut X0 hx Bd.returns rfl (Or.inl ⟨rfl, Or.inl rfl, _, rfl⟩) (hb hby d1_10) hr
  · show Q1l Z p0 p1 h0 n0 _ s₁.heap _
    rw [e0]
    exact ⟨rfl, N0, rfl⟩
theorem d7_0 : decode jdk_65_method_123_code 0 = .ok (.iload_n 1, 1) := by decide +kernel
theorem d7_1 : decode jdk_65_method_123_code 1 = .ok (.aload_n 0, 1) := by decide +kernel
theorem d7_2 : decode jdk_65_method_123_code 2 = .ok (.arraylength, 1) := by decide +kernel
theorem d7_3 : decode jdk_65_method_123_code 3 = .ok (.if_icmp .ne 11, 3) := by decide +kernel
theorem d7_14 : decode jdk_65_method_123_code 14 = .ok (.iload_n 1, 1) := by decide +kernel
theorem d7_15 : decode jdk_65_method_123_code 15 = .ok (.newarray .int, 2) := by decide +kernel
theorem d7_17 : decode jdk_65_method_123_code 17 = .ok (.astore_n 2, 1) := by decide +kernel
theorem d7_18 : decode jdk_65_method_123_code 18 = .ok (.aload_n 0, 1) := by decide +kernel
theorem d7_19 : decode jdk_65_method_123_code 19 = .ok (.iconst 0, 1) := by decide +kernel
theorem d7_20 : decode jdk_65_method_123_code 20 = .ok (.aload_n 2, 1) := by decide +kernel
theorem d7_21 : decode jdk_65_method_123_code 21 = .ok (.iconst 0, 1) := by decide +kernel
theorem d7_22 : decode jdk_65_method_123_code 22 = .ok (.aload_n 0, 1) := by decide +kernel
theorem d7_23 : decode jdk_65_method_123_code 23 = .ok (.arraylength, 1) := by decide +kernel
theorem d7_24 : decode jdk_65_method_123_code 24 = .ok (.iload_n 1, 1) := by decide +kernel
theorem pd_1 : parseMethodDescriptor "(II)I" = some ⟨[.int, .int], some .int⟩ := by decide +kernel
theorem d7_25 : decode jdk_65_method_123_code 25 = .ok (.invokestatic 304, 3) := by decide +kernel
theorem d7_28 : decode jdk_65_method_123_code 28 = .ok (.invokestatic 150, 3) := by decide +kernel
theorem d7_31 : decode jdk_65_method_123_code 31 = .ok (.aload_n 2, 1) := by decide +kernel
theorem d7_32 : decode jdk_65_method_123_code 32 = .ok (.areturn, 1) := by decide +kernel
theorem pn_2 : plainName "java/util/Arrays" = true := by first | (simp [plainName, overriddenIn]; done) | decide +kernel
theorem ef7 (m : MethodId) (x0 : Addr) (x1 : Int32) : entryFrame m #[(.ref x0), (.int x1)] 3 = mkF m 0 #[.val (.ref x0), .val (.int x1), .unset] [] := by first | (simp [entryFrame, mkF, argsToLocals, Value.category]; done) | rfl
abbrev rr7 : Room := { frames := 1, cells := 1, slots := 8, locals := 18 }
def Q7 (Z : State) (a0 : Addr) (u0 : Int32) (u1 : Int32) (u2 : Int32) (u3 : Int32) (k_a0 : ClassId) (h0 : Heap) (n0 : Nat) (v : Option Value) (h : Heap) (L : List Loc) : Prop := ∃ (x0 : Addr) (y0 : ClassId), v = some (.ref x0) ∧ Fr n0 L ∧ Keep h0 h [] ∧ n0 ≤ x0 ∧ h0.size ≤ x0 ∧ Arv Z h x0 y0 .int (8 : Int32) [(.int u0), (.int u1), (.int u2), (.int u3), (.int (0 : Int32)), (.int (0 : Int32)), (.int (0 : Int32)), (.int (0 : Int32))] (.int (0 : Int32))
set_option maxRecDepth 65536 in
set_option maxHeartbeats 40000000 in
theorem rm7 (l : Launch) (Z : State) (aw : Array Value) (hw : ∀ d ∈ tables_1, d.before aw Z = true) (ws : List Jvm.Cond) (a0 : Addr) (u0 : Int32) (u1 : Int32) (u2 : Int32) (u3 : Int32) (k_a0 : ClassId) (h0 : Heap) (n0 : Nat) (Z0 : n0 ≤ h0.size) (V_a0 : Arv Z h0 a0 k_a0 .int (4 : Int32) [(.int u0), (.int u1), (.int u2), (.int u3)] (.int (0 : Int32))) :
    MetFree l (⟨"java/util/Arrays", "copyOf", "([II)[I"⟩ : MethodName) (head1 (Jvm.Cond.code (⟨"java/util/Arrays", "copyOf", "([II)[I"⟩ : MethodName) jdk_65_method_123_code 3 (some (.array .int)) :: ws) rr7) (fun a U => a = #[(.ref a0), (.int (8 : Int32))] ∧ Z.Warmed39 U.vm ∧ U.heap = h0) (fun _ _ _ _ _ => True) (fun _ U o U' => ∃ v L, o = .returned v ∧ Q7 Z a0 u0 u1 u2 u3 k_a0 h0 n0 v U'.heap L ∧ FrameEnd U o U' L rr7.cells rr7.slots) := by
  refine MetFree.of_bodySF (plainFor_of_name pn_2) hisR ?_
  intro p e s m args below meth c s₁ Bd hml0 hP hK
  obtain ⟨rfl, hZ, hh⟩ := hP
  have hx := Bd.exec
  have hby := Bd.bytes
  have hml : c.maxLocals = 3 := hml0
  have hown : s.vm.findClass "java/util/Arrays" = some m.cls := findClass_of_methodNamed Bd.named
  have hnm := (name_of_methodNamed Bd.named Bd.method).1
  have X0 : Stand p l e rr7 s m #[(.ref a0), (.int (8 : Int32))] below meth c s₁ [] 0 0 := Stand.of_body Bd
  have e0 : s₁.heap = h0 := by rw [← hh, Bd.state]; rfl
  have N0 := Fr.nil n0
  have K0 := Keep.refl h0 []
  have pre0 : ∀ t, Steps p.tables e below (s₁.setTop (mkF m 0 #[.val (.ref a0), .val (.int (8 : Int32)), .unset] [])) t → Steps p.tables e below (s₁.setTop (entryFrame m #[(.ref a0), (.int (8 : Int32))] 3)) t := fun t k => castTop (ef7 m a0 (8 : Int32)) k
  obtain ⟨cl17, Ar17, q17, S17, M17, H17, G17⟩ := id V_a0
  obtain ⟨T18, h18, k18, X18, e18, E18, A18, st18⟩ := newP X0 hx hZ (hw _ (List.mem_of_getElem? (i := 14) rfl)) e0 (g := (mkF m 15 #[.val (.ref a0), .val (.int (8 : Int32)), .unset] [(.int (8 : Int32))])) rfl (hb hby d7_15) rfl (by decide) (cap := 8) (by decide) (by decide) (by decide) (by decide)
  obtain ⟨b18, gg18⟩ : ∃ z, z = h0.size := ⟨_, rfl⟩
  rw [← gg18] at A18 st18
  have f19 := V_a0.ext E18
  have ne20 : a0 ≠ b18 := Nat.ne_of_lt (Nat.lt_of_lt_of_le V_a0.lt (Nat.le_of_eq gg18.symm))
  have g_b18 : n0 ≤ b18 := Nat.le_trans Z0 (Nat.le_of_eq gg18.symm)
  have sz_b18 : h0.size ≤ b18 := Nat.le_trans K0.1 (Nat.le_of_eq gg18.symm)
  have K21 := K0.ext E18
  have Z22 := Nat.le_trans Z0 E18.1
  have V18 : Arv Z h18 b18 k18 .int (8 : Int32) [(.int (0 : Int32)), (.int (0 : Int32)), (.int (0 : Int32)), (.int (0 : Int32)), (.int (0 : Int32)), (.int (0 : Int32)), (.int (0 : Int32)), (.int (0 : Int32))] (.int (0 : Int32)) := (Arv.new A18 (by decide)).pad (pad_rep [] (.int (0 : Int32)) 8)
  obtain ⟨cl23, Ar23, q23, S23, M23, H23, G23⟩ := id f19
  obtain ⟨_, _, ⟨T24, L24, k24, n24⟩, -, X24, ⟨Lc24, hQ24, l24, y24, z24⟩, st24⟩ := Jvm.LawKit.callS X18 hx (y := (⟨"java/lang/Math", "min", "(II)I"⟩ : MethodName)) hown (mvT hZ (hw _ (List.mem_of_getElem? (i := 38) rfl))) (mvT hZ (hw _ (List.mem_of_getElem? (i := 2) rfl))) (mvT hZ (hw _ (List.mem_of_getElem? (i := 3) rfl))) (mvT hZ (hw _ (List.mem_of_getElem? (i := 4) rfl))) (by decide) (backOf (W := 4) (rm1l l Z aw hw [] ((4 : Int32)) ((8 : Int32)) h18 n0 Z22 (by decide)) hZ (hw _ (List.mem_of_getElem? (i := 4) rfl)) (hw _ (List.mem_of_getElem? (i := 3) rfl)) (by decide) (by decide)) (g := (mkF m 25 #[.val (.ref a0), .val (.int (8 : Int32)), .val (.ref b18)] [(.int (8 : Int32)), (.int (4 : Int32)), (.int (0 : Int32)), (.ref b18), (.int (0 : Int32)), (.ref a0)])) rfl (by rw [hml]; rfl) (argsL := [(.int (4 : Int32)), (.int (8 : Int32))]) (rest := [(.int (0 : Int32)), (.ref b18), (.int (0 : Int32)), (.ref a0)]) (lenOf pd_1 rfl) rfl (by show 2 * 0 + _ ≤ _; exact Nat.le_of_eq rfl) (hb hby d7_25) (fun _ _ => ⟨rfl, e18, (by decide : 1 + 0 ≤ _), (by decide : 8 + 0 ≤ _)⟩)
  dsimp only [Pt.U, Pt.locs, Pt.cells, Pt.slots] at X24 l24 y24 z24 st24 hQ24
  subst l24 y24 z24
  obtain ⟨rfl, N24q, e24⟩ := hQ24
  have N24 := Fr.app N0 N24q
  obtain ⟨T25, h25, L25, X25, e25, N25, K25q, V25, st25⟩ := cpA X24 hx hZ hown (hw _ (List.mem_of_getElem? (i := 39) rfl)) (hw _ (List.mem_of_getElem? (i := 42) rfl)) (hw _ (List.mem_of_getElem? (i := 40) rfl)) (hw _ (List.mem_of_getElem? (i := 41) rfl)) e24 (sp := (0 : Int32)) (dp := (0 : Int32)) (nn := (4 : Int32)) (us := [(.int u0), (.int u1), (.int u2), (.int u3)]) f19 V18 (Or.inl ⟨rfl, rfl⟩) (by decide) (by decide) (by decide) (by decide) (by decide) (by rfl) (by decide) N24 g_b18 (g := (mkF m 28 #[.val (.ref a0), .val (.int (8 : Int32)), .val (.ref b18)] [(.int (4 : Int32)), (.int (0 : Int32)), (.ref b18), (.int (0 : Int32)), (.ref a0)])) rfl (by rw [hml]; rfl) rfl (hb hby d7_28) (by decide) (W := 0) (by show 2 * 0 + _ ≤ _; exact Nat.le_of_eq rfl) (by decide)
  have f26 := f19.keep K25q (ninS ne20 nin0)
  have V25x : Arv Z h25 b18 k18 .int (8 : Int32) [(.int u0), (.int u1), (.int u2), (.int u3), (.int (0 : Int32)), (.int (0 : Int32)), (.int (0 : Int32)), (.int (0 : Int32))] (.int (0 : Int32)) := V25
  have K25 := K21.trans K25q (allS (Or.inr sz_b18) all0)
  have Z25 := Nat.le_trans Z22 K25q.1
  obtain ⟨fs, hr, hrun, hended, hW, hsame⟩ := X25.leave (v := some (.ref b18)) (fun h => by rw [Bd.returns] at h; cases h)
  refine ⟨_, _, pre0 _ ?_, hrun, hended, _, _, rfl, ?_, ⟨_, rfl⟩, hW, hsame.mono (by decide) (by decide)⟩
  · skip
    show Steps p.tables e below (s₁.setTop (mkF m 0 #[.val (.ref a0), .val (.int (8 : Int32)), .unset] [])) _
    refine XS.iloadN X0.here hx rfl (hb hby d7_0) rfl ?_
    show Steps p.tables e below (s₁.setTop (mkF m 1 #[.val (.ref a0), .val (.int (8 : Int32)), .unset] [(.int (8 : Int32))])) _
    refine XS.aloadN X0.here hx rfl (hb hby d7_1) rfl rfl ?_
    show Steps p.tables e below (s₁.setTop (mkF m 2 #[.val (.ref a0), .val (.int (8 : Int32)), .unset] [(.ref a0), (.int (8 : Int32))])) _
    refine X0.arraylength hx (by rw [e0]; exact Ar17.1) (State.isArrayOf_alike hZ.alike Ar17.2.1) (g := (mkF m 2 #[.val (.ref a0), .val (.int (8 : Int32)), .unset] [(.ref a0), (.int (8 : Int32))])) rfl rfl (hb hby d7_2) _ ?_
    rw [len_of S17 M17]
    show Steps p.tables e below (s₁.setTop (mkF m 3 #[.val (.ref a0), .val (.int (8 : Int32)), .unset] [(.int (4 : Int32)), (.int (8 : Int32))])) _
    refine XS.icmpYes X0.here hx rfl (pc0 := 3) (pc' := 14) rfl (hb hby d7_3) rfl (feq (by decide : ¬ ((8 : Int32) = (4 : Int32)))).2 (by decide) (by decide) ?_
    show Steps p.tables e below (s₁.setTop (mkF m 14 #[.val (.ref a0), .val (.int (8 : Int32)), .unset] [])) _
    refine XS.iloadN X0.here hx rfl (hb hby d7_14) rfl ?_
    show Steps p.tables e below (s₁.setTop (mkF m 15 #[.val (.ref a0), .val (.int (8 : Int32)), .unset] [(.int (8 : Int32))])) _
    refine st18 _ ?_
    show Steps p.tables e below (T18.setTop (mkF m 17 #[.val (.ref a0), .val (.int (8 : Int32)), .unset] [(.ref b18)])) _
    refine XS.astoreN X18.here hx rfl (hb hby d7_17) rfl rfl (l' := #[.val (.ref a0), .val (.int (8 : Int32)), .val (.ref b18)]) rfl ?_
    show Steps p.tables e below (T18.setTop (mkF m 18 #[.val (.ref a0), .val (.int (8 : Int32)), .val (.ref b18)] [])) _
    refine XS.aloadN X18.here hx rfl (hb hby d7_18) rfl rfl ?_
    show Steps p.tables e below (T18.setTop (mkF m 19 #[.val (.ref a0), .val (.int (8 : Int32)), .val (.ref b18)] [(.ref a0)])) _
    refine XS.iconst X18.here hx rfl (hb hby d7_19) ?_
    show Steps p.tables e below (T18.setTop (mkF m 20 #[.val (.ref a0), .val (.int (8 : Int32)), .val (.ref b18)] [(.int (0 : Int32)), (.ref a0)])) _
    refine XS.aloadN X18.here hx rfl (hb hby d7_20) rfl rfl ?_
    show Steps p.tables e below (T18.setTop (mkF m 21 #[.val (.ref a0), .val (.int (8 : Int32)), .val (.ref b18)] [(.ref b18), (.int (0 : Int32)), (.ref a0)])) _
    refine XS.iconst X18.here hx rfl (hb hby d7_21) ?_
    show Steps p.tables e below (T18.setTop (mkF m 22 #[.val (.ref a0), .val (.int (8 : Int32)), .val (.ref b18)] [(.int (0 : Int32)), (.ref b18), (.int (0 : Int32)), (.ref a0)])) _
    refine XS.aloadN X18.here hx rfl (hb hby d7_22) rfl rfl ?_
    show Steps p.tables e below (T18.setTop (mkF m 23 #[.val (.ref a0), .val (.int (8 : Int32)), .val (.ref b18)] [(.ref a0), (.int (0 : Int32)), (.ref b18), (.int (0 : Int32)), (.ref a0)])) _
    refine X18.arraylength hx (by rw [e18]; exact Ar23.1) (State.isArrayOf_alike hZ.alike Ar23.2.1) (g := (mkF m 23 #[.val (.ref a0), .val (.int (8 : Int32)), .val (.ref b18)] [(.ref a0), (.int (0 : Int32)), (.ref b18), (.int (0 : Int32)), (.ref a0)])) rfl rfl (hb hby d7_23) _ ?_
    rw [len_of S23 M23]
    show Steps p.tables e below (T18.setTop (mkF m 24 #[.val (.ref a0), .val (.int (8 : Int32)), .val (.ref b18)] [(.int (4 : Int32)), (.int (0 : Int32)), (.ref b18), (.int (0 : Int32)), (.ref a0)])) _
    refine XS.iloadN X18.here hx rfl (hb hby d7_24) rfl ?_
    show Steps p.tables e below (T18.setTop (mkF m 25 #[.val (.ref a0), .val (.int (8 : Int32)), .val (.ref b18)] [(.int (8 : Int32)), (.int (4 : Int32)), (.int (0 : Int32)), (.ref b18), (.int (0 : Int32)), (.ref a0)])) _
    refine st24 _ ?_
    show Steps p.tables e below (T24.setTop (mkF m 28 #[.val (.ref a0), .val (.int (8 : Int32)), .val (.ref b18)] [(.int (4 : Int32)), (.int (0 : Int32)), (.ref b18), (.int (0 : Int32)), (.ref a0)])) _
    refine st25 _ ?_
    show Steps p.tables e below (T25.setTop (mkF m 31 #[.val (.ref a0), .val (.int (8 : Int32)), .val (.ref b18)] [])) _
    refine XS.aloadN X25.here hx rfl (hb hby d7_31) rfl rfl ?_
    show Steps p.tables e below (T25.setTop (mkF m 32 #[.val (.ref a0), .val (.int (8 : Int32)), .val (.ref b18)] [(.ref b18)])) _
    exact retOut X25 hx Bd.returns rfl (Or.inr (Or.inr (Or.inr (Or.inr ⟨rfl, rfl, rfl⟩)))) (hb hby d7_32) hr
  · show Q7 Z a0 u0 u1 u2 u3 k_a0 h0 n0 _ T25.heap _
    rw [e25]
    exact ⟨b18, k18, rfl, N25, K25, g_b18, sz_b18, V25x⟩
theorem d5_0 : decode prog_2_method_2_code 0 = .ok (.aload_n 0, 1) := by decide +kernel
theorem d5_1 : decode prog_2_method_2_code 1 = .ok (.getfield 13, 3) := by decide +kernel
theorem d5_4 : decode prog_2_method_2_code 4 = .ok (.aload_n 0, 1) := by decide +kernel
theorem d5_5 : decode prog_2_method_2_code 5 = .ok (.getfield 7, 3) := by decide +kernel
theorem d5_8 : decode prog_2_method_2_code 8 = .ok (.arraylength, 1) := by decide +kernel
theorem d5_9 : decode prog_2_method_2_code 9 = .ok (.if_icmp .ne 20, 3) := by decide +kernel
theorem d5_29 : decode prog_2_method_2_code 29 = .ok (.aload_n 0, 1) := by decide +kernel
theorem d5_30 : decode prog_2_method_2_code 30 = .ok (.getfield 7, 3) := by decide +kernel
theorem d5_33 : decode prog_2_method_2_code 33 = .ok (.aload_n 0, 1) := by decide +kernel
theorem d5_34 : decode prog_2_method_2_code 34 = .ok (.dup, 1) := by decide +kernel
theorem d5_35 : decode prog_2_method_2_code 35 = .ok (.getfield 13, 3) := by decide +kernel
theorem d5_38 : decode prog_2_method_2_code 38 = .ok (.dup_x1, 1) := by decide +kernel
theorem d5_39 : decode prog_2_method_2_code 39 = .ok (.iconst 1, 1) := by decide +kernel
theorem d5_40 : decode prog_2_method_2_code 40 = .ok (.iadd, 1) := by decide +kernel
theorem d5_41 : decode prog_2_method_2_code 41 = .ok (.putfield 13, 3) := by decide +kernel
theorem d5_44 : decode prog_2_method_2_code 44 = .ok (.iload_n 1, 1) := by decide +kernel
theorem d5_45 : decode prog_2_method_2_code 45 = .ok (.iastore, 1) := by decide +kernel
theorem d5_46 : decode prog_2_method_2_code 46 = .ok (.return_, 1) := by decide +kernel
theorem ef5_4_0 (m : MethodId) (x0 : Addr) (x1 : Int32) : entryFrame m #[(.ref x0), (.int x1)] 2 = mkF m 0 #[.val (.ref x0), .val (.int x1)] [] := by first | (simp [entryFrame, mkF, argsToLocals, Value.category]; done) | rfl
abbrev rr5_4_0 : Room := { frames := 0, cells := 0, slots := 0, locals := 0 }
def Q5_4_0 (Z : State) (a0 : Addr) (p1 : Int32) (bb : Addr) (u0 : Int32) (u1 : Int32) (u2 : Int32) (u3 : Int32) (k_bb : ClassId) (h0 : Heap) (n0 : Nat) (v : Option Value) (h : Heap) (L : List Loc) : Prop := v = none ∧ Fr n0 L ∧ Keep h0 h [a0, bb] ∧ Exa Z h a0 "com/example/subsumer/subsumer/classification/IntList" ∧ Fld Z h a0 "com/example/subsumer/subsumer/classification/IntList" "size" "I" (.int (1 : Int32)) ∧ Fld Z h a0 "com/example/subsumer/subsumer/classification/IntList" "items" "[I" (.ref bb) ∧ Arv Z h bb k_bb .int (4 : Int32) [(.int p1), (.int u1), (.int u2), (.int u3)] (.int (0 : Int32))
set_option maxRecDepth 65536 in
set_option maxHeartbeats 40000000 in
theorem rm5_4_0 (l : Launch) (Z : State) (aw : Array Value) (hw : ∀ d ∈ tables_1, d.before aw Z = true) (ws : List Jvm.Cond) (a0 : Addr) (p1 : Int32) (bb : Addr) (u0 : Int32) (u1 : Int32) (u2 : Int32) (u3 : Int32) (k_bb : ClassId) (h0 : Heap) (n0 : Nat) (Z0 : n0 ≤ h0.size) (E_a0 : Exa Z h0 a0 "com/example/subsumer/subsumer/classification/IntList") (F_items_a0 : Fld Z h0 a0 "com/example/subsumer/subsumer/classification/IntList" "items" "[I" (.ref bb)) (F_size_a0 : Fld Z h0 a0 "com/example/subsumer/subsumer/classification/IntList" "size" "I" (.int (0 : Int32))) (V_bb : Arv Z h0 bb k_bb .int (4 : Int32) [(.int u0), (.int u1), (.int u2), (.int u3)] (.int (0 : Int32))) (g_a0 : n0 ≤ a0) (g_bb : n0 ≤ bb) (ne_a0_bb : a0 ≠ bb) :
    MetFree l (⟨"com/example/subsumer/subsumer/classification/IntList", "add", "(I)V"⟩ : MethodName) (head1 (Jvm.Cond.code (⟨"com/example/subsumer/subsumer/classification/IntList", "add", "(I)V"⟩ : MethodName) prog_2_method_2_code 2 none :: ws) rr5_4_0) (fun a U => a = #[(.ref a0), (.int p1)] ∧ Z.Warmed39 U.vm ∧ U.heap = h0) (fun _ _ _ _ _ => True) (fun _ U o U' => ∃ v L, o = .returned v ∧ Q5_4_0 Z a0 p1 bb u0 u1 u2 u3 k_bb h0 n0 v U'.heap L ∧ FrameEnd U o U' L rr5_4_0.cells rr5_4_0.slots) := by
  refine MetFree.of_bodySF (plainFor_of_name pn_1) hisR ?_
  intro p e s m args below meth c s₁ Bd hml0 hP hK
  obtain ⟨rfl, hZ, hh⟩ := hP
  have hx := Bd.exec
  have hby := Bd.bytes
  have hml : c.maxLocals = 2 := hml0
  have hown : s.vm.findClass "com/example/subsumer/subsumer/classification/IntList" = some m.cls := findClass_of_methodNamed Bd.named
  have hnm := (name_of_methodNamed Bd.named Bd.method).1
  have X0 : Stand p l e rr5_4_0 s m #[(.ref a0), (.int p1)] below meth c s₁ [] 0 0 := Stand.of_body Bd
  have e0 : s₁.heap = h0 := by rw [← hh, Bd.state]; rfl
  have N0 := Fr.nil n0
  have K0 := Keep.refl h0 [a0, bb]
  have pre0 : ∀ t, Steps p.tables e below (s₁.setTop (mkF m 0 #[.val (.ref a0), .val (.int p1)] [])) t → Steps p.tables e below (s₁.setTop (entryFrame m #[(.ref a0), (.int p1)] 2)) t := fun t k => castTop (ef5_4_0 m a0 p1) k
  obtain ⟨T28, X28, e28, st28⟩ := getF X0 hx hZ hown (host := "") (Or.inl (hw _ (List.mem_of_getElem? (i := 22) rfl))) Via.refl e0 F_size_a0 (g := (mkF m 1 #[.val (.ref a0), .val (.int p1)] [(.ref a0)])) rfl rfl (hb hby d5_1)
  obtain ⟨T29, X29, e29, st29⟩ := getF X28 hx hZ hown (host := "") (Or.inl (hw _ (List.mem_of_getElem? (i := 15) rfl))) Via.refl e28 F_items_a0 (g := (mkF m 5 #[.val (.ref a0), .val (.int p1)] [(.ref a0), (.int (0 : Int32))])) rfl rfl (hb hby d5_5)
  obtain ⟨cl30, Ar30, q30, S30, M30, H30, G30⟩ := id V_bb
  obtain ⟨T31, X31, e31, st31⟩ := getF X29 hx hZ hown (host := "") (Or.inl (hw _ (List.mem_of_getElem? (i := 15) rfl))) Via.refl e29 F_items_a0 (g := (mkF m 30 #[.val (.ref a0), .val (.int p1)] [(.ref a0)])) rfl rfl (hb hby d5_30)
  obtain ⟨T32, X32, e32, st32⟩ := getF X31 hx hZ hown (host := "") (Or.inl (hw _ (List.mem_of_getElem? (i := 22) rfl))) Via.refl e31 F_size_a0 (g := (mkF m 35 #[.val (.ref a0), .val (.int p1)] [(.ref a0), (.ref a0), (.ref bb)])) rfl rfl (hb hby d5_35)
  obtain ⟨T33, h33, X33, e33, W33, st33⟩ := putF X32 hx hZ hown (host := "") (Or.inl (hw _ (List.mem_of_getElem? (i := 22) rfl))) Via.refl e32 F_size_a0 E_a0 (Or.inl (hw _ (List.mem_of_getElem? (i := 23) rfl))) (hw _ (List.mem_of_getElem? (i := 6) rfl)) (ty := .int) (by decide) rfl rfl (g := (mkF m 41 #[.val (.ref a0), .val (.int p1)] [(.int (1 : Int32)), (.ref a0), (.int (0 : Int32)), (.ref bb)])) rfl rfl (hb hby d5_41)
  have f33w : Fld Z h33 a0 "com/example/subsumer/subsumer/classification/IntList" "size" "I" (.int (1 : Int32)) := F_size_a0.same W33
  have f34 := E_a0.wr W33
  have f35 := F_items_a0.other W33 (Or.inr (slot_ne (Or.inl (hw _ (List.mem_of_getElem? (i := 16) rfl))) (Or.inl (hw _ (List.mem_of_getElem? (i := 23) rfl))) (by decide) (t := (.array .int)) (t' := .int) (by decide) (by decide)))
  have f37 := V_bb.other W33 (Ne.symm ne_a0_bb)
  have K38 := K0.wr W33 (Or.inl (List.mem_of_getElem? (i := 0) rfl))
  have Z39 := Nat.le_trans Z0 (Keep.of_wr W33).1
  have N40 := Fr.snoc X33 N0 g_a0
  obtain ⟨cl41, Ar41, q41, S41, M41, H41, G41⟩ := id f37
  have hin42 : ¬ ((0 : Int32) < 0 ∨ cl41.slots.size ≤ ((0 : Int32)).toNatClampNeg) := inb_of S41 ⟨by decide, by decide⟩
  obtain ⟨T43, h43, X43, e43, W43, st43⟩ := stI X33 hx hZ e33 Ar41 (j := (0 : Int32)) hin42 (g := (mkF m 45 #[.val (.ref a0), .val (.int p1)] [(.int p1), (.int (0 : Int32)), (.ref bb)])) rfl rfl (hb hby d5_45)
  have V43 : Arv Z h43 bb k_bb .int (4 : Int32) [(.int p1), (.int u1), (.int u2), (.int u3)] (.int (0 : Int32)) := Arv.set Ar41 q41 S41 M41 H41 G41 rfl W43 0 rfl (Nat.le_of_ble_eq_true rfl)
  have f44 := f34.wr W43
  have f45 := f35.other W43 (Or.inl ne_a0_bb)
  have f46 := f33w.other W43 (Or.inl ne_a0_bb)
  have K48 := K38.wr W43 (Or.inl (List.mem_of_getElem? (i := 1) rfl))
  have Z49 := Nat.le_trans Z39 (Keep.of_wr W43).1
  have N50 := Fr.snoc X43 N40 g_bb
  obtain ⟨fs, hr, hrun, hended, hW, hsame⟩ := X43.leave (v := none) (fun _ => rfl)
  refine ⟨_, _, pre0 _ ?_, hrun, hended, _, _, rfl, ?_, ⟨_, rfl⟩, hW, hsame.mono (by decide) (by decide)⟩
  · skip
    show Steps p.tables e below (s₁.setTop (mkF m 0 #[.val (.ref a0), .val (.int p1)] [])) _
    refine XS.aloadN X0.here hx rfl (hb hby d5_0) rfl rfl ?_
    show Steps p.tables e below (s₁.setTop (mkF m 1 #[.val (.ref a0), .val (.int p1)] [(.ref a0)])) _
    refine st28 _ ?_
    show Steps p.tables e below (T28.setTop (mkF m 4 #[.val (.ref a0), .val (.int p1)] [(.int (0 : Int32))])) _
    refine XS.aloadN X28.here hx rfl (hb hby d5_4) rfl rfl ?_
    show Steps p.tables e below (T28.setTop (mkF m 5 #[.val (.ref a0), .val (.int p1)] [(.ref a0), (.int (0 : Int32))])) _
    refine st29 _ ?_
    show Steps p.tables e below (T29.setTop (mkF m 8 #[.val (.ref a0), .val (.int p1)] [(.ref bb), (.int (0 : Int32))])) _
    refine X29.arraylength hx (by rw [e29]; exact Ar30.1) (State.isArrayOf_alike hZ.alike Ar30.2.1) (g := (mkF m 8 #[.val (.ref a0), .val (.int p1)] [(.ref bb), (.int (0 : Int32))])) rfl rfl (hb hby d5_8) _ ?_
    rw [len_of S30 M30]
    show Steps p.tables e below (T29.setTop (mkF m 9 #[.val (.ref a0), .val (.int p1)] [(.int (4 : Int32)), (.int (0 : Int32))])) _
    refine XS.icmpYes X29.here hx rfl (pc0 := 9) (pc' := 29) rfl (hb hby d5_9) rfl (feq (by decide : ¬ ((0 : Int32) = (4 : Int32)))).2 (by decide) (by decide) ?_
    show Steps p.tables e below (T29.setTop (mkF m 29 #[.val (.ref a0), .val (.int p1)] [])) _
    refine XS.aloadN X29.here hx rfl (hb hby d5_29) rfl rfl ?_
    show Steps p.tables e below (T29.setTop (mkF m 30 #[.val (.ref a0), .val (.int p1)] [(.ref a0)])) _
    refine st31 _ ?_
    show Steps p.tables e below (T31.setTop (mkF m 33 #[.val (.ref a0), .val (.int p1)] [(.ref bb)])) _
    refine XS.aloadN X31.here hx rfl (hb hby d5_33) rfl rfl ?_
    show Steps p.tables e below (T31.setTop (mkF m 34 #[.val (.ref a0), .val (.int p1)] [(.ref a0), (.ref bb)])) _
    refine XS.dup X31.here hx rfl (hb hby d5_34) rfl rfl ?_
    show Steps p.tables e below (T31.setTop (mkF m 35 #[.val (.ref a0), .val (.int p1)] [(.ref a0), (.ref a0), (.ref bb)])) _
    refine st32 _ ?_
    show Steps p.tables e below (T32.setTop (mkF m 38 #[.val (.ref a0), .val (.int p1)] [(.int (0 : Int32)), (.ref a0), (.ref bb)])) _
    refine XS.dupX1 X32.here hx rfl (hb hby d5_38) rfl rfl rfl ?_
    show Steps p.tables e below (T32.setTop (mkF m 39 #[.val (.ref a0), .val (.int p1)] [(.int (0 : Int32)), (.ref a0), (.int (0 : Int32)), (.ref bb)])) _
    refine XS.iconst X32.here hx rfl (hb hby d5_39) ?_
    show Steps p.tables e below (T32.setTop (mkF m 40 #[.val (.ref a0), .val (.int p1)] [(.int (1 : Int32)), (.int (0 : Int32)), (.ref a0), (.int (0 : Int32)), (.ref bb)])) _
    refine XS.iadd X32.here hx rfl (hb hby d5_40) rfl ?_
    show Steps p.tables e below (T32.setTop (mkF m 41 #[.val (.ref a0), .val (.int p1)] [(.int (1 : Int32)), (.ref a0), (.int (0 : Int32)), (.ref bb)])) _
    refine st33 _ ?_
    show Steps p.tables e below (T33.setTop (mkF m 44 #[.val (.ref a0), .val (.int p1)] [(.int (0 : Int32)), (.ref bb)])) _
    refine XS.iloadN X33.here hx rfl (hb hby d5_44) rfl ?_
    show Steps p.tables e below (T33.setTop (mkF m 45 #[.val (.ref a0), .val (.int p1)] [(.int p1), (.int (0 : Int32)), (.ref bb)])) _
    refine st43 _ ?_
    show Steps p.tables e below (T43.setTop (mkF m 46 #[.val (.ref a0), .val (.int p1)] [])) _
    exact X43.returnOut hx Bd.returns (hb hby d5_46) hr
  · show Q5_4_0 Z a0 p1 bb u0 u1 u2 u3 k_bb h0 n0 _ T43.heap _
    rw [e43]
    exact ⟨rfl, N50, K48, f44, f46, f45, V43⟩
theorem ef5_4_1 (m : MethodId) (x0 : Addr) (x1 : Int32) : entryFrame m #[(.ref x0), (.int x1)] 2 = mkF m 0 #[.val (.ref x0), .val (.int x1)] [] := by first | (simp [entryFrame, mkF, argsToLocals, Value.category]; done) | rfl
abbrev rr5_4_1 : Room := { frames := 0, cells := 0, slots := 0, locals := 0 }
def Q5_4_1 (Z : State) (a0 : Addr) (p1 : Int32) (bb : Addr) (u0 : Int32) (u1 : Int32) (u2 : Int32) (u3 : Int32) (k_bb : ClassId) (h0 : Heap) (n0 : Nat) (v : Option Value) (h : Heap) (L : List Loc) : Prop := v = none ∧ Fr n0 L ∧ Keep h0 h [a0, bb] ∧ Exa Z h a0 "com/example/subsumer/subsumer/classification/IntList" ∧ Fld Z h a0 "com/example/subsumer/subsumer/classification/IntList" "size" "I" (.int (2 : Int32)) ∧ Fld Z h a0 "com/example/subsumer/subsumer/classification/IntList" "items" "[I" (.ref bb) ∧ Arv Z h bb k_bb .int (4 : Int32) [(.int u0), (.int p1), (.int u2), (.int u3)] (.int (0 : Int32))
set_option maxRecDepth 65536 in
set_option maxHeartbeats 40000000 in
theorem rm5_4_1 (l : Launch) (Z : State) (aw : Array Value) (hw : ∀ d ∈ tables_1, d.before aw Z = true) (ws : List Jvm.Cond) (a0 : Addr) (p1 : Int32) (bb : Addr) (u0 : Int32) (u1 : Int32) (u2 : Int32) (u3 : Int32) (k_bb : ClassId) (h0 : Heap) (n0 : Nat) (Z0 : n0 ≤ h0.size) (E_a0 : Exa Z h0 a0 "com/example/subsumer/subsumer/classification/IntList") (F_items_a0 : Fld Z h0 a0 "com/example/subsumer/subsumer/classification/IntList" "items" "[I" (.ref bb)) (F_size_a0 : Fld Z h0 a0 "com/example/subsumer/subsumer/classification/IntList" "size" "I" (.int (1 : Int32))) (V_bb : Arv Z h0 bb k_bb .int (4 : Int32) [(.int u0), (.int u1), (.int u2), (.int u3)] (.int (0 : Int32))) (g_a0 : n0 ≤ a0) (g_bb : n0 ≤ bb) (ne_a0_bb : a0 ≠ bb) :
    MetFree l (⟨"com/example/subsumer/subsumer/classification/IntList", "add", "(I)V"⟩ : MethodName) (head1 (Jvm.Cond.code (⟨"com/example/subsumer/subsumer/classification/IntList", "add", "(I)V"⟩ : MethodName) prog_2_method_2_code 2 none :: ws) rr5_4_1) (fun a U => a = #[(.ref a0), (.int p1)] ∧ Z.Warmed39 U.vm ∧ U.heap = h0) (fun _ _ _ _ _ => True) (fun _ U o U' => ∃ v L, o = .returned v ∧ Q5_4_1 Z a0 p1 bb u0 u1 u2 u3 k_bb h0 n0 v U'.heap L ∧ FrameEnd U o U' L rr5_4_1.cells rr5_4_1.slots) := by
  refine MetFree.of_bodySF (plainFor_of_name pn_1) hisR ?_
  intro p e s m args below meth c s₁ Bd hml0 hP hK
  obtain ⟨rfl, hZ, hh⟩ := hP
  have hx := Bd.exec
  have hby := Bd.bytes
  have hml : c.maxLocals = 2 := hml0
  have hown : s.vm.findClass "com/example/subsumer/subsumer/classification/IntList" = some m.cls := findClass_of_methodNamed Bd.named
  have hnm := (name_of_methodNamed Bd.named Bd.method).1
  have X0 : Stand p l e rr5_4_1 s m #[(.ref a0), (.int p1)] below meth c s₁ [] 0 0 := Stand.of_body Bd
  have e0 : s₁.heap = h0 := by rw [← hh, Bd.state]; rfl
  have N0 := Fr.nil n0
  have K0 := Keep.refl h0 [a0, bb]
  have pre0 : ∀ t, Steps p.tables e below (s₁.setTop (mkF m 0 #[.val (.ref a0), .val (.int p1)] [])) t → Steps p.tables e below (s₁.setTop (entryFrame m #[(.ref a0), (.int p1)] 2)) t := fun t k => castTop (ef5_4_1 m a0 p1) k
  obtain ⟨T51, X51, e51, st51⟩ := getF X0 hx hZ hown (host := "") (Or.inl (hw _ (List.mem_of_getElem? (i := 22) rfl))) Via.refl e0 F_size_a0 (g := (mkF m 1 #[.val (.ref a0), .val (.int p1)] [(.ref a0)])) rfl rfl (hb hby d5_1)
  obtain ⟨T52, X52, e52, st52⟩ := getF X51 hx hZ hown (host := "") (Or.inl (hw _ (List.mem_of_getElem? (i := 15) rfl))) Via.refl e51 F_items_a0 (g := (mkF m 5 #[.val (.ref a0), .val (.int p1)] [(.ref a0), (.int (1 : Int32))])) rfl rfl (hb hby d5_5)
  obtain ⟨cl53, Ar53, q53, S53, M53, H53, G53⟩ := id V_bb
  obtain ⟨T54, X54, e54, st54⟩ := getF X52 hx hZ hown (host := "") (Or.inl (hw _ (List.mem_of_getElem? (i := 15) rfl))) Via.refl e52 F_items_a0 (g := (mkF m 30 #[.val (.ref a0), .val (.int p1)] [(.ref a0)])) rfl rfl (hb hby d5_30)
  obtain ⟨T55, X55, e55, st55⟩ := getF X54 hx hZ hown (host := "") (Or.inl (hw _ (List.mem_of_getElem? (i := 22) rfl))) Via.refl e54 F_size_a0 (g := (mkF m 35 #[.val (.ref a0), .val (.int p1)] [(.ref a0), (.ref a0), (.ref bb)])) rfl rfl (hb hby d5_35)
  obtain ⟨T56, h56, X56, e56, W56, st56⟩ := putF X55 hx hZ hown (host := "") (Or.inl (hw _ (List.mem_of_getElem? (i := 22) rfl))) Via.refl e55 F_size_a0 E_a0 (Or.inl (hw _ (List.mem_of_getElem? (i := 23) rfl))) (hw _ (List.mem_of_getElem? (i := 6) rfl)) (ty := .int) (by decide) rfl rfl (g := (mkF m 41 #[.val (.ref a0), .val (.int p1)] [(.int (2 : Int32)), (.ref a0), (.int (1 : Int32)), (.ref bb)])) rfl rfl (hb hby d5_41)
  have f56w : Fld Z h56 a0 "com/example/subsumer/subsumer/classification/IntList" "size" "I" (.int (2 : Int32)) := F_size_a0.same W56
  have f57 := E_a0.wr W56
  have f58 := F_items_a0.other W56 (Or.inr (slot_ne (Or.inl (hw _ (List.mem_of_getElem? (i := 16) rfl))) (Or.inl (hw _ (List.mem_of_getElem? (i := 23) rfl))) (by decide) (t := (.array .int)) (t' := .int) (by decide) (by decide)))
  have f60 := V_bb.other W56 (Ne.symm ne_a0_bb)
  have K61 := K0.wr W56 (Or.inl (List.mem_of_getElem? (i := 0) rfl))
  have Z62 := Nat.le_trans Z0 (Keep.of_wr W56).1
  have N63 := Fr.snoc X56 N0 g_a0
  obtain ⟨cl64, Ar64, q64, S64, M64, H64, G64⟩ := id f60
  have hin65 : ¬ ((1 : Int32) < 0 ∨ cl64.slots.size ≤ ((1 : Int32)).toNatClampNeg) := inb_of S64 ⟨by decide, by decide⟩
  obtain ⟨T66, h66, X66, e66, W66, st66⟩ := stI X56 hx hZ e56 Ar64 (j := (1 : Int32)) hin65 (g := (mkF m 45 #[.val (.ref a0), .val (.int p1)] [(.int p1), (.int (1 : Int32)), (.ref bb)])) rfl rfl (hb hby d5_45)
  have V66 : Arv Z h66 bb k_bb .int (4 : Int32) [(.int u0), (.int p1), (.int u2), (.int u3)] (.int (0 : Int32)) := Arv.set Ar64 q64 S64 M64 H64 G64 rfl W66 1 rfl (Nat.le_of_ble_eq_true rfl)
  have f67 := f57.wr W66
  have f68 := f58.other W66 (Or.inl ne_a0_bb)
  have f69 := f56w.other W66 (Or.inl ne_a0_bb)
  have K71 := K61.wr W66 (Or.inl (List.mem_of_getElem? (i := 1) rfl))
  have Z72 := Nat.le_trans Z62 (Keep.of_wr W66).1
  have N73 := Fr.snoc X66 N63 g_bb
  obtain ⟨fs, hr, hrun, hended, hW, hsame⟩ := X66.leave (v := none) (fun _ => rfl)
  refine ⟨_, _, pre0 _ ?_, hrun, hended, _, _, rfl, ?_, ⟨_, rfl⟩, hW, hsame.mono (by decide) (by decide)⟩
  · skip
    show Steps p.tables e below (s₁.setTop (mkF m 0 #[.val (.ref a0), .val (.int p1)] [])) _
    refine XS.aloadN X0.here hx rfl (hb hby d5_0) rfl rfl ?_
    show Steps p.tables e below (s₁.setTop (mkF m 1 #[.val (.ref a0), .val (.int p1)] [(.ref a0)])) _
    refine st51 _ ?_
    show Steps p.tables e below (T51.setTop (mkF m 4 #[.val (.ref a0), .val (.int p1)] [(.int (1 : Int32))])) _
    refine XS.aloadN X51.here hx rfl (hb hby d5_4) rfl rfl ?_
    show Steps p.tables e below (T51.setTop (mkF m 5 #[.val (.ref a0), .val (.int p1)] [(.ref a0), (.int (1 : Int32))])) _
    refine st52 _ ?_
    show Steps p.tables e below (T52.setTop (mkF m 8 #[.val (.ref a0), .val (.int p1)] [(.ref bb), (.int (1 : Int32))])) _
    refine X52.arraylength hx (by rw [e52]; exact Ar53.1) (State.isArrayOf_alike hZ.alike Ar53.2.1) (g := (mkF m 8 #[.val (.ref a0), .val (.int p1)] [(.ref bb), (.int (1 : Int32))])) rfl rfl (hb hby d5_8) _ ?_
    rw [len_of S53 M53]
    show Steps p.tables e below (T52.setTop (mkF m 9 #[.val (.ref a0), .val (.int p1)] [(.int (4 : Int32)), (.int (1 : Int32))])) _
    refine XS.icmpYes X52.here hx rfl (pc0 := 9) (pc' := 29) rfl (hb hby d5_9) rfl (feq (by decide : ¬ ((1 : Int32) = (4 : Int32)))).2 (by decide) (by decide) ?_
    show Steps p.tables e below (T52.setTop (mkF m 29 #[.val (.ref a0), .val (.int p1)] [])) _
    refine XS.aloadN X52.here hx rfl (hb hby d5_29) rfl rfl ?_
    show Steps p.tables e below (T52.setTop (mkF m 30 #[.val (.ref a0), .val (.int p1)] [(.ref a0)])) _
    refine st54 _ ?_
    show Steps p.tables e below (T54.setTop (mkF m 33 #[.val (.ref a0), .val (.int p1)] [(.ref bb)])) _
    refine XS.aloadN X54.here hx rfl (hb hby d5_33) rfl rfl ?_
    show Steps p.tables e below (T54.setTop (mkF m 34 #[.val (.ref a0), .val (.int p1)] [(.ref a0), (.ref bb)])) _
    refine XS.dup X54.here hx rfl (hb hby d5_34) rfl rfl ?_
    show Steps p.tables e below (T54.setTop (mkF m 35 #[.val (.ref a0), .val (.int p1)] [(.ref a0), (.ref a0), (.ref bb)])) _
    refine st55 _ ?_
    show Steps p.tables e below (T55.setTop (mkF m 38 #[.val (.ref a0), .val (.int p1)] [(.int (1 : Int32)), (.ref a0), (.ref bb)])) _
    refine XS.dupX1 X55.here hx rfl (hb hby d5_38) rfl rfl rfl ?_
    show Steps p.tables e below (T55.setTop (mkF m 39 #[.val (.ref a0), .val (.int p1)] [(.int (1 : Int32)), (.ref a0), (.int (1 : Int32)), (.ref bb)])) _
    refine XS.iconst X55.here hx rfl (hb hby d5_39) ?_
    show Steps p.tables e below (T55.setTop (mkF m 40 #[.val (.ref a0), .val (.int p1)] [(.int (1 : Int32)), (.int (1 : Int32)), (.ref a0), (.int (1 : Int32)), (.ref bb)])) _
    refine XS.iadd X55.here hx rfl (hb hby d5_40) rfl ?_
    show Steps p.tables e below (T55.setTop (mkF m 41 #[.val (.ref a0), .val (.int p1)] [(.int (2 : Int32)), (.ref a0), (.int (1 : Int32)), (.ref bb)])) _
    refine st56 _ ?_
    show Steps p.tables e below (T56.setTop (mkF m 44 #[.val (.ref a0), .val (.int p1)] [(.int (1 : Int32)), (.ref bb)])) _
    refine XS.iloadN X56.here hx rfl (hb hby d5_44) rfl ?_
    show Steps p.tables e below (T56.setTop (mkF m 45 #[.val (.ref a0), .val (.int p1)] [(.int p1), (.int (1 : Int32)), (.ref bb)])) _
    refine st66 _ ?_
    show Steps p.tables e below (T66.setTop (mkF m 46 #[.val (.ref a0), .val (.int p1)] [])) _
    exact X66.returnOut hx Bd.returns (hb hby d5_46) hr
  · show Q5_4_1 Z a0 p1 bb u0 u1 u2 u3 k_bb h0 n0 _ T66.heap _
    rw [e66]
    exact ⟨rfl, N73, K71, f67, f69, f68, V66⟩
theorem ef5_4_2 (m : MethodId) (x0 : Addr) (x1 : Int32) : entryFrame m #[(.ref x0), (.int x1)] 2 = mkF m 0 #[.val (.ref x0), .val (.int x1)] [] := by first | (simp [entryFrame, mkF, argsToLocals, Value.category]; done) | rfl
abbrev rr5_4_2 : Room := { frames := 0, cells := 0, slots := 0, locals := 0 }
def Q5_4_2 (Z : State) (a0 : Addr) (p1 : Int32) (bb : Addr) (u0 : Int32) (u1 : Int32) (u2 : Int32) (u3 : Int32) (k_bb : ClassId) (h0 : Heap) (n0 : Nat) (v : Option Value) (h : Heap) (L : List Loc) : Prop := v = none ∧ Fr n0 L ∧ Keep h0 h [a0, bb] ∧ Exa Z h a0 "com/example/subsumer/subsumer/classification/IntList" ∧ Fld Z h a0 "com/example/subsumer/subsumer/classification/IntList" "size" "I" (.int (3 : Int32)) ∧ Fld Z h a0 "com/example/subsumer/subsumer/classification/IntList" "items" "[I" (.ref bb) ∧ Arv Z h bb k_bb .int (4 : Int32) [(.int u0), (.int u1), (.int p1), (.int u3)] (.int (0 : Int32))
set_option maxRecDepth 65536 in
set_option maxHeartbeats 40000000 in
theorem rm5_4_2 (l : Launch) (Z : State) (aw : Array Value) (hw : ∀ d ∈ tables_1, d.before aw Z = true) (ws : List Jvm.Cond) (a0 : Addr) (p1 : Int32) (bb : Addr) (u0 : Int32) (u1 : Int32) (u2 : Int32) (u3 : Int32) (k_bb : ClassId) (h0 : Heap) (n0 : Nat) (Z0 : n0 ≤ h0.size) (E_a0 : Exa Z h0 a0 "com/example/subsumer/subsumer/classification/IntList") (F_items_a0 : Fld Z h0 a0 "com/example/subsumer/subsumer/classification/IntList" "items" "[I" (.ref bb)) (F_size_a0 : Fld Z h0 a0 "com/example/subsumer/subsumer/classification/IntList" "size" "I" (.int (2 : Int32))) (V_bb : Arv Z h0 bb k_bb .int (4 : Int32) [(.int u0), (.int u1), (.int u2), (.int u3)] (.int (0 : Int32))) (g_a0 : n0 ≤ a0) (g_bb : n0 ≤ bb) (ne_a0_bb : a0 ≠ bb) :
    MetFree l (⟨"com/example/subsumer/subsumer/classification/IntList", "add", "(I)V"⟩ : MethodName) (head1 (Jvm.Cond.code (⟨"com/example/subsumer/subsumer/classification/IntList", "add", "(I)V"⟩ : MethodName) prog_2_method_2_code 2 none :: ws) rr5_4_2) (fun a U => a = #[(.ref a0), (.int p1)] ∧ Z.Warmed39 U.vm ∧ U.heap = h0) (fun _ _ _ _ _ => True) (fun _ U o U' => ∃ v L, o = .returned v ∧ Q5_4_2 Z a0 p1 bb u0 u1 u2 u3 k_bb h0 n0 v U'.heap L ∧ FrameEnd U o U' L rr5_4_2.cells rr5_4_2.slots) := by
  refine MetFree.of_bodySF (plainFor_of_name pn_1) hisR ?_
  intro p e s m args below meth c s₁ Bd hml0 hP hK
  obtain ⟨rfl, hZ, hh⟩ := hP
  have hx := Bd.exec
  have hby := Bd.bytes
  have hml : c.maxLocals = 2 := hml0
  have hown : s.vm.findClass "com/example/subsumer/subsumer/classification/IntList" = some m.cls := findClass_of_methodNamed Bd.named
  have hnm := (name_of_methodNamed Bd.named Bd.method).1
  have X0 : Stand p l e rr5_4_2 s m #[(.ref a0), (.int p1)] below meth c s₁ [] 0 0 := Stand.of_body Bd
  have e0 : s₁.heap = h0 := by rw [← hh, Bd.state]; rfl
  have N0 := Fr.nil n0
  have K0 := Keep.refl h0 [a0, bb]
  have pre0 : ∀ t, Steps p.tables e below (s₁.setTop (mkF m 0 #[.val (.ref a0), .val (.int p1)] [])) t → Steps p.tables e below (s₁.setTop (entryFrame m #[(.ref a0), (.int p1)] 2)) t := fun t k => castTop (ef5_4_2 m a0 p1) k
  obtain ⟨T74, X74, e74, st74⟩ := getF X0 hx hZ hown (host := "") (Or.inl (hw _ (List.mem_of_getElem? (i := 22) rfl))) Via.refl e0 F_size_a0 (g := (mkF m 1 #[.val (.ref a0), .val (.int p1)] [(.ref a0)])) rfl rfl (hb hby d5_1)
  obtain ⟨T75, X75, e75, st75⟩ := getF X74 hx hZ hown (host := "") (Or.inl (hw _ (List.mem_of_getElem? (i := 15) rfl))) Via.refl e74 F_items_a0 (g := (mkF m 5 #[.val (.ref a0), .val (.int p1)] [(.ref a0), (.int (2 : Int32))])) rfl rfl (hb hby d5_5)
  obtain ⟨cl76, Ar76, q76, S76, M76, H76, G76⟩ := id V_bb
  obtain ⟨T77, X77, e77, st77⟩ := getF X75 hx hZ hown (host := "") (Or.inl (hw _ (List.mem_of_getElem? (i := 15) rfl))) Via.refl e75 F_items_a0 (g := (mkF m 30 #[.val (.ref a0), .val (.int p1)] [(.ref a0)])) rfl rfl (hb hby d5_30)
  obtain ⟨T78, X78, e78, st78⟩ := getF X77 hx hZ hown (host := "") (Or.inl (hw _ (List.mem_of_getElem? (i := 22) rfl))) Via.refl e77 F_size_a0 (g := (mkF m 35 #[.val (.ref a0), .val (.int p1)] [(.ref a0), (.ref a0), (.ref bb)])) rfl rfl (hb hby d5_35)
  obtain ⟨T79, h79, X79, e79, W79, st79⟩ := putF X78 hx hZ hown (host := "") (Or.inl (hw _ (List.mem_of_getElem? (i := 22) rfl))) Via.refl e78 F_size_a0 E_a0 (Or.inl (hw _ (List.mem_of_getElem? (i := 23) rfl))) (hw _ (List.mem_of_getElem? (i := 6) rfl)) (ty := .int) (by decide) rfl rfl (g := (mkF m 41 #[.val (.ref a0), .val (.int p1)] [(.int (3 : Int32)), (.ref a0), (.int (2 : Int32)), (.ref bb)])) rfl rfl (hb hby d5_41)
  have f79w : Fld Z h79 a0 "com/example/subsumer/subsumer/classification/IntList" "size" "I" (.int (3 : Int32)) := F_size_a0.same W79
  have f80 := E_a0.wr W79
  have f81 := F_items_a0.other W79 (Or.inr (slot_ne (Or.inl (hw _ (List.mem_of_getElem? (i := 16) rfl))) (Or.inl (hw _ (List.mem_of_getElem? (i := 23) rfl))) (by decide) (t := (.array .int)) (t' := .int) (by decide) (by decide)))
  have f83 := V_bb.other W79 (Ne.symm ne_a0_bb)
  have K84 := K0.wr W79 (Or.inl (List.mem_of_getElem? (i := 0) rfl))
  have Z85 := Nat.le_trans Z0 (Keep.of_wr W79).1
  have N86 := Fr.snoc X79 N0 g_a0
  obtain ⟨cl87, Ar87, q87, S87, M87, H87, G87⟩ := id f83
  have hin88 : ¬ ((2 : Int32) < 0 ∨ cl87.slots.size ≤ ((2 : Int32)).toNatClampNeg) := inb_of S87 ⟨by decide, by decide⟩
  obtain ⟨T89, h89, X89, e89, W89, st89⟩ := stI X79 hx hZ e79 Ar87 (j := (2 : Int32)) hin88 (g := (mkF m 45 #[.val (.ref a0), .val (.int p1)] [(.int p1), (.int (2 : Int32)), (.ref bb)])) rfl rfl (hb hby d5_45)
  have V89 : Arv Z h89 bb k_bb .int (4 : Int32) [(.int u0), (.int u1), (.int p1), (.int u3)] (.int (0 : Int32)) := Arv.set Ar87 q87 S87 M87 H87 G87 rfl W89 2 rfl (Nat.le_of_ble_eq_true rfl)
  have f90 := f80.wr W89
  have f91 := f81.other W89 (Or.inl ne_a0_bb)
  have f92 := f79w.other W89 (Or.inl ne_a0_bb)
  have K94 := K84.wr W89 (Or.inl (List.mem_of_getElem? (i := 1) rfl))
  have Z95 := Nat.le_trans Z85 (Keep.of_wr W89).1
  have N96 := Fr.snoc X89 N86 g_bb
  obtain ⟨fs, hr, hrun, hended, hW, hsame⟩ := X89.leave (v := none) (fun _ => rfl)
  refine ⟨_, _, pre0 _ ?_, hrun, hended, _, _, rfl, ?_, ⟨_, rfl⟩, hW, hsame.mono (by decide) (by decide)⟩
  · skip
    show Steps p.tables e below (s₁.setTop (mkF m 0 #[.val (.ref a0), .val (.int p1)] [])) _
    refine XS.aloadN X0.here hx rfl (hb hby d5_0) rfl rfl ?_
    show Steps p.tables e below (s₁.setTop (mkF m 1 #[.val (.ref a0), .val (.int p1)] [(.ref a0)])) _
    refine st74 _ ?_
    show Steps p.tables e below (T74.setTop (mkF m 4 #[.val (.ref a0), .val (.int p1)] [(.int (2 : Int32))])) _
    refine XS.aloadN X74.here hx rfl (hb hby d5_4) rfl rfl ?_
    show Steps p.tables e below (T74.setTop (mkF m 5 #[.val (.ref a0), .val (.int p1)] [(.ref a0), (.int (2 : Int32))])) _
    refine st75 _ ?_
    show Steps p.tables e below (T75.setTop (mkF m 8 #[.val (.ref a0), .val (.int p1)] [(.ref bb), (.int (2 : Int32))])) _
    refine X75.arraylength hx (by rw [e75]; exact Ar76.1) (State.isArrayOf_alike hZ.alike Ar76.2.1) (g := (mkF m 8 #[.val (.ref a0), .val (.int p1)] [(.ref bb), (.int (2 : Int32))])) rfl rfl (hb hby d5_8) _ ?_
    rw [len_of S76 M76]
    show Steps p.tables e below (T75.setTop (mkF m 9 #[.val (.ref a0), .val (.int p1)] [(.int (4 : Int32)), (.int (2 : Int32))])) _
    refine XS.icmpYes X75.here hx rfl (pc0 := 9) (pc' := 29) rfl (hb hby d5_9) rfl (feq (by decide : ¬ ((2 : Int32) = (4 : Int32)))).2 (by decide) (by decide) ?_
    show Steps p.tables e below (T75.setTop (mkF m 29 #[.val (.ref a0), .val (.int p1)] [])) _
    refine XS.aloadN X75.here hx rfl (hb hby d5_29) rfl rfl ?_
    show Steps p.tables e below (T75.setTop (mkF m 30 #[.val (.ref a0), .val (.int p1)] [(.ref a0)])) _
    refine st77 _ ?_
    show Steps p.tables e below (T77.setTop (mkF m 33 #[.val (.ref a0), .val (.int p1)] [(.ref bb)])) _
    refine XS.aloadN X77.here hx rfl (hb hby d5_33) rfl rfl ?_
    show Steps p.tables e below (T77.setTop (mkF m 34 #[.val (.ref a0), .val (.int p1)] [(.ref a0), (.ref bb)])) _
    refine XS.dup X77.here hx rfl (hb hby d5_34) rfl rfl ?_
    show Steps p.tables e below (T77.setTop (mkF m 35 #[.val (.ref a0), .val (.int p1)] [(.ref a0), (.ref a0), (.ref bb)])) _
    refine st78 _ ?_
    show Steps p.tables e below (T78.setTop (mkF m 38 #[.val (.ref a0), .val (.int p1)] [(.int (2 : Int32)), (.ref a0), (.ref bb)])) _
    refine XS.dupX1 X78.here hx rfl (hb hby d5_38) rfl rfl rfl ?_
    show Steps p.tables e below (T78.setTop (mkF m 39 #[.val (.ref a0), .val (.int p1)] [(.int (2 : Int32)), (.ref a0), (.int (2 : Int32)), (.ref bb)])) _
    refine XS.iconst X78.here hx rfl (hb hby d5_39) ?_
    show Steps p.tables e below (T78.setTop (mkF m 40 #[.val (.ref a0), .val (.int p1)] [(.int (1 : Int32)), (.int (2 : Int32)), (.ref a0), (.int (2 : Int32)), (.ref bb)])) _
    refine XS.iadd X78.here hx rfl (hb hby d5_40) rfl ?_
    show Steps p.tables e below (T78.setTop (mkF m 41 #[.val (.ref a0), .val (.int p1)] [(.int (3 : Int32)), (.ref a0), (.int (2 : Int32)), (.ref bb)])) _
    refine st79 _ ?_
    show Steps p.tables e below (T79.setTop (mkF m 44 #[.val (.ref a0), .val (.int p1)] [(.int (2 : Int32)), (.ref bb)])) _
    refine XS.iloadN X79.here hx rfl (hb hby d5_44) rfl ?_
    show Steps p.tables e below (T79.setTop (mkF m 45 #[.val (.ref a0), .val (.int p1)] [(.int p1), (.int (2 : Int32)), (.ref bb)])) _
    refine st89 _ ?_
    show Steps p.tables e below (T89.setTop (mkF m 46 #[.val (.ref a0), .val (.int p1)] [])) _
    exact X89.returnOut hx Bd.returns (hb hby d5_46) hr
  · show Q5_4_2 Z a0 p1 bb u0 u1 u2 u3 k_bb h0 n0 _ T89.heap _
    rw [e89]
    exact ⟨rfl, N96, K94, f90, f92, f91, V89⟩
theorem ef5_4_3 (m : MethodId) (x0 : Addr) (x1 : Int32) : entryFrame m #[(.ref x0), (.int x1)] 2 = mkF m 0 #[.val (.ref x0), .val (.int x1)] [] := by first | (simp [entryFrame, mkF, argsToLocals, Value.category]; done) | rfl
abbrev rr5_4_3 : Room := { frames := 0, cells := 0, slots := 0, locals := 0 }
def Q5_4_3 (Z : State) (a0 : Addr) (p1 : Int32) (bb : Addr) (u0 : Int32) (u1 : Int32) (u2 : Int32) (u3 : Int32) (k_bb : ClassId) (h0 : Heap) (n0 : Nat) (v : Option Value) (h : Heap) (L : List Loc) : Prop := v = none ∧ Fr n0 L ∧ Keep h0 h [a0, bb] ∧ Exa Z h a0 "com/example/subsumer/subsumer/classification/IntList" ∧ Fld Z h a0 "com/example/subsumer/subsumer/classification/IntList" "size" "I" (.int (4 : Int32)) ∧ Fld Z h a0 "com/example/subsumer/subsumer/classification/IntList" "items" "[I" (.ref bb) ∧ Arv Z h bb k_bb .int (4 : Int32) [(.int u0), (.int u1), (.int u2), (.int p1)] (.int (0 : Int32))
set_option maxRecDepth 65536 in
set_option maxHeartbeats 40000000 in
theorem rm5_4_3 (l : Launch) (Z : State) (aw : Array Value) (hw : ∀ d ∈ tables_1, d.before aw Z = true) (ws : List Jvm.Cond) (a0 : Addr) (p1 : Int32) (bb : Addr) (u0 : Int32) (u1 : Int32) (u2 : Int32) (u3 : Int32) (k_bb : ClassId) (h0 : Heap) (n0 : Nat) (Z0 : n0 ≤ h0.size) (E_a0 : Exa Z h0 a0 "com/example/subsumer/subsumer/classification/IntList") (F_items_a0 : Fld Z h0 a0 "com/example/subsumer/subsumer/classification/IntList" "items" "[I" (.ref bb)) (F_size_a0 : Fld Z h0 a0 "com/example/subsumer/subsumer/classification/IntList" "size" "I" (.int (3 : Int32))) (V_bb : Arv Z h0 bb k_bb .int (4 : Int32) [(.int u0), (.int u1), (.int u2), (.int u3)] (.int (0 : Int32))) (g_a0 : n0 ≤ a0) (g_bb : n0 ≤ bb) (ne_a0_bb : a0 ≠ bb) :
    MetFree l (⟨"com/example/subsumer/subsumer/classification/IntList", "add", "(I)V"⟩ : MethodName) (head1 (Jvm.Cond.code (⟨"com/example/subsumer/subsumer/classification/IntList", "add", "(I)V"⟩ : MethodName) prog_2_method_2_code 2 none :: ws) rr5_4_3) (fun a U => a = #[(.ref a0), (.int p1)] ∧ Z.Warmed39 U.vm ∧ U.heap = h0) (fun _ _ _ _ _ => True) (fun _ U o U' => ∃ v L, o = .returned v ∧ Q5_4_3 Z a0 p1 bb u0 u1 u2 u3 k_bb h0 n0 v U'.heap L ∧ FrameEnd U o U' L rr5_4_3.cells rr5_4_3.slots) := by
  refine MetFree.of_bodySF (plainFor_of_name pn_1) hisR ?_
  intro p e s m args below meth c s₁ Bd hml0 hP hK
  obtain ⟨rfl, hZ, hh⟩ := hP
  have hx := Bd.exec
  have hby := Bd.bytes
  have hml : c.maxLocals = 2 := hml0
  have hown : s.vm.findClass "com/example/subsumer/subsumer/classification/IntList" = some m.cls := findClass_of_methodNamed Bd.named
  have hnm := (name_of_methodNamed Bd.named Bd.method).1
  have X0 : Stand p l e rr5_4_3 s m #[(.ref a0), (.int p1)] below meth c s₁ [] 0 0 := Stand.of_body Bd
  have e0 : s₁.heap = h0 := by rw [← hh, Bd.state]; rfl
  have N0 := Fr.nil n0
  have K0 := Keep.refl h0 [a0, bb]
  have pre0 : ∀ t, Steps p.tables e below (s₁.setTop (mkF m 0 #[.val (.ref a0), .val (.int p1)] [])) t → Steps p.tables e below (s₁.setTop (entryFrame m #[(.ref a0), (.int p1)] 2)) t := fun t k => castTop (ef5_4_3 m a0 p1) k
  obtain ⟨T97, X97, e97, st97⟩ := getF X0 hx hZ hown (host := "") (Or.inl (hw _ (List.mem_of_getElem? (i := 22) rfl))) Via.refl e0 F_size_a0 (g := (mkF m 1 #[.val (.ref a0), .val (.int p1)] [(.ref a0)])) rfl rfl (hb hby d5_1)
  obtain ⟨T98, X98, e98, st98⟩ := getF X97 hx hZ hown (host := "") (Or.inl (hw _ (List.mem_of_getElem? (i := 15) rfl))) Via.refl e97 F_items_a0 (g := (mkF m 5 #[.val (.ref a0), .val (.int p1)] [(.ref a0), (.int (3 : Int32))])) rfl rfl (hb hby d5_5)
  obtain ⟨cl99, Ar99, q99, S99, M99, H99, G99⟩ := id V_bb
  obtain ⟨T100, X100, e100, st100⟩ := getF X98 hx hZ hown (host := "") (Or.inl (hw _ (List.mem_of_getElem? (i := 15) rfl))) Via.refl e98 F_items_a0 (g := (mkF m 30 #[.val (.ref a0), .val (.int p1)] [(.ref a0)])) rfl rfl (hb hby d5_30)
  obtain ⟨T101, X101, e101, st101⟩ := getF X100 hx hZ hown (host := "") (Or.inl (hw _ (List.mem_of_getElem? (i := 22) rfl))) Via.refl e100 F_size_a0 (g := (mkF m 35 #[.val (.ref a0), .val (.int p1)] [(.ref a0), (.ref a0), (.ref bb)])) rfl rfl (hb hby d5_35)
  obtain ⟨T102, h102, X102, e102, W102, st102⟩ := putF X101 hx hZ hown (host := "") (Or.inl (hw _ (List.mem_of_getElem? (i := 22) rfl))) Via.refl e101 F_size_a0 E_a0 (Or.inl (hw _ (List.mem_of_getElem? (i := 23) rfl))) (hw _ (List.mem_of_getElem? (i := 6) rfl)) (ty := .int) (by decide) rfl rfl (g := (mkF m 41 #[.val (.ref a0), .val (.int p1)] [(.int (4 : Int32)), (.ref a0), (.int (3 : Int32)), (.ref bb)])) rfl rfl (hb hby d5_41)
  have f102w : Fld Z h102 a0 "com/example/subsumer/subsumer/classification/IntList" "size" "I" (.int (4 : Int32)) := F_size_a0.same W102
  have f103 := E_a0.wr W102
  have f104 := F_items_a0.other W102 (Or.inr (slot_ne (Or.inl (hw _ (List.mem_of_getElem? (i := 16) rfl))) (Or.inl (hw _ (List.mem_of_getElem? (i := 23) rfl))) (by decide) (t := (.array .int)) (t' := .int) (by decide) (by decide)))
  have f106 := V_bb.other W102 (Ne.symm ne_a0_bb)
  have K107 := K0.wr W102 (Or.inl (List.mem_of_getElem? (i := 0) rfl))
  have Z108 := Nat.le_trans Z0 (Keep.of_wr W102).1
  have N109 := Fr.snoc X102 N0 g_a0
  obtain ⟨cl110, Ar110, q110, S110, M110, H110, G110⟩ := id f106
  have hin111 : ¬ ((3 : Int32) < 0 ∨ cl110.slots.size ≤ ((3 : Int32)).toNatClampNeg) := inb_of S110 ⟨by decide, by decide⟩
  obtain ⟨T112, h112, X112, e112, W112, st112⟩ := stI X102 hx hZ e102 Ar110 (j := (3 : Int32)) hin111 (g := (mkF m 45 #[.val (.ref a0), .val (.int p1)] [(.int p1), (.int (3 : Int32)), (.ref bb)])) rfl rfl (hb hby d5_45)
  have V112 : Arv Z h112 bb k_bb .int (4 : Int32) [(.int u0), (.int u1), (.int u2), (.int p1)] (.int (0 : Int32)) := Arv.set Ar110 q110 S110 M110 H110 G110 rfl W112 3 rfl (Nat.le_of_ble_eq_true rfl)
  have f113 := f103.wr W112
  have f114 := f104.other W112 (Or.inl ne_a0_bb)
  have f115 := f102w.other W112 (Or.inl ne_a0_bb)
  have K117 := K107.wr W112 (Or.inl (List.mem_of_getElem? (i := 1) rfl))
  have Z118 := Nat.le_trans Z108 (Keep.of_wr W112).1
  have N119 := Fr.snoc X112 N109 g_bb
  obtain ⟨fs, hr, hrun, hended, hW, hsame⟩ := X112.leave (v := none) (fun _ => rfl)
  refine ⟨_, _, pre0 _ ?_, hrun, hended, _, _, rfl, ?_, ⟨_, rfl⟩, hW, hsame.mono (by decide) (by decide)⟩
  · skip
    show Steps p.tables e below (s₁.setTop (mkF m 0 #[.val (.ref a0), .val (.int p1)] [])) _
    refine XS.aloadN X0.here hx rfl (hb hby d5_0) rfl rfl ?_
    show Steps p.tables e below (s₁.setTop (mkF m 1 #[.val (.ref a0), .val (.int p1)] [(.ref a0)])) _
    refine st97 _ ?_
    show Steps p.tables e below (T97.setTop (mkF m 4 #[.val (.ref a0), .val (.int p1)] [(.int (3 : Int32))])) _
    refine XS.aloadN X97.here hx rfl (hb hby d5_4) rfl rfl ?_
    show Steps p.tables e below (T97.setTop (mkF m 5 #[.val (.ref a0), .val (.int p1)] [(.ref a0), (.int (3 : Int32))])) _
    refine st98 _ ?_
    show Steps p.tables e below (T98.setTop (mkF m 8 #[.val (.ref a0), .val (.int p1)] [(.ref bb), (.int (3 : Int32))])) _
    refine X98.arraylength hx (by rw [e98]; exact Ar99.1) (State.isArrayOf_alike hZ.alike Ar99.2.1) (g := (mkF m 8 #[.val (.ref a0), .val (.int p1)] [(.ref bb), (.int (3 : Int32))])) rfl rfl (hb hby d5_8) _ ?_
    rw [len_of S99 M99]
    show Steps p.tables e below (T98.setTop (mkF m 9 #[.val (.ref a0), .val (.int p1)] [(.int (4 : Int32)), (.int (3 : Int32))])) _
    refine XS.icmpYes X98.here hx rfl (pc0 := 9) (pc' := 29) rfl (hb hby d5_9) rfl (feq (by decide : ¬ ((3 : Int32) = (4 : Int32)))).2 (by decide) (by decide) ?_
    show Steps p.tables e below (T98.setTop (mkF m 29 #[.val (.ref a0), .val (.int p1)] [])) _
    refine XS.aloadN X98.here hx rfl (hb hby d5_29) rfl rfl ?_
    show Steps p.tables e below (T98.setTop (mkF m 30 #[.val (.ref a0), .val (.int p1)] [(.ref a0)])) _
    refine st100 _ ?_
    show Steps p.tables e below (T100.setTop (mkF m 33 #[.val (.ref a0), .val (.int p1)] [(.ref bb)])) _
    refine XS.aloadN X100.here hx rfl (hb hby d5_33) rfl rfl ?_
    show Steps p.tables e below (T100.setTop (mkF m 34 #[.val (.ref a0), .val (.int p1)] [(.ref a0), (.ref bb)])) _
    refine XS.dup X100.here hx rfl (hb hby d5_34) rfl rfl ?_
    show Steps p.tables e below (T100.setTop (mkF m 35 #[.val (.ref a0), .val (.int p1)] [(.ref a0), (.ref a0), (.ref bb)])) _
    refine st101 _ ?_
    show Steps p.tables e below (T101.setTop (mkF m 38 #[.val (.ref a0), .val (.int p1)] [(.int (3 : Int32)), (.ref a0), (.ref bb)])) _
    refine XS.dupX1 X101.here hx rfl (hb hby d5_38) rfl rfl rfl ?_
    show Steps p.tables e below (T101.setTop (mkF m 39 #[.val (.ref a0), .val (.int p1)] [(.int (3 : Int32)), (.ref a0), (.int (3 : Int32)), (.ref bb)])) _
    refine XS.iconst X101.here hx rfl (hb hby d5_39) ?_
    show Steps p.tables e below (T101.setTop (mkF m 40 #[.val (.ref a0), .val (.int p1)] [(.int (1 : Int32)), (.int (3 : Int32)), (.ref a0), (.int (3 : Int32)), (.ref bb)])) _
    refine XS.iadd X101.here hx rfl (hb hby d5_40) rfl ?_
    show Steps p.tables e below (T101.setTop (mkF m 41 #[.val (.ref a0), .val (.int p1)] [(.int (4 : Int32)), (.ref a0), (.int (3 : Int32)), (.ref bb)])) _
    refine st102 _ ?_
    show Steps p.tables e below (T102.setTop (mkF m 44 #[.val (.ref a0), .val (.int p1)] [(.int (3 : Int32)), (.ref bb)])) _
    refine XS.iloadN X102.here hx rfl (hb hby d5_44) rfl ?_
    show Steps p.tables e below (T102.setTop (mkF m 45 #[.val (.ref a0), .val (.int p1)] [(.int p1), (.int (3 : Int32)), (.ref bb)])) _
    refine st112 _ ?_
    show Steps p.tables e below (T112.setTop (mkF m 46 #[.val (.ref a0), .val (.int p1)] [])) _
    exact X112.returnOut hx Bd.returns (hb hby d5_46) hr
  · show Q5_4_3 Z a0 p1 bb u0 u1 u2 u3 k_bb h0 n0 _ T112.heap _
    rw [e112]
    exact ⟨rfl, N119, K117, f113, f115, f114, V112⟩
theorem d5_12 : decode prog_2_method_2_code 12 = .ok (.aload_n 0, 1) := by decide +kernel
theorem d5_13 : decode prog_2_method_2_code 13 = .ok (.aload_n 0, 1) := by decide +kernel
theorem d5_14 : decode prog_2_method_2_code 14 = .ok (.getfield 7, 3) := by decide +kernel
theorem d5_17 : decode prog_2_method_2_code 17 = .ok (.aload_n 0, 1) := by decide +kernel
theorem d5_18 : decode prog_2_method_2_code 18 = .ok (.getfield 13, 3) := by decide +kernel
theorem d5_21 : decode prog_2_method_2_code 21 = .ok (.iconst 2, 1) := by decide +kernel
theorem d5_22 : decode prog_2_method_2_code 22 = .ok (.imul, 1) := by decide +kernel
theorem pd_3 : parseMethodDescriptor "([II)[I" = some ⟨[(.array .int), .int], some (.array .int)⟩ := by decide +kernel
theorem d5_23 : decode prog_2_method_2_code 23 = .ok (.invokestatic 17, 3) := by decide +kernel
theorem d5_26 : decode prog_2_method_2_code 26 = .ok (.putfield 7, 3) := by decide +kernel
theorem ef5_4_4 (m : MethodId) (x0 : Addr) (x1 : Int32) : entryFrame m #[(.ref x0), (.int x1)] 2 = mkF m 0 #[.val (.ref x0), .val (.int x1)] [] := by first | (simp [entryFrame, mkF, argsToLocals, Value.category]; done) | rfl
abbrev rr5_4_4 : Room := { frames := 2, cells := 1, slots := 8, locals := 33 }
def Q5_4_4 (Z : State) (a0 : Addr) (p1 : Int32) (bb : Addr) (u0 : Int32) (u1 : Int32) (u2 : Int32) (u3 : Int32) (k_bb : ClassId) (h0 : Heap) (n0 : Nat) (v : Option Value) (h : Heap) (L : List Loc) : Prop := ∃ (x0 : Addr) (y0 : ClassId), v = none ∧ Fr n0 L ∧ Keep h0 h [a0] ∧ n0 ≤ x0 ∧ h0.size ≤ x0 ∧ Exa Z h a0 "com/example/subsumer/subsumer/classification/IntList" ∧ Fld Z h a0 "com/example/subsumer/subsumer/classification/IntList" "size" "I" (.int (5 : Int32)) ∧ Fld Z h a0 "com/example/subsumer/subsumer/classification/IntList" "items" "[I" (.ref x0) ∧ Arv Z h x0 y0 .int (8 : Int32) [(.int u0), (.int u1), (.int u2), (.int u3), (.int p1), (.int (0 : Int32)), (.int (0 : Int32)), (.int (0 : Int32))] (.int (0 : Int32))
set_option maxRecDepth 65536 in
set_option maxHeartbeats 40000000 in
theorem rm5_4_4 (l : Launch) (Z : State) (aw : Array Value) (hw : ∀ d ∈ tables_1, d.before aw Z = true) (ws : List Jvm.Cond) (a0 : Addr) (p1 : Int32) (bb : Addr) (u0 : Int32) (u1 : Int32) (u2 : Int32) (u3 : Int32) (k_bb : ClassId) (h0 : Heap) (n0 : Nat) (Z0 : n0 ≤ h0.size) (E_a0 : Exa Z h0 a0 "com/example/subsumer/subsumer/classification/IntList") (F_items_a0 : Fld Z h0 a0 "com/example/subsumer/subsumer/classification/IntList" "items" "[I" (.ref bb)) (F_size_a0 : Fld Z h0 a0 "com/example/subsumer/subsumer/classification/IntList" "size" "I" (.int (4 : Int32))) (V_bb : Arv Z h0 bb k_bb .int (4 : Int32) [(.int u0), (.int u1), (.int u2), (.int u3)] (.int (0 : Int32))) (g_a0 : n0 ≤ a0) (ne_a0_bb : a0 ≠ bb) :
    MetFree l (⟨"com/example/subsumer/subsumer/classification/IntList", "add", "(I)V"⟩ : MethodName) (head1 (Jvm.Cond.code (⟨"com/example/subsumer/subsumer/classification/IntList", "add", "(I)V"⟩ : MethodName) prog_2_method_2_code 2 none :: ws) rr5_4_4) (fun a U => a = #[(.ref a0), (.int p1)] ∧ Z.Warmed39 U.vm ∧ U.heap = h0) (fun _ _ _ _ _ => True) (fun _ U o U' => ∃ v L, o = .returned v ∧ Q5_4_4 Z a0 p1 bb u0 u1 u2 u3 k_bb h0 n0 v U'.heap L ∧ FrameEnd U o U' L rr5_4_4.cells rr5_4_4.slots) := by
  refine MetFree.of_bodySF (plainFor_of_name pn_1) hisR ?_
  intro p e s m args below meth c s₁ Bd hml0 hP hK
  obtain ⟨rfl, hZ, hh⟩ := hP
  have hx := Bd.exec
  have hby := Bd.bytes
  have hml : c.maxLocals = 2 := hml0
  have hown : s.vm.findClass "com/example/subsumer/subsumer/classification/IntList" = some m.cls := findClass_of_methodNamed Bd.named
  have hnm := (name_of_methodNamed Bd.named Bd.method).1
  have X0 : Stand p l e rr5_4_4 s m #[(.ref a0), (.int p1)] below meth c s₁ [] 0 0 := Stand.of_body Bd
  have e0 : s₁.heap = h0 := by rw [← hh, Bd.state]; rfl
  have N0 := Fr.nil n0
  have K0 := Keep.refl h0 [a0]
  have pre0 : ∀ t, Steps p.tables e below (s₁.setTop (mkF m 0 #[.val (.ref a0), .val (.int p1)] [])) t → Steps p.tables e below (s₁.setTop (entryFrame m #[(.ref a0), (.int p1)] 2)) t := fun t k => castTop (ef5_4_4 m a0 p1) k
  obtain ⟨T120, X120, e120, st120⟩ := getF X0 hx hZ hown (host := "") (Or.inl (hw _ (List.mem_of_getElem? (i := 22) rfl))) Via.refl e0 F_size_a0 (g := (mkF m 1 #[.val (.ref a0), .val (.int p1)] [(.ref a0)])) rfl rfl (hb hby d5_1)
  obtain ⟨T121, X121, e121, st121⟩ := getF X120 hx hZ hown (host := "") (Or.inl (hw _ (List.mem_of_getElem? (i := 15) rfl))) Via.refl e120 F_items_a0 (g := (mkF m 5 #[.val (.ref a0), .val (.int p1)] [(.ref a0), (.int (4 : Int32))])) rfl rfl (hb hby d5_5)
  obtain ⟨cl122, Ar122, q122, S122, M122, H122, G122⟩ := id V_bb
  obtain ⟨T123, X123, e123, st123⟩ := getF X121 hx hZ hown (host := "") (Or.inl (hw _ (List.mem_of_getElem? (i := 15) rfl))) Via.refl e121 F_items_a0 (g := (mkF m 14 #[.val (.ref a0), .val (.int p1)] [(.ref a0), (.ref a0)])) rfl rfl (hb hby d5_14)
  obtain ⟨T124, X124, e124, st124⟩ := getF X123 hx hZ hown (host := "") (Or.inl (hw _ (List.mem_of_getElem? (i := 22) rfl))) Via.refl e123 F_size_a0 (g := (mkF m 18 #[.val (.ref a0), .val (.int p1)] [(.ref a0), (.ref bb), (.ref a0)])) rfl rfl (hb hby d5_18)
  obtain ⟨_, _, ⟨T125, L125, k125, n125⟩, -, X125, ⟨Lc125, hQ125, l125, y125, z125⟩, st125⟩ := Jvm.LawKit.callS X124 hx (y := (⟨"java/util/Arrays", "copyOf", "([II)[I"⟩ : MethodName)) hown (mvT hZ (hw _ (List.mem_of_getElem? (i := 34) rfl))) (mvT hZ (hw _ (List.mem_of_getElem? (i := 35) rfl))) (mvT hZ (hw _ (List.mem_of_getElem? (i := 36) rfl))) (mvT hZ (hw _ (List.mem_of_getElem? (i := 37) rfl))) (by decide) (backOf (W := 1) (rm7 l Z aw hw [] bb u0 u1 u2 u3 k_bb h0 n0 Z0 V_bb) hZ (hw _ (List.mem_of_getElem? (i := 37) rfl)) (hw _ (List.mem_of_getElem? (i := 36) rfl)) (by decide) (by decide)) (g := (mkF m 23 #[.val (.ref a0), .val (.int p1)] [(.int (8 : Int32)), (.ref bb), (.ref a0)])) rfl (by rw [hml]; rfl) (argsL := [(.ref bb), (.int (8 : Int32))]) (rest := [(.ref a0)]) (lenOf pd_3 rfl) rfl (by show 2 * 0 + _ ≤ _; exact Nat.le_of_eq rfl) (hb hby d5_23) (fun _ _ => ⟨rfl, e124, (by decide : 0 + 1 ≤ _), (by decide : 0 + 8 ≤ _)⟩)
  dsimp only [Pt.U, Pt.locs, Pt.cells, Pt.slots] at X125 l125 y125 z125 st125 hQ125
  subst l125 y125 z125
  obtain ⟨h125, e125⟩ : ∃ z, T125.heap = z := ⟨_, rfl⟩
  rw [e125] at hQ125
  obtain ⟨cx0125, cy0125, rfl, N125q, K125q, g_cx0125, zz_cx0125, f126⟩ := hQ125
  have f127 := E_a0.keep K125q
  have f128 := F_items_a0.keep K125q nin0
  have f129 := F_size_a0.keep K125q nin0
  have f130 := V_bb.keep K125q nin0
  have ne131 : a0 ≠ cx0125 := Nat.ne_of_lt (Nat.lt_of_lt_of_le E_a0.lt zz_cx0125)
  have ne132 : bb ≠ cx0125 := Nat.ne_of_lt (Nat.lt_of_lt_of_le V_bb.lt zz_cx0125)
  have sz_cx0125 : h0.size ≤ cx0125 := Nat.le_trans K0.1 zz_cx0125
  have K125 := K0.trans K125q all0
  have Z125 := Nat.le_trans Z0 K125q.1
  have N125 := Fr.app N0 N125q
  obtain ⟨T133, h133, X133, e133, W133, st133⟩ := putF X125 hx hZ hown (host := "") (Or.inl (hw _ (List.mem_of_getElem? (i := 15) rfl))) Via.refl e125 f128 f127 (Or.inl (hw _ (List.mem_of_getElem? (i := 16) rfl))) (hw _ (List.mem_of_getElem? (i := 6) rfl)) (ty := (.array .int)) (by decide) rfl rfl (g := (mkF m 26 #[.val (.ref a0), .val (.int p1)] [(.ref cx0125), (.ref a0)])) rfl rfl (hb hby d5_26)
  have f133w : Fld Z h133 a0 "com/example/subsumer/subsumer/classification/IntList" "items" "[I" (.ref cx0125) := f128.same W133
  have f134 := f127.wr W133
  have f136 := f129.other W133 (Or.inr (slot_ne (Or.inl (hw _ (List.mem_of_getElem? (i := 23) rfl))) (Or.inl (hw _ (List.mem_of_getElem? (i := 16) rfl))) (by decide) (t := .int) (t' := (.array .int)) (by decide) (by decide)))
  have f137 := f130.other W133 (Ne.symm ne_a0_bb)
  have f138 := f126.other W133 (Ne.symm ne131)
  have K139 := K125.wr W133 (Or.inl (List.mem_of_getElem? (i := 0) rfl))
  have Z140 := Nat.le_trans Z125 (Keep.of_wr W133).1
  have N141 := Fr.snoc X133 N125 g_a0
  obtain ⟨T142, X142, e142, st142⟩ := getF X133 hx hZ hown (host := "") (Or.inl (hw _ (List.mem_of_getElem? (i := 15) rfl))) Via.refl e133 f133w (g := (mkF m 30 #[.val (.ref a0), .val (.int p1)] [(.ref a0)])) rfl rfl (hb hby d5_30)
  obtain ⟨T143, X143, e143, st143⟩ := getF X142 hx hZ hown (host := "") (Or.inl (hw _ (List.mem_of_getElem? (i := 22) rfl))) Via.refl e142 f136 (g := (mkF m 35 #[.val (.ref a0), .val (.int p1)] [(.ref a0), (.ref a0), (.ref cx0125)])) rfl rfl (hb hby d5_35)
  obtain ⟨T144, h144, X144, e144, W144, st144⟩ := putF X143 hx hZ hown (host := "") (Or.inl (hw _ (List.mem_of_getElem? (i := 22) rfl))) Via.refl e143 f136 f134 (Or.inl (hw _ (List.mem_of_getElem? (i := 23) rfl))) (hw _ (List.mem_of_getElem? (i := 6) rfl)) (ty := .int) (by decide) rfl rfl (g := (mkF m 41 #[.val (.ref a0), .val (.int p1)] [(.int (5 : Int32)), (.ref a0), (.int (4 : Int32)), (.ref cx0125)])) rfl rfl (hb hby d5_41)
  have f144w : Fld Z h144 a0 "com/example/subsumer/subsumer/classification/IntList" "size" "I" (.int (5 : Int32)) := f136.same W144
  have f145 := f134.wr W144
  have f146 := f133w.other W144 (Or.inr (slot_ne (Or.inl (hw _ (List.mem_of_getElem? (i := 16) rfl))) (Or.inl (hw _ (List.mem_of_getElem? (i := 23) rfl))) (by decide) (t := (.array .int)) (t' := .int) (by decide) (by decide)))
  have f148 := f137.other W144 (Ne.symm ne_a0_bb)
  have f149 := f138.other W144 (Ne.symm ne131)
  have K150 := K139.wr W144 (Or.inl (List.mem_of_getElem? (i := 0) rfl))
  have Z151 := Nat.le_trans Z140 (Keep.of_wr W144).1
  have N152 := Fr.snoc X144 N141 g_a0
  obtain ⟨cl153, Ar153, q153, S153, M153, H153, G153⟩ := id f149
  have hin154 : ¬ ((4 : Int32) < 0 ∨ cl153.slots.size ≤ ((4 : Int32)).toNatClampNeg) := inb_of S153 ⟨by decide, by decide⟩
  obtain ⟨T155, h155, X155, e155, W155, st155⟩ := stI X144 hx hZ e144 Ar153 (j := (4 : Int32)) hin154 (g := (mkF m 45 #[.val (.ref a0), .val (.int p1)] [(.int p1), (.int (4 : Int32)), (.ref cx0125)])) rfl rfl (hb hby d5_45)
  have V155 : Arv Z h155 cx0125 cy0125 .int (8 : Int32) [(.int u0), (.int u1), (.int u2), (.int u3), (.int p1), (.int (0 : Int32)), (.int (0 : Int32)), (.int (0 : Int32))] (.int (0 : Int32)) := Arv.set Ar153 q153 S153 M153 H153 G153 rfl W155 4 rfl (Nat.le_of_ble_eq_true rfl)
  have f156 := f145.wr W155
  have f157 := f146.other W155 (Or.inl ne131)
  have f158 := f144w.other W155 (Or.inl ne131)
  have f159 := f148.other W155 ne132
  have K161 := K150.wr W155 (Or.inr sz_cx0125)
  have Z162 := Nat.le_trans Z151 (Keep.of_wr W155).1
  have N163 := Fr.snoc X155 N152 g_cx0125
  obtain ⟨fs, hr, hrun, hended, hW, hsame⟩ := X155.leave (v := none) (fun _ => rfl)
  refine ⟨_, _, pre0 _ ?_, hrun, hended, _, _, rfl, ?_, ⟨_, rfl⟩, hW, hsame.mono (by decide) (by decide)⟩
  · skip
    show Steps p.tables e below (s₁.setTop (mkF m 0 #[.val (.ref a0), .val (.int p1)] [])) _
    refine XS.aloadN X0.here hx rfl (hb hby d5_0) rfl rfl ?_
    show Steps p.tables e below (s₁.setTop (mkF m 1 #[.val (.ref a0), .val (.int p1)] [(.ref a0)])) _
    refine st120 _ ?_
    show Steps p.tables e below (T120.setTop (mkF m 4 #[.val (.ref a0), .val (.int p1)] [(.int (4 : Int32))])) _
    refine XS.aloadN X120.here hx rfl (hb hby d5_4) rfl rfl ?_
    show Steps p.tables e below (T120.setTop (mkF m 5 #[.val (.ref a0), .val (.int p1)] [(.ref a0), (.int (4 : Int32))])) _
    refine st121 _ ?_
    show Steps p.tables e below (T121.setTop (mkF m 8 #[.val (.ref a0), .val (.int p1)] [(.ref bb), (.int (4 : Int32))])) _
    refine X121.arraylength hx (by rw [e121]; exact Ar122.1) (State.isArrayOf_alike hZ.alike Ar122.2.1) (g := (mkF m 8 #[.val (.ref a0), .val (.int p1)] [(.ref bb), (.int (4 : Int32))])) rfl rfl (hb hby d5_8) _ ?_
    rw [len_of S122 M122]
    show Steps p.tables e below (T121.setTop (mkF m 9 #[.val (.ref a0), .val (.int p1)] [(.int (4 : Int32)), (.int (4 : Int32))])) _
    refine XS.icmpNo X121.here hx rfl (hb hby d5_9) rfl (teq (rfl : (4 : Int32) = (4 : Int32))).2 ?_
    show Steps p.tables e below (T121.setTop (mkF m 12 #[.val (.ref a0), .val (.int p1)] [])) _
    refine XS.aloadN X121.here hx rfl (hb hby d5_12) rfl rfl ?_
    show Steps p.tables e below (T121.setTop (mkF m 13 #[.val (.ref a0), .val (.int p1)] [(.ref a0)])) _
    refine XS.aloadN X121.here hx rfl (hb hby d5_13) rfl rfl ?_
    show Steps p.tables e below (T121.setTop (mkF m 14 #[.val (.ref a0), .val (.int p1)] [(.ref a0), (.ref a0)])) _
    refine st123 _ ?_
    show Steps p.tables e below (T123.setTop (mkF m 17 #[.val (.ref a0), .val (.int p1)] [(.ref bb), (.ref a0)])) _
    refine XS.aloadN X123.here hx rfl (hb hby d5_17) rfl rfl ?_
    show Steps p.tables e below (T123.setTop (mkF m 18 #[.val (.ref a0), .val (.int p1)] [(.ref a0), (.ref bb), (.ref a0)])) _
    refine st124 _ ?_
    show Steps p.tables e below (T124.setTop (mkF m 21 #[.val (.ref a0), .val (.int p1)] [(.int (4 : Int32)), (.ref bb), (.ref a0)])) _
    refine XS.iconst X124.here hx rfl (hb hby d5_21) ?_
    show Steps p.tables e below (T124.setTop (mkF m 22 #[.val (.ref a0), .val (.int p1)] [(.int (2 : Int32)), (.int (4 : Int32)), (.ref bb), (.ref a0)])) _
    refine XS.imul X124.here hx rfl (hb hby d5_22) rfl ?_
    show Steps p.tables e below (T124.setTop (mkF m 23 #[.val (.ref a0), .val (.int p1)] [(.int (8 : Int32)), (.ref bb), (.ref a0)])) _
    refine st125 _ ?_
    show Steps p.tables e below (T125.setTop (mkF m 26 #[.val (.ref a0), .val (.int p1)] [(.ref cx0125), (.ref a0)])) _
    refine st133 _ ?_
    show Steps p.tables e below (T133.setTop (mkF m 29 #[.val (.ref a0), .val (.int p1)] [])) _
    refine XS.aloadN X133.here hx rfl (hb hby d5_29) rfl rfl ?_
    show Steps p.tables e below (T133.setTop (mkF m 30 #[.val (.ref a0), .val (.int p1)] [(.ref a0)])) _
    refine st142 _ ?_
    show Steps p.tables e below (T142.setTop (mkF m 33 #[.val (.ref a0), .val (.int p1)] [(.ref cx0125)])) _
    refine XS.aloadN X142.here hx rfl (hb hby d5_33) rfl rfl ?_
    show Steps p.tables e below (T142.setTop (mkF m 34 #[.val (.ref a0), .val (.int p1)] [(.ref a0), (.ref cx0125)])) _
    refine XS.dup X142.here hx rfl (hb hby d5_34) rfl rfl ?_
    show Steps p.tables e below (T142.setTop (mkF m 35 #[.val (.ref a0), .val (.int p1)] [(.ref a0), (.ref a0), (.ref cx0125)])) _
    refine st143 _ ?_
    show Steps p.tables e below (T143.setTop (mkF m 38 #[.val (.ref a0), .val (.int p1)] [(.int (4 : Int32)), (.ref a0), (.ref cx0125)])) _
    refine XS.dupX1 X143.here hx rfl (hb hby d5_38) rfl rfl rfl ?_
    show Steps p.tables e below (T143.setTop (mkF m 39 #[.val (.ref a0), .val (.int p1)] [(.int (4 : Int32)), (.ref a0), (.int (4 : Int32)), (.ref cx0125)])) _
    refine XS.iconst X143.here hx rfl (hb hby d5_39) ?_
    show Steps p.tables e below (T143.setTop (mkF m 40 #[.val (.ref a0), .val (.int p1)] [(.int (1 : Int32)), (.int (4 : Int32)), (.ref a0), (.int (4 : Int32)), (.ref cx0125)])) _
    refine XS.iadd X143.here hx rfl (hb hby d5_40) rfl ?_
    show Steps p.tables e below (T143.setTop (mkF m 41 #[.val (.ref a0), .val (.int p1)] [(.int (5 : Int32)), (.ref a0), (.int (4 : Int32)), (.ref cx0125)])) _
    refine st144 _ ?_
    show Steps p.tables e below (T144.setTop (mkF m 44 #[.val (.ref a0), .val (.int p1)] [(.int (4 : Int32)), (.ref cx0125)])) _
    refine XS.iloadN X144.here hx rfl (hb hby d5_44) rfl ?_
    show Steps p.tables e below (T144.setTop (mkF m 45 #[.val (.ref a0), .val (.int p1)] [(.int p1), (.int (4 : Int32)), (.ref cx0125)])) _
    refine st155 _ ?_
    show Steps p.tables e below (T155.setTop (mkF m 46 #[.val (.ref a0), .val (.int p1)] [])) _
    exact X155.returnOut hx Bd.returns (hb hby d5_46) hr
  · show Q5_4_4 Z a0 p1 bb u0 u1 u2 u3 k_bb h0 n0 _ T155.heap _
    rw [e155]
    exact ⟨cx0125, cy0125, rfl, N163, K161, g_cx0125, sz_cx0125, f156, f158, f157, V155⟩
theorem d6_0 : decode prog_2_method_7_code 0 = .ok (.aload_n 0, 1) := by decide +kernel
theorem d6_1 : decode prog_2_method_7_code 1 = .ok (.getfield 7, 3) := by decide +kernel
theorem d6_4 : decode prog_2_method_7_code 4 = .ok (.aload_n 0, 1) := by decide +kernel
theorem d6_5 : decode prog_2_method_7_code 5 = .ok (.dup, 1) := by decide +kernel
theorem d6_6 : decode prog_2_method_7_code 6 = .ok (.getfield 13, 3) := by decide +kernel
theorem d6_9 : decode prog_2_method_7_code 9 = .ok (.iconst 1, 1) := by decide +kernel
theorem d6_10 : decode prog_2_method_7_code 10 = .ok (.isub, 1) := by decide +kernel
theorem d6_11 : decode prog_2_method_7_code 11 = .ok (.dup_x1, 1) := by decide +kernel
theorem d6_12 : decode prog_2_method_7_code 12 = .ok (.putfield 13, 3) := by decide +kernel
theorem d6_15 : decode prog_2_method_7_code 15 = .ok (.iaload, 1) := by decide +kernel
theorem d6_16 : decode prog_2_method_7_code 16 = .ok (.ireturn, 1) := by decide +kernel
theorem ef6_4_1 (m : MethodId) (x0 : Addr) : entryFrame m #[(.ref x0)] 1 = mkF m 0 #[.val (.ref x0)] [] := by first | (simp [entryFrame, mkF, argsToLocals, Value.category]; done) | rfl
abbrev rr6_4_1 : Room := { frames := 0, cells := 0, slots := 0, locals := 0 }
def Q6_4_1 (Z : State) (a0 : Addr) (bb : Addr) (u0 : Int32) (u1 : Int32) (u2 : Int32) (u3 : Int32) (k_bb : ClassId) (h0 : Heap) (n0 : Nat) (v : Option Value) (h : Heap) (L : List Loc) : Prop := v = some (.int u0) ∧ Fr n0 L ∧ Keep h0 h [a0] ∧ Exa Z h a0 "com/example/subsumer/subsumer/classification/IntList" ∧ Fld Z h a0 "com/example/subsumer/subsumer/classification/IntList" "size" "I" (.int (0 : Int32)) ∧ Fld Z h a0 "com/example/subsumer/subsumer/classification/IntList" "items" "[I" (.ref bb)
set_option maxRecDepth 65536 in
set_option maxHeartbeats 40000000 in
theorem rm6_4_1 (l : Launch) (Z : State) (aw : Array Value) (hw : ∀ d ∈ tables_1, d.before aw Z = true) (ws : List Jvm.Cond) (a0 : Addr) (bb : Addr) (u0 : Int32) (u1 : Int32) (u2 : Int32) (u3 : Int32) (k_bb : ClassId) (h0 : Heap) (n0 : Nat) (Z0 : n0 ≤ h0.size) (E_a0 : Exa Z h0 a0 "com/example/subsumer/subsumer/classification/IntList") (F_items_a0 : Fld Z h0 a0 "com/example/subsumer/subsumer/classification/IntList" "items" "[I" (.ref bb)) (F_size_a0 : Fld Z h0 a0 "com/example/subsumer/subsumer/classification/IntList" "size" "I" (.int (1 : Int32))) (V_bb : Arv Z h0 bb k_bb .int (4 : Int32) [(.int u0), (.int u1), (.int u2), (.int u3)] (.int (0 : Int32))) (g_a0 : n0 ≤ a0) (ne_a0_bb : a0 ≠ bb) :
    MetFree l (⟨"com/example/subsumer/subsumer/classification/IntList", "pop", "()I"⟩ : MethodName) (head1 (Jvm.Cond.code (⟨"com/example/subsumer/subsumer/classification/IntList", "pop", "()I"⟩ : MethodName) prog_2_method_7_code 1 (some .int) :: ws) rr6_4_1) (fun a U => a = #[(.ref a0)] ∧ Z.Warmed39 U.vm ∧ U.heap = h0) (fun _ _ _ _ _ => True) (fun _ U o U' => ∃ v L, o = .returned v ∧ Q6_4_1 Z a0 bb u0 u1 u2 u3 k_bb h0 n0 v U'.heap L ∧ FrameEnd U o U' L rr6_4_1.cells rr6_4_1.slots) := by
  refine MetFree.of_bodySF (plainFor_of_name pn_1) hisR ?_
  intro p e s m args below meth c s₁ Bd hml0 hP hK
  obtain ⟨rfl, hZ, hh⟩ := hP
  have hx := Bd.exec
  have hby := Bd.bytes
  have hml : c.maxLocals = 1 := hml0
  have hown : s.vm.findClass "com/example/subsumer/subsumer/classification/IntList" = some m.cls := findClass_of_methodNamed Bd.named
  have hnm := (name_of_methodNamed Bd.named Bd.method).1
  have X0 : Stand p l e rr6_4_1 s m #[(.ref a0)] below meth c s₁ [] 0 0 := Stand.of_body Bd
  have e0 : s₁.heap = h0 := by rw [← hh, Bd.state]; rfl
  have N0 := Fr.nil n0
  have K0 := Keep.refl h0 [a0]
  have pre0 : ∀ t, Steps p.tables e below (s₁.setTop (mkF m 0 #[.val (.ref a0)] [])) t → Steps p.tables e below (s₁.setTop (entryFrame m #[(.ref a0)] 1)) t := fun t k => castTop (ef6_4_1 m a0) k
  obtain ⟨T164, X164, e164, st164⟩ := getF X0 hx hZ hown (host := "") (Or.inl (hw _ (List.mem_of_getElem? (i := 15) rfl))) Via.refl e0 F_items_a0 (g := (mkF m 1 #[.val (.ref a0)] [(.ref a0)])) rfl rfl (hb hby d6_1)
  obtain ⟨T165, X165, e165, st165⟩ := getF X164 hx hZ hown (host := "") (Or.inl (hw _ (List.mem_of_getElem? (i := 22) rfl))) Via.refl e164 F_size_a0 (g := (mkF m 6 #[.val (.ref a0)] [(.ref a0), (.ref a0), (.ref bb)])) rfl rfl (hb hby d6_6)
  obtain ⟨T166, h166, X166, e166, W166, st166⟩ := putF X165 hx hZ hown (host := "") (Or.inl (hw _ (List.mem_of_getElem? (i := 22) rfl))) Via.refl e165 F_size_a0 E_a0 (Or.inl (hw _ (List.mem_of_getElem? (i := 23) rfl))) (hw _ (List.mem_of_getElem? (i := 6) rfl)) (ty := .int) (by decide) rfl rfl (g := (mkF m 12 #[.val (.ref a0)] [(.int (0 : Int32)), (.ref a0), (.int (0 : Int32)), (.ref bb)])) rfl rfl (hb hby d6_12)
  have f166w : Fld Z h166 a0 "com/example/subsumer/subsumer/classification/IntList" "size" "I" (.int (0 : Int32)) := F_size_a0.same W166
  have f167 := E_a0.wr W166
  have f168 := F_items_a0.other W166 (Or.inr (slot_ne (Or.inl (hw _ (List.mem_of_getElem? (i := 16) rfl))) (Or.inl (hw _ (List.mem_of_getElem? (i := 23) rfl))) (by decide) (t := (.array .int)) (t' := .int) (by decide) (by decide)))
  have f170 := V_bb.other W166 (Ne.symm ne_a0_bb)
  have K171 := K0.wr W166 (Or.inl (List.mem_of_getElem? (i := 0) rfl))
  have Z172 := Nat.le_trans Z0 (Keep.of_wr W166).1
  have N173 := Fr.snoc X166 N0 g_a0
  obtain ⟨cl174, Ar174, q174, S174, M174, H174, G174⟩ := id f170
  have hin175 : ¬ ((0 : Int32) < 0 ∨ cl174.slots.size ≤ ((0 : Int32)).toNatClampNeg) := inb_of S174 ⟨by decide, by decide⟩
  have hat176 : cl174.slots[((0 : Int32)).toNatClampNeg]? = some (.int u0) := H174.at hin175 rfl
  obtain ⟨fs, hr, hrun, hended, hW, hsame⟩ := X166.leave (v := some (.int u0)) (fun h => by rw [Bd.returns] at h; cases h)
  refine ⟨_, _, pre0 _ ?_, hrun, hended, _, _, rfl, ?_, ⟨_, rfl⟩, hW, hsame.mono (by decide) (by decide)⟩
  · skip
    show Steps p.tables e below (s₁.setTop (mkF m 0 #[.val (.ref a0)] [])) _
    refine XS.aloadN X0.here hx rfl (hb hby d6_0) rfl rfl ?_
    show Steps p.tables e below (s₁.setTop (mkF m 1 #[.val (.ref a0)] [(.ref a0)])) _
    refine st164 _ ?_
    show Steps p.tables e below (T164.setTop (mkF m 4 #[.val (.ref a0)] [(.ref bb)])) _
    refine XS.aloadN X164.here hx rfl (hb hby d6_4) rfl rfl ?_
    show Steps p.tables e below (T164.setTop (mkF m 5 #[.val (.ref a0)] [(.ref a0), (.ref bb)])) _
    refine XS.dup X164.here hx rfl (hb hby d6_5) rfl rfl ?_
    show Steps p.tables e below (T164.setTop (mkF m 6 #[.val (.ref a0)] [(.ref a0), (.ref a0), (.ref bb)])) _
    refine st165 _ ?_
    show Steps p.tables e below (T165.setTop (mkF m 9 #[.val (.ref a0)] [(.int (1 : Int32)), (.ref a0), (.ref bb)])) _
    refine XS.iconst X165.here hx rfl (hb hby d6_9) ?_
    show Steps p.tables e below (T165.setTop (mkF m 10 #[.val (.ref a0)] [(.int (1 : Int32)), (.int (1 : Int32)), (.ref a0), (.ref bb)])) _
    refine XS.isub X165.here hx rfl (hb hby d6_10) rfl ?_
    show Steps p.tables e below (T165.setTop (mkF m 11 #[.val (.ref a0)] [(.int (0 : Int32)), (.ref a0), (.ref bb)])) _
    refine XS.dupX1 X165.here hx rfl (hb hby d6_11) rfl rfl rfl ?_
    show Steps p.tables e below (T165.setTop (mkF m 12 #[.val (.ref a0)] [(.int (0 : Int32)), (.ref a0), (.int (0 : Int32)), (.ref bb)])) _
    refine st166 _ ?_
    show Steps p.tables e below (T166.setTop (mkF m 15 #[.val (.ref a0)] [(.int (0 : Int32)), (.ref bb)])) _
    refine X166.iaload hx (j := (0 : Int32)) (v := (.int u0)) (by rw [e166]; exact Ar174.1) (State.isArrayOf_alike hZ.alike Ar174.2.1) Ar174.2.2 hin175 hat176 (g := (mkF m 15 #[.val (.ref a0)] [(.int (0 : Int32)), (.ref bb)])) rfl rfl (hb hby d6_15) _ ?_
    show Steps p.tables e below (T166.setTop (mkF m 16 #[.val (.ref a0)] [(.int u0)])) _
    exact retOut X166 hx Bd.returns rfl (Or.inl ⟨rfl, Or.inl rfl, _, rfl⟩) (hb hby d6_16) hr
  · show Q6_4_1 Z a0 bb u0 u1 u2 u3 k_bb h0 n0 _ T166.heap _
    rw [e166]
    exact ⟨rfl, N173, K171, f167, f166w, f168⟩
theorem ef6_4_2 (m : MethodId) (x0 : Addr) : entryFrame m #[(.ref x0)] 1 = mkF m 0 #[.val (.ref x0)] [] := by first | (simp [entryFrame, mkF, argsToLocals, Value.category]; done) | rfl
abbrev rr6_4_2 : Room := { frames := 0, cells := 0, slots := 0, locals := 0 }
def Q6_4_2 (Z : State) (a0 : Addr) (bb : Addr) (u0 : Int32) (u1 : Int32) (u2 : Int32) (u3 : Int32) (k_bb : ClassId) (h0 : Heap) (n0 : Nat) (v : Option Value) (h : Heap) (L : List Loc) : Prop := v = some (.int u1) ∧ Fr n0 L ∧ Keep h0 h [a0] ∧ Exa Z h a0 "com/example/subsumer/subsumer/classification/IntList" ∧ Fld Z h a0 "com/example/subsumer/subsumer/classification/IntList" "size" "I" (.int (1 : Int32)) ∧ Fld Z h a0 "com/example/subsumer/subsumer/classification/IntList" "items" "[I" (.ref bb)
set_option maxRecDepth 65536 in
set_option maxHeartbeats 40000000 in
theorem rm6_4_2 (l : Launch) (Z : State) (aw : Array Value) (hw : ∀ d ∈ tables_1, d.before aw Z = true) (ws : List Jvm.Cond) (a0 : Addr) (bb : Addr) (u0 : Int32) (u1 : Int32) (u2 : Int32) (u3 : Int32) (k_bb : ClassId) (h0 : Heap) (n0 : Nat) (Z0 : n0 ≤ h0.size) (E_a0 : Exa Z h0 a0 "com/example/subsumer/subsumer/classification/IntList") (F_items_a0 : Fld Z h0 a0 "com/example/subsumer/subsumer/classification/IntList" "items" "[I" (.ref bb)) (F_size_a0 : Fld Z h0 a0 "com/example/subsumer/subsumer/classification/IntList" "size" "I" (.int (2 : Int32))) (V_bb : Arv Z h0 bb k_bb .int (4 : Int32) [(.int u0), (.int u1), (.int u2), (.int u3)] (.int (0 : Int32))) (g_a0 : n0 ≤ a0) (ne_a0_bb : a0 ≠ bb) :
    MetFree l (⟨"com/example/subsumer/subsumer/classification/IntList", "pop", "()I"⟩ : MethodName) (head1 (Jvm.Cond.code (⟨"com/example/subsumer/subsumer/classification/IntList", "pop", "()I"⟩ : MethodName) prog_2_method_7_code 1 (some .int) :: ws) rr6_4_2) (fun a U => a = #[(.ref a0)] ∧ Z.Warmed39 U.vm ∧ U.heap = h0) (fun _ _ _ _ _ => True) (fun _ U o U' => ∃ v L, o = .returned v ∧ Q6_4_2 Z a0 bb u0 u1 u2 u3 k_bb h0 n0 v U'.heap L ∧ FrameEnd U o U' L rr6_4_2.cells rr6_4_2.slots) := by
  refine MetFree.of_bodySF (plainFor_of_name pn_1) hisR ?_
  intro p e s m args below meth c s₁ Bd hml0 hP hK
  obtain ⟨rfl, hZ, hh⟩ := hP
  have hx := Bd.exec
  have hby := Bd.bytes
  have hml : c.maxLocals = 1 := hml0
  have hown : s.vm.findClass "com/example/subsumer/subsumer/classification/IntList" = some m.cls := findClass_of_methodNamed Bd.named
  have hnm := (name_of_methodNamed Bd.named Bd.method).1
  have X0 : Stand p l e rr6_4_2 s m #[(.ref a0)] below meth c s₁ [] 0 0 := Stand.of_body Bd
  have e0 : s₁.heap = h0 := by rw [← hh, Bd.state]; rfl
  have N0 := Fr.nil n0
  have K0 := Keep.refl h0 [a0]
  have pre0 : ∀ t, Steps p.tables e below (s₁.setTop (mkF m 0 #[.val (.ref a0)] [])) t → Steps p.tables e below (s₁.setTop (entryFrame m #[(.ref a0)] 1)) t := fun t k => castTop (ef6_4_2 m a0) k
  obtain ⟨T177, X177, e177, st177⟩ := getF X0 hx hZ hown (host := "") (Or.inl (hw _ (List.mem_of_getElem? (i := 15) rfl))) Via.refl e0 F_items_a0 (g := (mkF m 1 #[.val (.ref a0)] [(.ref a0)])) rfl rfl (hb hby d6_1)
  obtain ⟨T178, X178, e178, st178⟩ := getF X177 hx hZ hown (host := "") (Or.inl (hw _ (List.mem_of_getElem? (i := 22) rfl))) Via.refl e177 F_size_a0 (g := (mkF m 6 #[.val (.ref a0)] [(.ref a0), (.ref a0), (.ref bb)])) rfl rfl (hb hby d6_6)
  obtain ⟨T179, h179, X179, e179, W179, st179⟩ := putF X178 hx hZ hown (host := "") (Or.inl (hw _ (List.mem_of_getElem? (i := 22) rfl))) Via.refl e178 F_size_a0 E_a0 (Or.inl (hw _ (List.mem_of_getElem? (i := 23) rfl))) (hw _ (List.mem_of_getElem? (i := 6) rfl)) (ty := .int) (by decide) rfl rfl (g := (mkF m 12 #[.val (.ref a0)] [(.int (1 : Int32)), (.ref a0), (.int (1 : Int32)), (.ref bb)])) rfl rfl (hb hby d6_12)
  have f179w : Fld Z h179 a0 "com/example/subsumer/subsumer/classification/IntList" "size" "I" (.int (1 : Int32)) := F_size_a0.same W179
  have f180 := E_a0.wr W179
  have f181 := F_items_a0.other W179 (Or.inr (slot_ne (Or.inl (hw _ (List.mem_of_getElem? (i := 16) rfl))) (Or.inl (hw _ (List.mem_of_getElem? (i := 23) rfl))) (by decide) (t := (.array .int)) (t' := .int) (by decide) (by decide)))
  have f183 := V_bb.other W179 (Ne.symm ne_a0_bb)
  have K184 := K0.wr W179 (Or.inl (List.mem_of_getElem? (i := 0) rfl))
  have Z185 := Nat.le_trans Z0 (Keep.of_wr W179).1
  have N186 := Fr.snoc X179 N0 g_a0
  obtain ⟨cl187, Ar187, q187, S187, M187, H187, G187⟩ := id f183
  have hin188 : ¬ ((1 : Int32) < 0 ∨ cl187.slots.size ≤ ((1 : Int32)).toNatClampNeg) := inb_of S187 ⟨by decide, by decide⟩
  have hat189 : cl187.slots[((1 : Int32)).toNatClampNeg]? = some (.int u1) := H187.at hin188 rfl
  obtain ⟨fs, hr, hrun, hended, hW, hsame⟩ := X179.leave (v := some (.int u1)) (fun h => by rw [Bd.returns] at h; cases h)
  refine ⟨_, _, pre0 _ ?_, hrun, hended, _, _, rfl, ?_, ⟨_, rfl⟩, hW, hsame.mono (by decide) (by decide)⟩
  · skip
    show Steps p.tables e below (s₁.setTop (mkF m 0 #[.val (.ref a0)] [])) _
    refine XS.aloadN X0.here hx rfl (hb hby d6_0) rfl rfl ?_
    show Steps p.tables e below (s₁.setTop (mkF m 1 #[.val (.ref a0)] [(.ref a0)])) _
    refine st177 _ ?_
    show Steps p.tables e below (T177.setTop (mkF m 4 #[.val (.ref a0)] [(.ref bb)])) _
    refine XS.aloadN X177.here hx rfl (hb hby d6_4) rfl rfl ?_
    show Steps p.tables e below (T177.setTop (mkF m 5 #[.val (.ref a0)] [(.ref a0), (.ref bb)])) _
    refine XS.dup X177.here hx rfl (hb hby d6_5) rfl rfl ?_
    show Steps p.tables e below (T177.setTop (mkF m 6 #[.val (.ref a0)] [(.ref a0), (.ref a0), (.ref bb)])) _
    refine st178 _ ?_
    show Steps p.tables e below (T178.setTop (mkF m 9 #[.val (.ref a0)] [(.int (2 : Int32)), (.ref a0), (.ref bb)])) _
    refine XS.iconst X178.here hx rfl (hb hby d6_9) ?_
    show Steps p.tables e below (T178.setTop (mkF m 10 #[.val (.ref a0)] [(.int (1 : Int32)), (.int (2 : Int32)), (.ref a0), (.ref bb)])) _
    refine XS.isub X178.here hx rfl (hb hby d6_10) rfl ?_
    show Steps p.tables e below (T178.setTop (mkF m 11 #[.val (.ref a0)] [(.int (1 : Int32)), (.ref a0), (.ref bb)])) _
    refine XS.dupX1 X178.here hx rfl (hb hby d6_11) rfl rfl rfl ?_
    show Steps p.tables e below (T178.setTop (mkF m 12 #[.val (.ref a0)] [(.int (1 : Int32)), (.ref a0), (.int (1 : Int32)), (.ref bb)])) _
    refine st179 _ ?_
    show Steps p.tables e below (T179.setTop (mkF m 15 #[.val (.ref a0)] [(.int (1 : Int32)), (.ref bb)])) _
    refine X179.iaload hx (j := (1 : Int32)) (v := (.int u1)) (by rw [e179]; exact Ar187.1) (State.isArrayOf_alike hZ.alike Ar187.2.1) Ar187.2.2 hin188 hat189 (g := (mkF m 15 #[.val (.ref a0)] [(.int (1 : Int32)), (.ref bb)])) rfl rfl (hb hby d6_15) _ ?_
    show Steps p.tables e below (T179.setTop (mkF m 16 #[.val (.ref a0)] [(.int u1)])) _
    exact retOut X179 hx Bd.returns rfl (Or.inl ⟨rfl, Or.inl rfl, _, rfl⟩) (hb hby d6_16) hr
  · show Q6_4_2 Z a0 bb u0 u1 u2 u3 k_bb h0 n0 _ T179.heap _
    rw [e179]
    exact ⟨rfl, N186, K184, f180, f179w, f181⟩
theorem ef6_4_3 (m : MethodId) (x0 : Addr) : entryFrame m #[(.ref x0)] 1 = mkF m 0 #[.val (.ref x0)] [] := by first | (simp [entryFrame, mkF, argsToLocals, Value.category]; done) | rfl
abbrev rr6_4_3 : Room := { frames := 0, cells := 0, slots := 0, locals := 0 }
def Q6_4_3 (Z : State) (a0 : Addr) (bb : Addr) (u0 : Int32) (u1 : Int32) (u2 : Int32) (u3 : Int32) (k_bb : ClassId) (h0 : Heap) (n0 : Nat) (v : Option Value) (h : Heap) (L : List Loc) : Prop := v = some (.int u2) ∧ Fr n0 L ∧ Keep h0 h [a0] ∧ Exa Z h a0 "com/example/subsumer/subsumer/classification/IntList" ∧ Fld Z h a0 "com/example/subsumer/subsumer/classification/IntList" "size" "I" (.int (2 : Int32)) ∧ Fld Z h a0 "com/example/subsumer/subsumer/classification/IntList" "items" "[I" (.ref bb)
set_option maxRecDepth 65536 in
set_option maxHeartbeats 40000000 in
theorem rm6_4_3 (l : Launch) (Z : State) (aw : Array Value) (hw : ∀ d ∈ tables_1, d.before aw Z = true) (ws : List Jvm.Cond) (a0 : Addr) (bb : Addr) (u0 : Int32) (u1 : Int32) (u2 : Int32) (u3 : Int32) (k_bb : ClassId) (h0 : Heap) (n0 : Nat) (Z0 : n0 ≤ h0.size) (E_a0 : Exa Z h0 a0 "com/example/subsumer/subsumer/classification/IntList") (F_items_a0 : Fld Z h0 a0 "com/example/subsumer/subsumer/classification/IntList" "items" "[I" (.ref bb)) (F_size_a0 : Fld Z h0 a0 "com/example/subsumer/subsumer/classification/IntList" "size" "I" (.int (3 : Int32))) (V_bb : Arv Z h0 bb k_bb .int (4 : Int32) [(.int u0), (.int u1), (.int u2), (.int u3)] (.int (0 : Int32))) (g_a0 : n0 ≤ a0) (ne_a0_bb : a0 ≠ bb) :
    MetFree l (⟨"com/example/subsumer/subsumer/classification/IntList", "pop", "()I"⟩ : MethodName) (head1 (Jvm.Cond.code (⟨"com/example/subsumer/subsumer/classification/IntList", "pop", "()I"⟩ : MethodName) prog_2_method_7_code 1 (some .int) :: ws) rr6_4_3) (fun a U => a = #[(.ref a0)] ∧ Z.Warmed39 U.vm ∧ U.heap = h0) (fun _ _ _ _ _ => True) (fun _ U o U' => ∃ v L, o = .returned v ∧ Q6_4_3 Z a0 bb u0 u1 u2 u3 k_bb h0 n0 v U'.heap L ∧ FrameEnd U o U' L rr6_4_3.cells rr6_4_3.slots) := by
  refine MetFree.of_bodySF (plainFor_of_name pn_1) hisR ?_
  intro p e s m args below meth c s₁ Bd hml0 hP hK
  obtain ⟨rfl, hZ, hh⟩ := hP
  have hx := Bd.exec
  have hby := Bd.bytes
  have hml : c.maxLocals = 1 := hml0
  have hown : s.vm.findClass "com/example/subsumer/subsumer/classification/IntList" = some m.cls := findClass_of_methodNamed Bd.named
  have hnm := (name_of_methodNamed Bd.named Bd.method).1
  have X0 : Stand p l e rr6_4_3 s m #[(.ref a0)] below meth c s₁ [] 0 0 := Stand.of_body Bd
  have e0 : s₁.heap = h0 := by rw [← hh, Bd.state]; rfl
  have N0 := Fr.nil n0
  have K0 := Keep.refl h0 [a0]
  have pre0 : ∀ t, Steps p.tables e below (s₁.setTop (mkF m 0 #[.val (.ref a0)] [])) t → Steps p.tables e below (s₁.setTop (entryFrame m #[(.ref a0)] 1)) t := fun t k => castTop (ef6_4_3 m a0) k
  obtain ⟨T190, X190, e190, st190⟩ := getF X0 hx hZ hown (host := "") (Or.inl (hw _ (List.mem_of_getElem? (i := 15) rfl))) Via.refl e0 F_items_a0 (g := (mkF m 1 #[.val (.ref a0)] [(.ref a0)])) rfl rfl (hb hby d6_1)
  obtain ⟨T191, X191, e191, st191⟩ := getF X190 hx hZ hown (host := "") (Or.inl (hw _ (List.mem_of_getElem? (i := 22) rfl))) Via.refl e190 F_size_a0 (g := (mkF m 6 #[.val (.ref a0)] [(.ref a0), (.ref a0), (.ref bb)])) rfl rfl (hb hby d6_6)
  obtain ⟨T192, h192, X192, e192, W192, st192⟩ := putF X191 hx hZ hown (host := "") (Or.inl (hw _ (List.mem_of_getElem? (i := 22) rfl))) Via.refl e191 F_size_a0 E_a0 (Or.inl (hw _ (List.mem_of_getElem? (i := 23) rfl))) (hw _ (List.mem_of_getElem? (i := 6) rfl)) (ty := .int) (by decide) rfl rfl (g := (mkF m 12 #[.val (.ref a0)] [(.int (2 : Int32)), (.ref a0), (.int (2 : Int32)), (.ref bb)])) rfl rfl (hb hby d6_12)
  have f192w : Fld Z h192 a0 "com/example/subsumer/subsumer/classification/IntList" "size" "I" (.int (2 : Int32)) := F_size_a0.same W192
  have f193 := E_a0.wr W192
  have f194 := F_items_a0.other W192 (Or.inr (slot_ne (Or.inl (hw _ (List.mem_of_getElem? (i := 16) rfl))) (Or.inl (hw _ (List.mem_of_getElem? (i := 23) rfl))) (by decide) (t := (.array .int)) (t' := .int) (by decide) (by decide)))
  have f196 := V_bb.other W192 (Ne.symm ne_a0_bb)
  have K197 := K0.wr W192 (Or.inl (List.mem_of_getElem? (i := 0) rfl))
  have Z198 := Nat.le_trans Z0 (Keep.of_wr W192).1
  have N199 := Fr.snoc X192 N0 g_a0
  obtain ⟨cl200, Ar200, q200, S200, M200, H200, G200⟩ := id f196
  have hin201 : ¬ ((2 : Int32) < 0 ∨ cl200.slots.size ≤ ((2 : Int32)).toNatClampNeg) := inb_of S200 ⟨by decide, by decide⟩
  have hat202 : cl200.slots[((2 : Int32)).toNatClampNeg]? = some (.int u2) := H200.at hin201 rfl
  obtain ⟨fs, hr, hrun, hended, hW, hsame⟩ := X192.leave (v := some (.int u2)) (fun h => by rw [Bd.returns] at h; cases h)
  refine ⟨_, _, pre0 _ ?_, hrun, hended, _, _, rfl, ?_, ⟨_, rfl⟩, hW, hsame.mono (by decide) (by decide)⟩
  · skip
    show Steps p.tables e below (s₁.setTop (mkF m 0 #[.val (.ref a0)] [])) _
    refine XS.aloadN X0.here hx rfl (hb hby d6_0) rfl rfl ?_
    show Steps p.tables e below (s₁.setTop (mkF m 1 #[.val (.ref a0)] [(.ref a0)])) _
    refine st190 _ ?_
    show Steps p.tables e below (T190.setTop (mkF m 4 #[.val (.ref a0)] [(.ref bb)])) _
    refine XS.aloadN X190.here hx rfl (hb hby d6_4) rfl rfl ?_
    show Steps p.tables e below (T190.setTop (mkF m 5 #[.val (.ref a0)] [(.ref a0), (.ref bb)])) _
    refine XS.dup X190.here hx rfl (hb hby d6_5) rfl rfl ?_
    show Steps p.tables e below (T190.setTop (mkF m 6 #[.val (.ref a0)] [(.ref a0), (.ref a0), (.ref bb)])) _
    refine st191 _ ?_
    show Steps p.tables e below (T191.setTop (mkF m 9 #[.val (.ref a0)] [(.int (3 : Int32)), (.ref a0), (.ref bb)])) _
    refine XS.iconst X191.here hx rfl (hb hby d6_9) ?_
    show Steps p.tables e below (T191.setTop (mkF m 10 #[.val (.ref a0)] [(.int (1 : Int32)), (.int (3 : Int32)), (.ref a0), (.ref bb)])) _
    refine XS.isub X191.here hx rfl (hb hby d6_10) rfl ?_
    show Steps p.tables e below (T191.setTop (mkF m 11 #[.val (.ref a0)] [(.int (2 : Int32)), (.ref a0), (.ref bb)])) _
    refine XS.dupX1 X191.here hx rfl (hb hby d6_11) rfl rfl rfl ?_
    show Steps p.tables e below (T191.setTop (mkF m 12 #[.val (.ref a0)] [(.int (2 : Int32)), (.ref a0), (.int (2 : Int32)), (.ref bb)])) _
    refine st192 _ ?_
    show Steps p.tables e below (T192.setTop (mkF m 15 #[.val (.ref a0)] [(.int (2 : Int32)), (.ref bb)])) _
    refine X192.iaload hx (j := (2 : Int32)) (v := (.int u2)) (by rw [e192]; exact Ar200.1) (State.isArrayOf_alike hZ.alike Ar200.2.1) Ar200.2.2 hin201 hat202 (g := (mkF m 15 #[.val (.ref a0)] [(.int (2 : Int32)), (.ref bb)])) rfl rfl (hb hby d6_15) _ ?_
    show Steps p.tables e below (T192.setTop (mkF m 16 #[.val (.ref a0)] [(.int u2)])) _
    exact retOut X192 hx Bd.returns rfl (Or.inl ⟨rfl, Or.inl rfl, _, rfl⟩) (hb hby d6_16) hr
  · show Q6_4_3 Z a0 bb u0 u1 u2 u3 k_bb h0 n0 _ T192.heap _
    rw [e192]
    exact ⟨rfl, N199, K197, f193, f192w, f194⟩
theorem ef6_4_4 (m : MethodId) (x0 : Addr) : entryFrame m #[(.ref x0)] 1 = mkF m 0 #[.val (.ref x0)] [] := by first | (simp [entryFrame, mkF, argsToLocals, Value.category]; done) | rfl
abbrev rr6_4_4 : Room := { frames := 0, cells := 0, slots := 0, locals := 0 }
def Q6_4_4 (Z : State) (a0 : Addr) (bb : Addr) (u0 : Int32) (u1 : Int32) (u2 : Int32) (u3 : Int32) (k_bb : ClassId) (h0 : Heap) (n0 : Nat) (v : Option Value) (h : Heap) (L : List Loc) : Prop := v = some (.int u3) ∧ Fr n0 L ∧ Keep h0 h [a0] ∧ Exa Z h a0 "com/example/subsumer/subsumer/classification/IntList" ∧ Fld Z h a0 "com/example/subsumer/subsumer/classification/IntList" "size" "I" (.int (3 : Int32)) ∧ Fld Z h a0 "com/example/subsumer/subsumer/classification/IntList" "items" "[I" (.ref bb)
set_option maxRecDepth 65536 in
set_option maxHeartbeats 40000000 in
theorem rm6_4_4 (l : Launch) (Z : State) (aw : Array Value) (hw : ∀ d ∈ tables_1, d.before aw Z = true) (ws : List Jvm.Cond) (a0 : Addr) (bb : Addr) (u0 : Int32) (u1 : Int32) (u2 : Int32) (u3 : Int32) (k_bb : ClassId) (h0 : Heap) (n0 : Nat) (Z0 : n0 ≤ h0.size) (E_a0 : Exa Z h0 a0 "com/example/subsumer/subsumer/classification/IntList") (F_items_a0 : Fld Z h0 a0 "com/example/subsumer/subsumer/classification/IntList" "items" "[I" (.ref bb)) (F_size_a0 : Fld Z h0 a0 "com/example/subsumer/subsumer/classification/IntList" "size" "I" (.int (4 : Int32))) (V_bb : Arv Z h0 bb k_bb .int (4 : Int32) [(.int u0), (.int u1), (.int u2), (.int u3)] (.int (0 : Int32))) (g_a0 : n0 ≤ a0) (ne_a0_bb : a0 ≠ bb) :
    MetFree l (⟨"com/example/subsumer/subsumer/classification/IntList", "pop", "()I"⟩ : MethodName) (head1 (Jvm.Cond.code (⟨"com/example/subsumer/subsumer/classification/IntList", "pop", "()I"⟩ : MethodName) prog_2_method_7_code 1 (some .int) :: ws) rr6_4_4) (fun a U => a = #[(.ref a0)] ∧ Z.Warmed39 U.vm ∧ U.heap = h0) (fun _ _ _ _ _ => True) (fun _ U o U' => ∃ v L, o = .returned v ∧ Q6_4_4 Z a0 bb u0 u1 u2 u3 k_bb h0 n0 v U'.heap L ∧ FrameEnd U o U' L rr6_4_4.cells rr6_4_4.slots) := by
  refine MetFree.of_bodySF (plainFor_of_name pn_1) hisR ?_
  intro p e s m args below meth c s₁ Bd hml0 hP hK
  obtain ⟨rfl, hZ, hh⟩ := hP
  have hx := Bd.exec
  have hby := Bd.bytes
  have hml : c.maxLocals = 1 := hml0
  have hown : s.vm.findClass "com/example/subsumer/subsumer/classification/IntList" = some m.cls := findClass_of_methodNamed Bd.named
  have hnm := (name_of_methodNamed Bd.named Bd.method).1
  have X0 : Stand p l e rr6_4_4 s m #[(.ref a0)] below meth c s₁ [] 0 0 := Stand.of_body Bd
  have e0 : s₁.heap = h0 := by rw [← hh, Bd.state]; rfl
  have N0 := Fr.nil n0
  have K0 := Keep.refl h0 [a0]
  have pre0 : ∀ t, Steps p.tables e below (s₁.setTop (mkF m 0 #[.val (.ref a0)] [])) t → Steps p.tables e below (s₁.setTop (entryFrame m #[(.ref a0)] 1)) t := fun t k => castTop (ef6_4_4 m a0) k
  obtain ⟨T203, X203, e203, st203⟩ := getF X0 hx hZ hown (host := "") (Or.inl (hw _ (List.mem_of_getElem? (i := 15) rfl))) Via.refl e0 F_items_a0 (g := (mkF m 1 #[.val (.ref a0)] [(.ref a0)])) rfl rfl (hb hby d6_1)
  obtain ⟨T204, X204, e204, st204⟩ := getF X203 hx hZ hown (host := "") (Or.inl (hw _ (List.mem_of_getElem? (i := 22) rfl))) Via.refl e203 F_size_a0 (g := (mkF m 6 #[.val (.ref a0)] [(.ref a0), (.ref a0), (.ref bb)])) rfl rfl (hb hby d6_6)
  obtain ⟨T205, h205, X205, e205, W205, st205⟩ := putF X204 hx hZ hown (host := "") (Or.inl (hw _ (List.mem_of_getElem? (i := 22) rfl))) Via.refl e204 F_size_a0 E_a0 (Or.inl (hw _ (List.mem_of_getElem? (i := 23) rfl))) (hw _ (List.mem_of_getElem? (i := 6) rfl)) (ty := .int) (by decide) rfl rfl (g := (mkF m 12 #[.val (.ref a0)] [(.int (3 : Int32)), (.ref a0), (.int (3 : Int32)), (.ref bb)])) rfl rfl (hb hby d6_12)
  have f205w : Fld Z h205 a0 "com/example/subsumer/subsumer/classification/IntList" "size" "I" (.int (3 : Int32)) := F_size_a0.same W205
  have f206 := E_a0.wr W205
  have f207 := F_items_a0.other W205 (Or.inr (slot_ne (Or.inl (hw _ (List.mem_of_getElem? (i := 16) rfl))) (Or.inl (hw _ (List.mem_of_getElem? (i := 23) rfl))) (by decide) (t := (.array .int)) (t' := .int) (by decide) (by decide)))
  have f209 := V_bb.other W205 (Ne.symm ne_a0_bb)
  have K210 := K0.wr W205 (Or.inl (List.mem_of_getElem? (i := 0) rfl))
  have Z211 := Nat.le_trans Z0 (Keep.of_wr W205).1
  have N212 := Fr.snoc X205 N0 g_a0
  obtain ⟨cl213, Ar213, q213, S213, M213, H213, G213⟩ := id f209
  have hin214 : ¬ ((3 : Int32) < 0 ∨ cl213.slots.size ≤ ((3 : Int32)).toNatClampNeg) := inb_of S213 ⟨by decide, by decide⟩
  have hat215 : cl213.slots[((3 : Int32)).toNatClampNeg]? = some (.int u3) := H213.at hin214 rfl
  obtain ⟨fs, hr, hrun, hended, hW, hsame⟩ := X205.leave (v := some (.int u3)) (fun h => by rw [Bd.returns] at h; cases h)
  refine ⟨_, _, pre0 _ ?_, hrun, hended, _, _, rfl, ?_, ⟨_, rfl⟩, hW, hsame.mono (by decide) (by decide)⟩
  · skip
    show Steps p.tables e below (s₁.setTop (mkF m 0 #[.val (.ref a0)] [])) _
    refine XS.aloadN X0.here hx rfl (hb hby d6_0) rfl rfl ?_
    show Steps p.tables e below (s₁.setTop (mkF m 1 #[.val (.ref a0)] [(.ref a0)])) _
    refine st203 _ ?_
    show Steps p.tables e below (T203.setTop (mkF m 4 #[.val (.ref a0)] [(.ref bb)])) _
    refine XS.aloadN X203.here hx rfl (hb hby d6_4) rfl rfl ?_
    show Steps p.tables e below (T203.setTop (mkF m 5 #[.val (.ref a0)] [(.ref a0), (.ref bb)])) _
    refine XS.dup X203.here hx rfl (hb hby d6_5) rfl rfl ?_
    show Steps p.tables e below (T203.setTop (mkF m 6 #[.val (.ref a0)] [(.ref a0), (.ref a0), (.ref bb)])) _
    refine st204 _ ?_
    show Steps p.tables e below (T204.setTop (mkF m 9 #[.val (.ref a0)] [(.int (4 : Int32)), (.ref a0), (.ref bb)])) _
    refine XS.iconst X204.here hx rfl (hb hby d6_9) ?_
    show Steps p.tables e below (T204.setTop (mkF m 10 #[.val (.ref a0)] [(.int (1 : Int32)), (.int (4 : Int32)), (.ref a0), (.ref bb)])) _
    refine XS.isub X204.here hx rfl (hb hby d6_10) rfl ?_
    show Steps p.tables e below (T204.setTop (mkF m 11 #[.val (.ref a0)] [(.int (3 : Int32)), (.ref a0), (.ref bb)])) _
    refine XS.dupX1 X204.here hx rfl (hb hby d6_11) rfl rfl rfl ?_
    show Steps p.tables e below (T204.setTop (mkF m 12 #[.val (.ref a0)] [(.int (3 : Int32)), (.ref a0), (.int (3 : Int32)), (.ref bb)])) _
    refine st205 _ ?_
    show Steps p.tables e below (T205.setTop (mkF m 15 #[.val (.ref a0)] [(.int (3 : Int32)), (.ref bb)])) _
    refine X205.iaload hx (j := (3 : Int32)) (v := (.int u3)) (by rw [e205]; exact Ar213.1) (State.isArrayOf_alike hZ.alike Ar213.2.1) Ar213.2.2 hin214 hat215 (g := (mkF m 15 #[.val (.ref a0)] [(.int (3 : Int32)), (.ref bb)])) rfl rfl (hb hby d6_15) _ ?_
    show Steps p.tables e below (T205.setTop (mkF m 16 #[.val (.ref a0)] [(.int u3)])) _
    exact retOut X205 hx Bd.returns rfl (Or.inl ⟨rfl, Or.inl rfl, _, rfl⟩) (hb hby d6_16) hr
  · show Q6_4_4 Z a0 bb u0 u1 u2 u3 k_bb h0 n0 _ T205.heap _
    rw [e205]
    exact ⟨rfl, N212, K210, f206, f205w, f207⟩
theorem ef6_8_1 (m : MethodId) (x0 : Addr) : entryFrame m #[(.ref x0)] 1 = mkF m 0 #[.val (.ref x0)] [] := by first | (simp [entryFrame, mkF, argsToLocals, Value.category]; done) | rfl
abbrev rr6_8_1 : Room := { frames := 0, cells := 0, slots := 0, locals := 0 }
def Q6_8_1 (Z : State) (a0 : Addr) (bb : Addr) (u0 : Int32) (u1 : Int32) (u2 : Int32) (u3 : Int32) (u4 : Int32) (u5 : Int32) (u6 : Int32) (u7 : Int32) (k_bb : ClassId) (h0 : Heap) (n0 : Nat) (v : Option Value) (h : Heap) (L : List Loc) : Prop := v = some (.int u0) ∧ Fr n0 L ∧ Keep h0 h [a0] ∧ Exa Z h a0 "com/example/subsumer/subsumer/classification/IntList" ∧ Fld Z h a0 "com/example/subsumer/subsumer/classification/IntList" "size" "I" (.int (0 : Int32)) ∧ Fld Z h a0 "com/example/subsumer/subsumer/classification/IntList" "items" "[I" (.ref bb)
set_option maxRecDepth 65536 in
set_option maxHeartbeats 40000000 in
theorem rm6_8_1 (l : Launch) (Z : State) (aw : Array Value) (hw : ∀ d ∈ tables_1, d.before aw Z = true) (ws : List Jvm.Cond) (a0 : Addr) (bb : Addr) (u0 : Int32) (u1 : Int32) (u2 : Int32) (u3 : Int32) (u4 : Int32) (u5 : Int32) (u6 : Int32) (u7 : Int32) (k_bb : ClassId) (h0 : Heap) (n0 : Nat) (Z0 : n0 ≤ h0.size) (E_a0 : Exa Z h0 a0 "com/example/subsumer/subsumer/classification/IntList") (F_items_a0 : Fld Z h0 a0 "com/example/subsumer/subsumer/classification/IntList" "items" "[I" (.ref bb)) (F_size_a0 : Fld Z h0 a0 "com/example/subsumer/subsumer/classification/IntList" "size" "I" (.int (1 : Int32))) (V_bb : Arv Z h0 bb k_bb .int (8 : Int32) [(.int u0), (.int u1), (.int u2), (.int u3), (.int u4), (.int u5), (.int u6), (.int u7)] (.int (0 : Int32))) (g_a0 : n0 ≤ a0) (ne_a0_bb : a0 ≠ bb) :
    MetFree l (⟨"com/example/subsumer/subsumer/classification/IntList", "pop", "()I"⟩ : MethodName) (head1 (Jvm.Cond.code (⟨"com/example/subsumer/subsumer/classification/IntList", "pop", "()I"⟩ : MethodName) prog_2_method_7_code 1 (some .int) :: ws) rr6_8_1) (fun a U => a = #[(.ref a0)] ∧ Z.Warmed39 U.vm ∧ U.heap = h0) (fun _ _ _ _ _ => True) (fun _ U o U' => ∃ v L, o = .returned v ∧ Q6_8_1 Z a0 bb u0 u1 u2 u3 u4 u5 u6 u7 k_bb h0 n0 v U'.heap L ∧ FrameEnd U o U' L rr6_8_1.cells rr6_8_1.slots) := by
  refine MetFree.of_bodySF (plainFor_of_name pn_1) hisR ?_
  intro p e s m args below meth c s₁ Bd hml0 hP hK
  obtain ⟨rfl, hZ, hh⟩ := hP
  have hx := Bd.exec
  have hby := Bd.bytes
  have hml : c.maxLocals = 1 := hml0
  have hown : s.vm.findClass "com/example/subsumer/subsumer/classification/IntList" = some m.cls := findClass_of_methodNamed Bd.named
  have hnm := (name_of_methodNamed Bd.named Bd.method).1
  have X0 : Stand p l e rr6_8_1 s m #[(.ref a0)] below meth c s₁ [] 0 0 := Stand.of_body Bd
  have e0 : s₁.heap = h0 := by rw [← hh, Bd.state]; rfl
  have N0 := Fr.nil n0
  have K0 := Keep.refl h0 [a0]
  have pre0 : ∀ t, Steps p.tables e below (s₁.setTop (mkF m 0 #[.val (.ref a0)] [])) t → Steps p.tables e below (s₁.setTop (entryFrame m #[(.ref a0)] 1)) t := fun t k => castTop (ef6_8_1 m a0) k
  obtain ⟨T216, X216, e216, st216⟩ := getF X0 hx hZ hown (host := "") (Or.inl (hw _ (List.mem_of_getElem? (i := 15) rfl))) Via.refl e0 F_items_a0 (g := (mkF m 1 #[.val (.ref a0)] [(.ref a0)])) rfl rfl (hb hby d6_1)
  obtain ⟨T217, X217, e217, st217⟩ := getF X216 hx hZ hown (host := "") (Or.inl (hw _ (List.mem_of_getElem? (i := 22) rfl))) Via.refl e216 F_size_a0 (g := (mkF m 6 #[.val (.ref a0)] [(.ref a0), (.ref a0), (.ref bb)])) rfl rfl (hb hby d6_6)
  obtain ⟨T218, h218, X218, e218, W218, st218⟩ := putF X217 hx hZ hown (host := "") (Or.inl (hw _ (List.mem_of_getElem? (i := 22) rfl))) Via.refl e217 F_size_a0 E_a0 (Or.inl (hw _ (List.mem_of_getElem? (i := 23) rfl))) (hw _ (List.mem_of_getElem? (i := 6) rfl)) (ty := .int) (by decide) rfl rfl (g := (mkF m 12 #[.val (.ref a0)] [(.int (0 : Int32)), (.ref a0), (.int (0 : Int32)), (.ref bb)])) rfl rfl (hb hby d6_12)
  have f218w : Fld Z h218 a0 "com/example/subsumer/subsumer/classification/IntList" "size" "I" (.int (0 : Int32)) := F_size_a0.same W218
  have f219 := E_a0.wr W218
  have f220 := F_items_a0.other W218 (Or.inr (slot_ne (Or.inl (hw _ (List.mem_of_getElem? (i := 16) rfl))) (Or.inl (hw _ (List.mem_of_getElem? (i := 23) rfl))) (by decide) (t := (.array .int)) (t' := .int) (by decide) (by decide)))
  have f222 := V_bb.other W218 (Ne.symm ne_a0_bb)
  have K223 := K0.wr W218 (Or.inl (List.mem_of_getElem? (i := 0) rfl))
  have Z224 := Nat.le_trans Z0 (Keep.of_wr W218).1
  have N225 := Fr.snoc X218 N0 g_a0
  obtain ⟨cl226, Ar226, q226, S226, M226, H226, G226⟩ := id f222
  have hin227 : ¬ ((0 : Int32) < 0 ∨ cl226.slots.size ≤ ((0 : Int32)).toNatClampNeg) := inb_of S226 ⟨by decide, by decide⟩
  have hat228 : cl226.slots[((0 : Int32)).toNatClampNeg]? = some (.int u0) := H226.at hin227 rfl
  obtain ⟨fs, hr, hrun, hended, hW, hsame⟩ := X218.leave (v := some (.int u0)) (fun h => by rw [Bd.returns] at h; cases h)
  refine ⟨_, _, pre0 _ ?_, hrun, hended, _, _, rfl, ?_, ⟨_, rfl⟩, hW, hsame.mono (by decide) (by decide)⟩
  · skip
    show Steps p.tables e below (s₁.setTop (mkF m 0 #[.val (.ref a0)] [])) _
    refine XS.aloadN X0.here hx rfl (hb hby d6_0) rfl rfl ?_
    show Steps p.tables e below (s₁.setTop (mkF m 1 #[.val (.ref a0)] [(.ref a0)])) _
    refine st216 _ ?_
    show Steps p.tables e below (T216.setTop (mkF m 4 #[.val (.ref a0)] [(.ref bb)])) _
    refine XS.aloadN X216.here hx rfl (hb hby d6_4) rfl rfl ?_
    show Steps p.tables e below (T216.setTop (mkF m 5 #[.val (.ref a0)] [(.ref a0), (.ref bb)])) _
    refine XS.dup X216.here hx rfl (hb hby d6_5) rfl rfl ?_
    show Steps p.tables e below (T216.setTop (mkF m 6 #[.val (.ref a0)] [(.ref a0), (.ref a0), (.ref bb)])) _
    refine st217 _ ?_
    show Steps p.tables e below (T217.setTop (mkF m 9 #[.val (.ref a0)] [(.int (1 : Int32)), (.ref a0), (.ref bb)])) _
    refine XS.iconst X217.here hx rfl (hb hby d6_9) ?_
    show Steps p.tables e below (T217.setTop (mkF m 10 #[.val (.ref a0)] [(.int (1 : Int32)), (.int (1 : Int32)), (.ref a0), (.ref bb)])) _
    refine XS.isub X217.here hx rfl (hb hby d6_10) rfl ?_
    show Steps p.tables e below (T217.setTop (mkF m 11 #[.val (.ref a0)] [(.int (0 : Int32)), (.ref a0), (.ref bb)])) _
    refine XS.dupX1 X217.here hx rfl (hb hby d6_11) rfl rfl rfl ?_
    show Steps p.tables e below (T217.setTop (mkF m 12 #[.val (.ref a0)] [(.int (0 : Int32)), (.ref a0), (.int (0 : Int32)), (.ref bb)])) _
    refine st218 _ ?_
    show Steps p.tables e below (T218.setTop (mkF m 15 #[.val (.ref a0)] [(.int (0 : Int32)), (.ref bb)])) _
    refine X218.iaload hx (j := (0 : Int32)) (v := (.int u0)) (by rw [e218]; exact Ar226.1) (State.isArrayOf_alike hZ.alike Ar226.2.1) Ar226.2.2 hin227 hat228 (g := (mkF m 15 #[.val (.ref a0)] [(.int (0 : Int32)), (.ref bb)])) rfl rfl (hb hby d6_15) _ ?_
    show Steps p.tables e below (T218.setTop (mkF m 16 #[.val (.ref a0)] [(.int u0)])) _
    exact retOut X218 hx Bd.returns rfl (Or.inl ⟨rfl, Or.inl rfl, _, rfl⟩) (hb hby d6_16) hr
  · show Q6_8_1 Z a0 bb u0 u1 u2 u3 u4 u5 u6 u7 k_bb h0 n0 _ T218.heap _
    rw [e218]
    exact ⟨rfl, N225, K223, f219, f218w, f220⟩
theorem ef6_8_2 (m : MethodId) (x0 : Addr) : entryFrame m #[(.ref x0)] 1 = mkF m 0 #[.val (.ref x0)] [] := by first | (simp [entryFrame, mkF, argsToLocals, Value.category]; done) | rfl
abbrev rr6_8_2 : Room := { frames := 0, cells := 0, slots := 0, locals := 0 }
def Q6_8_2 (Z : State) (a0 : Addr) (bb : Addr) (u0 : Int32) (u1 : Int32) (u2 : Int32) (u3 : Int32) (u4 : Int32) (u5 : Int32) (u6 : Int32) (u7 : Int32) (k_bb : ClassId) (h0 : Heap) (n0 : Nat) (v : Option Value) (h : Heap) (L : List Loc) : Prop := v = some (.int u1) ∧ Fr n0 L ∧ Keep h0 h [a0] ∧ Exa Z h a0 "com/example/subsumer/subsumer/classification/IntList" ∧ Fld Z h a0 "com/example/subsumer/subsumer/classification/IntList" "size" "I" (.int (1 : Int32)) ∧ Fld Z h a0 "com/example/subsumer/subsumer/classification/IntList" "items" "[I" (.ref bb)
set_option maxRecDepth 65536 in
set_option maxHeartbeats 40000000 in
theorem rm6_8_2 (l : Launch) (Z : State) (aw : Array Value) (hw : ∀ d ∈ tables_1, d.before aw Z = true) (ws : List Jvm.Cond) (a0 : Addr) (bb : Addr) (u0 : Int32) (u1 : Int32) (u2 : Int32) (u3 : Int32) (u4 : Int32) (u5 : Int32) (u6 : Int32) (u7 : Int32) (k_bb : ClassId) (h0 : Heap) (n0 : Nat) (Z0 : n0 ≤ h0.size) (E_a0 : Exa Z h0 a0 "com/example/subsumer/subsumer/classification/IntList") (F_items_a0 : Fld Z h0 a0 "com/example/subsumer/subsumer/classification/IntList" "items" "[I" (.ref bb)) (F_size_a0 : Fld Z h0 a0 "com/example/subsumer/subsumer/classification/IntList" "size" "I" (.int (2 : Int32))) (V_bb : Arv Z h0 bb k_bb .int (8 : Int32) [(.int u0), (.int u1), (.int u2), (.int u3), (.int u4), (.int u5), (.int u6), (.int u7)] (.int (0 : Int32))) (g_a0 : n0 ≤ a0) (ne_a0_bb : a0 ≠ bb) :
    MetFree l (⟨"com/example/subsumer/subsumer/classification/IntList", "pop", "()I"⟩ : MethodName) (head1 (Jvm.Cond.code (⟨"com/example/subsumer/subsumer/classification/IntList", "pop", "()I"⟩ : MethodName) prog_2_method_7_code 1 (some .int) :: ws) rr6_8_2) (fun a U => a = #[(.ref a0)] ∧ Z.Warmed39 U.vm ∧ U.heap = h0) (fun _ _ _ _ _ => True) (fun _ U o U' => ∃ v L, o = .returned v ∧ Q6_8_2 Z a0 bb u0 u1 u2 u3 u4 u5 u6 u7 k_bb h0 n0 v U'.heap L ∧ FrameEnd U o U' L rr6_8_2.cells rr6_8_2.slots) := by
  refine MetFree.of_bodySF (plainFor_of_name pn_1) hisR ?_
  intro p e s m args below meth c s₁ Bd hml0 hP hK
  obtain ⟨rfl, hZ, hh⟩ := hP
  have hx := Bd.exec
  have hby := Bd.bytes
  have hml : c.maxLocals = 1 := hml0
  have hown : s.vm.findClass "com/example/subsumer/subsumer/classification/IntList" = some m.cls := findClass_of_methodNamed Bd.named
  have hnm := (name_of_methodNamed Bd.named Bd.method).1
  have X0 : Stand p l e rr6_8_2 s m #[(.ref a0)] below meth c s₁ [] 0 0 := Stand.of_body Bd
  have e0 : s₁.heap = h0 := by rw [← hh, Bd.state]; rfl
  have N0 := Fr.nil n0
  have K0 := Keep.refl h0 [a0]
  have pre0 : ∀ t, Steps p.tables e below (s₁.setTop (mkF m 0 #[.val (.ref a0)] [])) t → Steps p.tables e below (s₁.setTop (entryFrame m #[(.ref a0)] 1)) t := fun t k => castTop (ef6_8_2 m a0) k
  obtain ⟨T229, X229, e229, st229⟩ := getF X0 hx hZ hown (host := "") (Or.inl (hw _ (List.mem_of_getElem? (i := 15) rfl))) Via.refl e0 F_items_a0 (g := (mkF m 1 #[.val (.ref a0)] [(.ref a0)])) rfl rfl (hb hby d6_1)
  obtain ⟨T230, X230, e230, st230⟩ := getF X229 hx hZ hown (host := "") (Or.inl (hw _ (List.mem_of_getElem? (i := 22) rfl))) Via.refl e229 F_size_a0 (g := (mkF m 6 #[.val (.ref a0)] [(.ref a0), (.ref a0), (.ref bb)])) rfl rfl (hb hby d6_6)
  obtain ⟨T231, h231, X231, e231, W231, st231⟩ := putF X230 hx hZ hown (host := "") (Or.inl (hw _ (List.mem_of_getElem? (i := 22) rfl))) Via.refl e230 F_size_a0 E_a0 (Or.inl (hw _ (List.mem_of_getElem? (i := 23) rfl))) (hw _ (List.mem_of_getElem? (i := 6) rfl)) (ty := .int) (by decide) rfl rfl (g := (mkF m 12 #[.val (.ref a0)] [(.int (1 : Int32)), (.ref a0), (.int (1 : Int32)), (.ref bb)])) rfl rfl (hb hby d6_12)
  have f231w : Fld Z h231 a0 "com/example/subsumer/subsumer/classification/IntList" "size" "I" (.int (1 : Int32)) := F_size_a0.same W231
  have f232 := E_a0.wr W231
  have f233 := F_items_a0.other W231 (Or.inr (slot_ne (Or.inl (hw _ (List.mem_of_getElem? (i := 16) rfl))) (Or.inl (hw _ (List.mem_of_getElem? (i := 23) rfl))) (by decide) (t := (.array .int)) (t' := .int) (by decide) (by decide)))
  have f235 := V_bb.other W231 (Ne.symm ne_a0_bb)
  have K236 := K0.wr W231 (Or.inl (List.mem_of_getElem? (i := 0) rfl))
  have Z237 := Nat.le_trans Z0 (Keep.of_wr W231).1
  have N238 := Fr.snoc X231 N0 g_a0
  obtain ⟨cl239, Ar239, q239, S239, M239, H239, G239⟩ := id f235
  have hin240 : ¬ ((1 : Int32) < 0 ∨ cl239.slots.size ≤ ((1 : Int32)).toNatClampNeg) := inb_of S239 ⟨by decide, by decide⟩
  have hat241 : cl239.slots[((1 : Int32)).toNatClampNeg]? = some (.int u1) := H239.at hin240 rfl
  obtain ⟨fs, hr, hrun, hended, hW, hsame⟩ := X231.leave (v := some (.int u1)) (fun h => by rw [Bd.returns] at h; cases h)
  refine ⟨_, _, pre0 _ ?_, hrun, hended, _, _, rfl, ?_, ⟨_, rfl⟩, hW, hsame.mono (by decide) (by decide)⟩
  · skip
    show Steps p.tables e below (s₁.setTop (mkF m 0 #[.val (.ref a0)] [])) _
    refine XS.aloadN X0.here hx rfl (hb hby d6_0) rfl rfl ?_
    show Steps p.tables e below (s₁.setTop (mkF m 1 #[.val (.ref a0)] [(.ref a0)])) _
    refine st229 _ ?_
    show Steps p.tables e below (T229.setTop (mkF m 4 #[.val (.ref a0)] [(.ref bb)])) _
    refine XS.aloadN X229.here hx rfl (hb hby d6_4) rfl rfl ?_
    show Steps p.tables e below (T229.setTop (mkF m 5 #[.val (.ref a0)] [(.ref a0), (.ref bb)])) _
    refine XS.dup X229.here hx rfl (hb hby d6_5) rfl rfl ?_
    show Steps p.tables e below (T229.setTop (mkF m 6 #[.val (.ref a0)] [(.ref a0), (.ref a0), (.ref bb)])) _
    refine st230 _ ?_
    show Steps p.tables e below (T230.setTop (mkF m 9 #[.val (.ref a0)] [(.int (2 : Int32)), (.ref a0), (.ref bb)])) _
    refine XS.iconst X230.here hx rfl (hb hby d6_9) ?_
    show Steps p.tables e below (T230.setTop (mkF m 10 #[.val (.ref a0)] [(.int (1 : Int32)), (.int (2 : Int32)), (.ref a0), (.ref bb)])) _
    refine XS.isub X230.here hx rfl (hb hby d6_10) rfl ?_
    show Steps p.tables e below (T230.setTop (mkF m 11 #[.val (.ref a0)] [(.int (1 : Int32)), (.ref a0), (.ref bb)])) _
    refine XS.dupX1 X230.here hx rfl (hb hby d6_11) rfl rfl rfl ?_
    show Steps p.tables e below (T230.setTop (mkF m 12 #[.val (.ref a0)] [(.int (1 : Int32)), (.ref a0), (.int (1 : Int32)), (.ref bb)])) _
    refine st231 _ ?_
    show Steps p.tables e below (T231.setTop (mkF m 15 #[.val (.ref a0)] [(.int (1 : Int32)), (.ref bb)])) _
    refine X231.iaload hx (j := (1 : Int32)) (v := (.int u1)) (by rw [e231]; exact Ar239.1) (State.isArrayOf_alike hZ.alike Ar239.2.1) Ar239.2.2 hin240 hat241 (g := (mkF m 15 #[.val (.ref a0)] [(.int (1 : Int32)), (.ref bb)])) rfl rfl (hb hby d6_15) _ ?_
    show Steps p.tables e below (T231.setTop (mkF m 16 #[.val (.ref a0)] [(.int u1)])) _
    exact retOut X231 hx Bd.returns rfl (Or.inl ⟨rfl, Or.inl rfl, _, rfl⟩) (hb hby d6_16) hr
  · show Q6_8_2 Z a0 bb u0 u1 u2 u3 u4 u5 u6 u7 k_bb h0 n0 _ T231.heap _
    rw [e231]
    exact ⟨rfl, N238, K236, f232, f231w, f233⟩
theorem ef6_8_3 (m : MethodId) (x0 : Addr) : entryFrame m #[(.ref x0)] 1 = mkF m 0 #[.val (.ref x0)] [] := by first | (simp [entryFrame, mkF, argsToLocals, Value.category]; done) | rfl
abbrev rr6_8_3 : Room := { frames := 0, cells := 0, slots := 0, locals := 0 }
def Q6_8_3 (Z : State) (a0 : Addr) (bb : Addr) (u0 : Int32) (u1 : Int32) (u2 : Int32) (u3 : Int32) (u4 : Int32) (u5 : Int32) (u6 : Int32) (u7 : Int32) (k_bb : ClassId) (h0 : Heap) (n0 : Nat) (v : Option Value) (h : Heap) (L : List Loc) : Prop := v = some (.int u2) ∧ Fr n0 L ∧ Keep h0 h [a0] ∧ Exa Z h a0 "com/example/subsumer/subsumer/classification/IntList" ∧ Fld Z h a0 "com/example/subsumer/subsumer/classification/IntList" "size" "I" (.int (2 : Int32)) ∧ Fld Z h a0 "com/example/subsumer/subsumer/classification/IntList" "items" "[I" (.ref bb)
set_option maxRecDepth 65536 in
set_option maxHeartbeats 40000000 in
theorem rm6_8_3 (l : Launch) (Z : State) (aw : Array Value) (hw : ∀ d ∈ tables_1, d.before aw Z = true) (ws : List Jvm.Cond) (a0 : Addr) (bb : Addr) (u0 : Int32) (u1 : Int32) (u2 : Int32) (u3 : Int32) (u4 : Int32) (u5 : Int32) (u6 : Int32) (u7 : Int32) (k_bb : ClassId) (h0 : Heap) (n0 : Nat) (Z0 : n0 ≤ h0.size) (E_a0 : Exa Z h0 a0 "com/example/subsumer/subsumer/classification/IntList") (F_items_a0 : Fld Z h0 a0 "com/example/subsumer/subsumer/classification/IntList" "items" "[I" (.ref bb)) (F_size_a0 : Fld Z h0 a0 "com/example/subsumer/subsumer/classification/IntList" "size" "I" (.int (3 : Int32))) (V_bb : Arv Z h0 bb k_bb .int (8 : Int32) [(.int u0), (.int u1), (.int u2), (.int u3), (.int u4), (.int u5), (.int u6), (.int u7)] (.int (0 : Int32))) (g_a0 : n0 ≤ a0) (ne_a0_bb : a0 ≠ bb) :
    MetFree l (⟨"com/example/subsumer/subsumer/classification/IntList", "pop", "()I"⟩ : MethodName) (head1 (Jvm.Cond.code (⟨"com/example/subsumer/subsumer/classification/IntList", "pop", "()I"⟩ : MethodName) prog_2_method_7_code 1 (some .int) :: ws) rr6_8_3) (fun a U => a = #[(.ref a0)] ∧ Z.Warmed39 U.vm ∧ U.heap = h0) (fun _ _ _ _ _ => True) (fun _ U o U' => ∃ v L, o = .returned v ∧ Q6_8_3 Z a0 bb u0 u1 u2 u3 u4 u5 u6 u7 k_bb h0 n0 v U'.heap L ∧ FrameEnd U o U' L rr6_8_3.cells rr6_8_3.slots) := by
  refine MetFree.of_bodySF (plainFor_of_name pn_1) hisR ?_
  intro p e s m args below meth c s₁ Bd hml0 hP hK
  obtain ⟨rfl, hZ, hh⟩ := hP
  have hx := Bd.exec
  have hby := Bd.bytes
  have hml : c.maxLocals = 1 := hml0
  have hown : s.vm.findClass "com/example/subsumer/subsumer/classification/IntList" = some m.cls := findClass_of_methodNamed Bd.named
  have hnm := (name_of_methodNamed Bd.named Bd.method).1
  have X0 : Stand p l e rr6_8_3 s m #[(.ref a0)] below meth c s₁ [] 0 0 := Stand.of_body Bd
  have e0 : s₁.heap = h0 := by rw [← hh, Bd.state]; rfl
  have N0 := Fr.nil n0
  have K0 := Keep.refl h0 [a0]
  have pre0 : ∀ t, Steps p.tables e below (s₁.setTop (mkF m 0 #[.val (.ref a0)] [])) t → Steps p.tables e below (s₁.setTop (entryFrame m #[(.ref a0)] 1)) t := fun t k => castTop (ef6_8_3 m a0) k
  obtain ⟨T242, X242, e242, st242⟩ := getF X0 hx hZ hown (host := "") (Or.inl (hw _ (List.mem_of_getElem? (i := 15) rfl))) Via.refl e0 F_items_a0 (g := (mkF m 1 #[.val (.ref a0)] [(.ref a0)])) rfl rfl (hb hby d6_1)
  obtain ⟨T243, X243, e243, st243⟩ := getF X242 hx hZ hown (host := "") (Or.inl (hw _ (List.mem_of_getElem? (i := 22) rfl))) Via.refl e242 F_size_a0 (g := (mkF m 6 #[.val (.ref a0)] [(.ref a0), (.ref a0), (.ref bb)])) rfl rfl (hb hby d6_6)
  obtain ⟨T244, h244, X244, e244, W244, st244⟩ := putF X243 hx hZ hown (host := "") (Or.inl (hw _ (List.mem_of_getElem? (i := 22) rfl))) Via.refl e243 F_size_a0 E_a0 (Or.inl (hw _ (List.mem_of_getElem? (i := 23) rfl))) (hw _ (List.mem_of_getElem? (i := 6) rfl)) (ty := .int) (by decide) rfl rfl (g := (mkF m 12 #[.val (.ref a0)] [(.int (2 : Int32)), (.ref a0), (.int (2 : Int32)), (.ref bb)])) rfl rfl (hb hby d6_12)
  have f244w : Fld Z h244 a0 "com/example/subsumer/subsumer/classification/IntList" "size" "I" (.int (2 : Int32)) := F_size_a0.same W244
  have f245 := E_a0.wr W244
  have f246 := F_items_a0.other W244 (Or.inr (slot_ne (Or.inl (hw _ (List.mem_of_getElem? (i := 16) rfl))) (Or.inl (hw _ (List.mem_of_getElem? (i := 23) rfl))) (by decide) (t := (.array .int)) (t' := .int) (by decide) (by decide)))
  have f248 := V_bb.other W244 (Ne.symm ne_a0_bb)
  have K249 := K0.wr W244 (Or.inl (List.mem_of_getElem? (i := 0) rfl))
  have Z250 := Nat.le_trans Z0 (Keep.of_wr W244).1
  have N251 := Fr.snoc X244 N0 g_a0
  obtain ⟨cl252, Ar252, q252, S252, M252, H252, G252⟩ := id f248
  have hin253 : ¬ ((2 : Int32) < 0 ∨ cl252.slots.size ≤ ((2 : Int32)).toNatClampNeg) := inb_of S252 ⟨by decide, by decide⟩
  have hat254 : cl252.slots[((2 : Int32)).toNatClampNeg]? = some (.int u2) := H252.at hin253 rfl
  obtain ⟨fs, hr, hrun, hended, hW, hsame⟩ := X244.leave (v := some (.int u2)) (fun h => by rw [Bd.returns] at h; cases h)
  refine ⟨_, _, pre0 _ ?_, hrun, hended, _, _, rfl, ?_, ⟨_, rfl⟩, hW, hsame.mono (by decide) (by decide)⟩
  · skip
    show Steps p.tables e below (s₁.setTop (mkF m 0 #[.val (.ref a0)] [])) _
    refine XS.aloadN X0.here hx rfl (hb hby d6_0) rfl rfl ?_
    show Steps p.tables e below (s₁.setTop (mkF m 1 #[.val (.ref a0)] [(.ref a0)])) _
    refine st242 _ ?_
    show Steps p.tables e below (T242.setTop (mkF m 4 #[.val (.ref a0)] [(.ref bb)])) _
    refine XS.aloadN X242.here hx rfl (hb hby d6_4) rfl rfl ?_
    show Steps p.tables e below (T242.setTop (mkF m 5 #[.val (.ref a0)] [(.ref a0), (.ref bb)])) _
    refine XS.dup X242.here hx rfl (hb hby d6_5) rfl rfl ?_
    show Steps p.tables e below (T242.setTop (mkF m 6 #[.val (.ref a0)] [(.ref a0), (.ref a0), (.ref bb)])) _
    refine st243 _ ?_
    show Steps p.tables e below (T243.setTop (mkF m 9 #[.val (.ref a0)] [(.int (3 : Int32)), (.ref a0), (.ref bb)])) _
    refine XS.iconst X243.here hx rfl (hb hby d6_9) ?_
    show Steps p.tables e below (T243.setTop (mkF m 10 #[.val (.ref a0)] [(.int (1 : Int32)), (.int (3 : Int32)), (.ref a0), (.ref bb)])) _
    refine XS.isub X243.here hx rfl (hb hby d6_10) rfl ?_
    show Steps p.tables e below (T243.setTop (mkF m 11 #[.val (.ref a0)] [(.int (2 : Int32)), (.ref a0), (.ref bb)])) _
    refine XS.dupX1 X243.here hx rfl (hb hby d6_11) rfl rfl rfl ?_
    show Steps p.tables e below (T243.setTop (mkF m 12 #[.val (.ref a0)] [(.int (2 : Int32)), (.ref a0), (.int (2 : Int32)), (.ref bb)])) _
    refine st244 _ ?_
    show Steps p.tables e below (T244.setTop (mkF m 15 #[.val (.ref a0)] [(.int (2 : Int32)), (.ref bb)])) _
    refine X244.iaload hx (j := (2 : Int32)) (v := (.int u2)) (by rw [e244]; exact Ar252.1) (State.isArrayOf_alike hZ.alike Ar252.2.1) Ar252.2.2 hin253 hat254 (g := (mkF m 15 #[.val (.ref a0)] [(.int (2 : Int32)), (.ref bb)])) rfl rfl (hb hby d6_15) _ ?_
    show Steps p.tables e below (T244.setTop (mkF m 16 #[.val (.ref a0)] [(.int u2)])) _
    exact retOut X244 hx Bd.returns rfl (Or.inl ⟨rfl, Or.inl rfl, _, rfl⟩) (hb hby d6_16) hr
  · show Q6_8_3 Z a0 bb u0 u1 u2 u3 u4 u5 u6 u7 k_bb h0 n0 _ T244.heap _
    rw [e244]
    exact ⟨rfl, N251, K249, f245, f244w, f246⟩
theorem ef6_8_4 (m : MethodId) (x0 : Addr) : entryFrame m #[(.ref x0)] 1 = mkF m 0 #[.val (.ref x0)] [] := by first | (simp [entryFrame, mkF, argsToLocals, Value.category]; done) | rfl
abbrev rr6_8_4 : Room := { frames := 0, cells := 0, slots := 0, locals := 0 }
def Q6_8_4 (Z : State) (a0 : Addr) (bb : Addr) (u0 : Int32) (u1 : Int32) (u2 : Int32) (u3 : Int32) (u4 : Int32) (u5 : Int32) (u6 : Int32) (u7 : Int32) (k_bb : ClassId) (h0 : Heap) (n0 : Nat) (v : Option Value) (h : Heap) (L : List Loc) : Prop := v = some (.int u3) ∧ Fr n0 L ∧ Keep h0 h [a0] ∧ Exa Z h a0 "com/example/subsumer/subsumer/classification/IntList" ∧ Fld Z h a0 "com/example/subsumer/subsumer/classification/IntList" "size" "I" (.int (3 : Int32)) ∧ Fld Z h a0 "com/example/subsumer/subsumer/classification/IntList" "items" "[I" (.ref bb)
set_option maxRecDepth 65536 in
set_option maxHeartbeats 40000000 in
theorem rm6_8_4 (l : Launch) (Z : State) (aw : Array Value) (hw : ∀ d ∈ tables_1, d.before aw Z = true) (ws : List Jvm.Cond) (a0 : Addr) (bb : Addr) (u0 : Int32) (u1 : Int32) (u2 : Int32) (u3 : Int32) (u4 : Int32) (u5 : Int32) (u6 : Int32) (u7 : Int32) (k_bb : ClassId) (h0 : Heap) (n0 : Nat) (Z0 : n0 ≤ h0.size) (E_a0 : Exa Z h0 a0 "com/example/subsumer/subsumer/classification/IntList") (F_items_a0 : Fld Z h0 a0 "com/example/subsumer/subsumer/classification/IntList" "items" "[I" (.ref bb)) (F_size_a0 : Fld Z h0 a0 "com/example/subsumer/subsumer/classification/IntList" "size" "I" (.int (4 : Int32))) (V_bb : Arv Z h0 bb k_bb .int (8 : Int32) [(.int u0), (.int u1), (.int u2), (.int u3), (.int u4), (.int u5), (.int u6), (.int u7)] (.int (0 : Int32))) (g_a0 : n0 ≤ a0) (ne_a0_bb : a0 ≠ bb) :
    MetFree l (⟨"com/example/subsumer/subsumer/classification/IntList", "pop", "()I"⟩ : MethodName) (head1 (Jvm.Cond.code (⟨"com/example/subsumer/subsumer/classification/IntList", "pop", "()I"⟩ : MethodName) prog_2_method_7_code 1 (some .int) :: ws) rr6_8_4) (fun a U => a = #[(.ref a0)] ∧ Z.Warmed39 U.vm ∧ U.heap = h0) (fun _ _ _ _ _ => True) (fun _ U o U' => ∃ v L, o = .returned v ∧ Q6_8_4 Z a0 bb u0 u1 u2 u3 u4 u5 u6 u7 k_bb h0 n0 v U'.heap L ∧ FrameEnd U o U' L rr6_8_4.cells rr6_8_4.slots) := by
  refine MetFree.of_bodySF (plainFor_of_name pn_1) hisR ?_
  intro p e s m args below meth c s₁ Bd hml0 hP hK
  obtain ⟨rfl, hZ, hh⟩ := hP
  have hx := Bd.exec
  have hby := Bd.bytes
  have hml : c.maxLocals = 1 := hml0
  have hown : s.vm.findClass "com/example/subsumer/subsumer/classification/IntList" = some m.cls := findClass_of_methodNamed Bd.named
  have hnm := (name_of_methodNamed Bd.named Bd.method).1
  have X0 : Stand p l e rr6_8_4 s m #[(.ref a0)] below meth c s₁ [] 0 0 := Stand.of_body Bd
  have e0 : s₁.heap = h0 := by rw [← hh, Bd.state]; rfl
  have N0 := Fr.nil n0
  have K0 := Keep.refl h0 [a0]
  have pre0 : ∀ t, Steps p.tables e below (s₁.setTop (mkF m 0 #[.val (.ref a0)] [])) t → Steps p.tables e below (s₁.setTop (entryFrame m #[(.ref a0)] 1)) t := fun t k => castTop (ef6_8_4 m a0) k
  obtain ⟨T255, X255, e255, st255⟩ := getF X0 hx hZ hown (host := "") (Or.inl (hw _ (List.mem_of_getElem? (i := 15) rfl))) Via.refl e0 F_items_a0 (g := (mkF m 1 #[.val (.ref a0)] [(.ref a0)])) rfl rfl (hb hby d6_1)
  obtain ⟨T256, X256, e256, st256⟩ := getF X255 hx hZ hown (host := "") (Or.inl (hw _ (List.mem_of_getElem? (i := 22) rfl))) Via.refl e255 F_size_a0 (g := (mkF m 6 #[.val (.ref a0)] [(.ref a0), (.ref a0), (.ref bb)])) rfl rfl (hb hby d6_6)
  obtain ⟨T257, h257, X257, e257, W257, st257⟩ := putF X256 hx hZ hown (host := "") (Or.inl (hw _ (List.mem_of_getElem? (i := 22) rfl))) Via.refl e256 F_size_a0 E_a0 (Or.inl (hw _ (List.mem_of_getElem? (i := 23) rfl))) (hw _ (List.mem_of_getElem? (i := 6) rfl)) (ty := .int) (by decide) rfl rfl (g := (mkF m 12 #[.val (.ref a0)] [(.int (3 : Int32)), (.ref a0), (.int (3 : Int32)), (.ref bb)])) rfl rfl (hb hby d6_12)
  have f257w : Fld Z h257 a0 "com/example/subsumer/subsumer/classification/IntList" "size" "I" (.int (3 : Int32)) := F_size_a0.same W257
  have f258 := E_a0.wr W257
  have f259 := F_items_a0.other W257 (Or.inr (slot_ne (Or.inl (hw _ (List.mem_of_getElem? (i := 16) rfl))) (Or.inl (hw _ (List.mem_of_getElem? (i := 23) rfl))) (by decide) (t := (.array .int)) (t' := .int) (by decide) (by decide)))
  have f261 := V_bb.other W257 (Ne.symm ne_a0_bb)
  have K262 := K0.wr W257 (Or.inl (List.mem_of_getElem? (i := 0) rfl))
  have Z263 := Nat.le_trans Z0 (Keep.of_wr W257).1
  have N264 := Fr.snoc X257 N0 g_a0
  obtain ⟨cl265, Ar265, q265, S265, M265, H265, G265⟩ := id f261
  have hin266 : ¬ ((3 : Int32) < 0 ∨ cl265.slots.size ≤ ((3 : Int32)).toNatClampNeg) := inb_of S265 ⟨by decide, by decide⟩
  have hat267 : cl265.slots[((3 : Int32)).toNatClampNeg]? = some (.int u3) := H265.at hin266 rfl
  obtain ⟨fs, hr, hrun, hended, hW, hsame⟩ := X257.leave (v := some (.int u3)) (fun h => by rw [Bd.returns] at h; cases h)
  refine ⟨_, _, pre0 _ ?_, hrun, hended, _, _, rfl, ?_, ⟨_, rfl⟩, hW, hsame.mono (by decide) (by decide)⟩
  · skip
    show Steps p.tables e below (s₁.setTop (mkF m 0 #[.val (.ref a0)] [])) _
    refine XS.aloadN X0.here hx rfl (hb hby d6_0) rfl rfl ?_
    show Steps p.tables e below (s₁.setTop (mkF m 1 #[.val (.ref a0)] [(.ref a0)])) _
    refine st255 _ ?_
    show Steps p.tables e below (T255.setTop (mkF m 4 #[.val (.ref a0)] [(.ref bb)])) _
    refine XS.aloadN X255.here hx rfl (hb hby d6_4) rfl rfl ?_
    show Steps p.tables e below (T255.setTop (mkF m 5 #[.val (.ref a0)] [(.ref a0), (.ref bb)])) _
    refine XS.dup X255.here hx rfl (hb hby d6_5) rfl rfl ?_
    show Steps p.tables e below (T255.setTop (mkF m 6 #[.val (.ref a0)] [(.ref a0), (.ref a0), (.ref bb)])) _
    refine st256 _ ?_
    show Steps p.tables e below (T256.setTop (mkF m 9 #[.val (.ref a0)] [(.int (4 : Int32)), (.ref a0), (.ref bb)])) _
    refine XS.iconst X256.here hx rfl (hb hby d6_9) ?_
    show Steps p.tables e below (T256.setTop (mkF m 10 #[.val (.ref a0)] [(.int (1 : Int32)), (.int (4 : Int32)), (.ref a0), (.ref bb)])) _
    refine XS.isub X256.here hx rfl (hb hby d6_10) rfl ?_
    show Steps p.tables e below (T256.setTop (mkF m 11 #[.val (.ref a0)] [(.int (3 : Int32)), (.ref a0), (.ref bb)])) _
    refine XS.dupX1 X256.here hx rfl (hb hby d6_11) rfl rfl rfl ?_
    show Steps p.tables e below (T256.setTop (mkF m 12 #[.val (.ref a0)] [(.int (3 : Int32)), (.ref a0), (.int (3 : Int32)), (.ref bb)])) _
    refine st257 _ ?_
    show Steps p.tables e below (T257.setTop (mkF m 15 #[.val (.ref a0)] [(.int (3 : Int32)), (.ref bb)])) _
    refine X257.iaload hx (j := (3 : Int32)) (v := (.int u3)) (by rw [e257]; exact Ar265.1) (State.isArrayOf_alike hZ.alike Ar265.2.1) Ar265.2.2 hin266 hat267 (g := (mkF m 15 #[.val (.ref a0)] [(.int (3 : Int32)), (.ref bb)])) rfl rfl (hb hby d6_15) _ ?_
    show Steps p.tables e below (T257.setTop (mkF m 16 #[.val (.ref a0)] [(.int u3)])) _
    exact retOut X257 hx Bd.returns rfl (Or.inl ⟨rfl, Or.inl rfl, _, rfl⟩) (hb hby d6_16) hr
  · show Q6_8_4 Z a0 bb u0 u1 u2 u3 u4 u5 u6 u7 k_bb h0 n0 _ T257.heap _
    rw [e257]
    exact ⟨rfl, N264, K262, f258, f257w, f259⟩
theorem ef6_8_5 (m : MethodId) (x0 : Addr) : entryFrame m #[(.ref x0)] 1 = mkF m 0 #[.val (.ref x0)] [] := by first | (simp [entryFrame, mkF, argsToLocals, Value.category]; done) | rfl
abbrev rr6_8_5 : Room := { frames := 0, cells := 0, slots := 0, locals := 0 }
def Q6_8_5 (Z : State) (a0 : Addr) (bb : Addr) (u0 : Int32) (u1 : Int32) (u2 : Int32) (u3 : Int32) (u4 : Int32) (u5 : Int32) (u6 : Int32) (u7 : Int32) (k_bb : ClassId) (h0 : Heap) (n0 : Nat) (v : Option Value) (h : Heap) (L : List Loc) : Prop := v = some (.int u4) ∧ Fr n0 L ∧ Keep h0 h [a0] ∧ Exa Z h a0 "com/example/subsumer/subsumer/classification/IntList" ∧ Fld Z h a0 "com/example/subsumer/subsumer/classification/IntList" "size" "I" (.int (4 : Int32)) ∧ Fld Z h a0 "com/example/subsumer/subsumer/classification/IntList" "items" "[I" (.ref bb)
set_option maxRecDepth 65536 in
set_option maxHeartbeats 40000000 in
theorem rm6_8_5 (l : Launch) (Z : State) (aw : Array Value) (hw : ∀ d ∈ tables_1, d.before aw Z = true) (ws : List Jvm.Cond) (a0 : Addr) (bb : Addr) (u0 : Int32) (u1 : Int32) (u2 : Int32) (u3 : Int32) (u4 : Int32) (u5 : Int32) (u6 : Int32) (u7 : Int32) (k_bb : ClassId) (h0 : Heap) (n0 : Nat) (Z0 : n0 ≤ h0.size) (E_a0 : Exa Z h0 a0 "com/example/subsumer/subsumer/classification/IntList") (F_items_a0 : Fld Z h0 a0 "com/example/subsumer/subsumer/classification/IntList" "items" "[I" (.ref bb)) (F_size_a0 : Fld Z h0 a0 "com/example/subsumer/subsumer/classification/IntList" "size" "I" (.int (5 : Int32))) (V_bb : Arv Z h0 bb k_bb .int (8 : Int32) [(.int u0), (.int u1), (.int u2), (.int u3), (.int u4), (.int u5), (.int u6), (.int u7)] (.int (0 : Int32))) (g_a0 : n0 ≤ a0) (ne_a0_bb : a0 ≠ bb) :
    MetFree l (⟨"com/example/subsumer/subsumer/classification/IntList", "pop", "()I"⟩ : MethodName) (head1 (Jvm.Cond.code (⟨"com/example/subsumer/subsumer/classification/IntList", "pop", "()I"⟩ : MethodName) prog_2_method_7_code 1 (some .int) :: ws) rr6_8_5) (fun a U => a = #[(.ref a0)] ∧ Z.Warmed39 U.vm ∧ U.heap = h0) (fun _ _ _ _ _ => True) (fun _ U o U' => ∃ v L, o = .returned v ∧ Q6_8_5 Z a0 bb u0 u1 u2 u3 u4 u5 u6 u7 k_bb h0 n0 v U'.heap L ∧ FrameEnd U o U' L rr6_8_5.cells rr6_8_5.slots) := by
  refine MetFree.of_bodySF (plainFor_of_name pn_1) hisR ?_
  intro p e s m args below meth c s₁ Bd hml0 hP hK
  obtain ⟨rfl, hZ, hh⟩ := hP
  have hx := Bd.exec
  have hby := Bd.bytes
  have hml : c.maxLocals = 1 := hml0
  have hown : s.vm.findClass "com/example/subsumer/subsumer/classification/IntList" = some m.cls := findClass_of_methodNamed Bd.named
  have hnm := (name_of_methodNamed Bd.named Bd.method).1
  have X0 : Stand p l e rr6_8_5 s m #[(.ref a0)] below meth c s₁ [] 0 0 := Stand.of_body Bd
  have e0 : s₁.heap = h0 := by rw [← hh, Bd.state]; rfl
  have N0 := Fr.nil n0
  have K0 := Keep.refl h0 [a0]
  have pre0 : ∀ t, Steps p.tables e below (s₁.setTop (mkF m 0 #[.val (.ref a0)] [])) t → Steps p.tables e below (s₁.setTop (entryFrame m #[(.ref a0)] 1)) t := fun t k => castTop (ef6_8_5 m a0) k
  obtain ⟨T268, X268, e268, st268⟩ := getF X0 hx hZ hown (host := "") (Or.inl (hw _ (List.mem_of_getElem? (i := 15) rfl))) Via.refl e0 F_items_a0 (g := (mkF m 1 #[.val (.ref a0)] [(.ref a0)])) rfl rfl (hb hby d6_1)
  obtain ⟨T269, X269, e269, st269⟩ := getF X268 hx hZ hown (host := "") (Or.inl (hw _ (List.mem_of_getElem? (i := 22) rfl))) Via.refl e268 F_size_a0 (g := (mkF m 6 #[.val (.ref a0)] [(.ref a0), (.ref a0), (.ref bb)])) rfl rfl (hb hby d6_6)
  obtain ⟨T270, h270, X270, e270, W270, st270⟩ := putF X269 hx hZ hown (host := "") (Or.inl (hw _ (List.mem_of_getElem? (i := 22) rfl))) Via.refl e269 F_size_a0 E_a0 (Or.inl (hw _ (List.mem_of_getElem? (i := 23) rfl))) (hw _ (List.mem_of_getElem? (i := 6) rfl)) (ty := .int) (by decide) rfl rfl (g := (mkF m 12 #[.val (.ref a0)] [(.int (4 : Int32)), (.ref a0), (.int (4 : Int32)), (.ref bb)])) rfl rfl (hb hby d6_12)
  have f270w : Fld Z h270 a0 "com/example/subsumer/subsumer/classification/IntList" "size" "I" (.int (4 : Int32)) := F_size_a0.same W270
  have f271 := E_a0.wr W270
  have f272 := F_items_a0.other W270 (Or.inr (slot_ne (Or.inl (hw _ (List.mem_of_getElem? (i := 16) rfl))) (Or.inl (hw _ (List.mem_of_getElem? (i := 23) rfl))) (by decide) (t := (.array .int)) (t' := .int) (by decide) (by decide)))
  have f274 := V_bb.other W270 (Ne.symm ne_a0_bb)
  have K275 := K0.wr W270 (Or.inl (List.mem_of_getElem? (i := 0) rfl))
  have Z276 := Nat.le_trans Z0 (Keep.of_wr W270).1
  have N277 := Fr.snoc X270 N0 g_a0
  obtain ⟨cl278, Ar278, q278, S278, M278, H278, G278⟩ := id f274
  have hin279 : ¬ ((4 : Int32) < 0 ∨ cl278.slots.size ≤ ((4 : Int32)).toNatClampNeg) := inb_of S278 ⟨by decide, by decide⟩
  have hat280 : cl278.slots[((4 : Int32)).toNatClampNeg]? = some (.int u4) := H278.at hin279 rfl
  obtain ⟨fs, hr, hrun, hended, hW, hsame⟩ := X270.leave (v := some (.int u4)) (fun h => by rw [Bd.returns] at h; cases h)
  refine ⟨_, _, pre0 _ ?_, hrun, hended, _, _, rfl, ?_, ⟨_, rfl⟩, hW, hsame.mono (by decide) (by decide)⟩
  · skip
    show Steps p.tables e below (s₁.setTop (mkF m 0 #[.val (.ref a0)] [])) _
    refine XS.aloadN X0.here hx rfl (hb hby d6_0) rfl rfl ?_
    show Steps p.tables e below (s₁.setTop (mkF m 1 #[.val (.ref a0)] [(.ref a0)])) _
    refine st268 _ ?_
    show Steps p.tables e below (T268.setTop (mkF m 4 #[.val (.ref a0)] [(.ref bb)])) _
    refine XS.aloadN X268.here hx rfl (hb hby d6_4) rfl rfl ?_
    show Steps p.tables e below (T268.setTop (mkF m 5 #[.val (.ref a0)] [(.ref a0), (.ref bb)])) _
    refine XS.dup X268.here hx rfl (hb hby d6_5) rfl rfl ?_
    show Steps p.tables e below (T268.setTop (mkF m 6 #[.val (.ref a0)] [(.ref a0), (.ref a0), (.ref bb)])) _
    refine st269 _ ?_
    show Steps p.tables e below (T269.setTop (mkF m 9 #[.val (.ref a0)] [(.int (5 : Int32)), (.ref a0), (.ref bb)])) _
    refine XS.iconst X269.here hx rfl (hb hby d6_9) ?_
    show Steps p.tables e below (T269.setTop (mkF m 10 #[.val (.ref a0)] [(.int (1 : Int32)), (.int (5 : Int32)), (.ref a0), (.ref bb)])) _
    refine XS.isub X269.here hx rfl (hb hby d6_10) rfl ?_
    show Steps p.tables e below (T269.setTop (mkF m 11 #[.val (.ref a0)] [(.int (4 : Int32)), (.ref a0), (.ref bb)])) _
    refine XS.dupX1 X269.here hx rfl (hb hby d6_11) rfl rfl rfl ?_
    show Steps p.tables e below (T269.setTop (mkF m 12 #[.val (.ref a0)] [(.int (4 : Int32)), (.ref a0), (.int (4 : Int32)), (.ref bb)])) _
    refine st270 _ ?_
    show Steps p.tables e below (T270.setTop (mkF m 15 #[.val (.ref a0)] [(.int (4 : Int32)), (.ref bb)])) _
    refine X270.iaload hx (j := (4 : Int32)) (v := (.int u4)) (by rw [e270]; exact Ar278.1) (State.isArrayOf_alike hZ.alike Ar278.2.1) Ar278.2.2 hin279 hat280 (g := (mkF m 15 #[.val (.ref a0)] [(.int (4 : Int32)), (.ref bb)])) rfl rfl (hb hby d6_15) _ ?_
    show Steps p.tables e below (T270.setTop (mkF m 16 #[.val (.ref a0)] [(.int u4)])) _
    exact retOut X270 hx Bd.returns rfl (Or.inl ⟨rfl, Or.inl rfl, _, rfl⟩) (hb hby d6_16) hr
  · show Q6_8_5 Z a0 bb u0 u1 u2 u3 u4 u5 u6 u7 k_bb h0 n0 _ T270.heap _
    rw [e270]
    exact ⟨rfl, N277, K275, f271, f270w, f272⟩
theorem d4_0 : decode prog_2_method_6_code 0 = .ok (.aload_n 0, 1) := by decide +kernel
theorem d4_1 : decode prog_2_method_6_code 1 = .ok (.getfield 13, 3) := by decide +kernel
theorem d4_4 : decode prog_2_method_6_code 4 = .ok (.ifCond .ne 7, 3) := by decide +kernel
theorem d4_7 : decode prog_2_method_6_code 7 = .ok (.iconst 1, 1) := by decide +kernel
theorem d4_8 : decode prog_2_method_6_code 8 = .ok (.goto 4, 3) := by decide +kernel
theorem d4_12 : decode prog_2_method_6_code 12 = .ok (.ireturn, 1) := by decide +kernel
theorem ef4z (m : MethodId) (x0 : Addr) : entryFrame m #[(.ref x0)] 1 = mkF m 0 #[.val (.ref x0)] [] := by first | (simp [entryFrame, mkF, argsToLocals, Value.category]; done) | rfl
abbrev rr4z : Room := { frames := 0, cells := 0, slots := 0, locals := 0 }
def Q4z (Z : State) (a0 : Addr) (h0 : Heap) (n0 : Nat) (v : Option Value) (h : Heap) (L : List Loc) : Prop := v = some (.int (1 : Int32)) ∧ Fr n0 L ∧ h = h0
set_option maxRecDepth 65536 in
set_option maxHeartbeats 40000000 in
theorem rm4z (l : Launch) (Z : State) (aw : Array Value) (hw : ∀ d ∈ tables_1, d.before aw Z = true) (ws : List Jvm.Cond) (a0 : Addr) (h0 : Heap) (n0 : Nat) (Z0 : n0 ≤ h0.size) (E_a0 : Exa Z h0 a0 "com/example/subsumer/subsumer/classification/IntList") (F_size_a0 : Fld Z h0 a0 "com/example/subsumer/subsumer/classification/IntList" "size" "I" (.int (0 : Int32))) :
    MetFree l (⟨"com/example/subsumer/subsumer/classification/IntList", "isEmpty", "()Z"⟩ : MethodName) (head1 (Jvm.Cond.code (⟨"com/example/subsumer/subsumer/classification/IntList", "isEmpty", "()Z"⟩ : MethodName) prog_2_method_6_code 1 (some .boolean) :: ws) rr4z) (fun a U => a = #[(.ref a0)] ∧ Z.Warmed39 U.vm ∧ U.heap = h0) (fun _ _ _ _ _ => True) (fun _ U o U' => ∃ v L, o = .returned v ∧ Q4z Z a0 h0 n0 v U'.heap L ∧ FrameEnd U o U' L rr4z.cells rr4z.slots) := by
  refine MetFree.of_bodySF (plainFor_of_name pn_1) hisR ?_
  intro p e s m args below meth c s₁ Bd hml0 hP hK
  obtain ⟨rfl, hZ, hh⟩ := hP
  have hx := Bd.exec
  have hby := Bd.bytes
  have hml : c.maxLocals = 1 := hml0
  have hown : s.vm.findClass "com/example/subsumer/subsumer/classification/IntList" = some m.cls := findClass_of_methodNamed Bd.named
  have hnm := (name_of_methodNamed Bd.named Bd.method).1
  have X0 : Stand p l e rr4z s m #[(.ref a0)] below meth c s₁ [] 0 0 := Stand.of_body Bd
  have e0 : s₁.heap = h0 := by rw [← hh, Bd.state]; rfl
  have N0 := Fr.nil n0
  have pre0 : ∀ t, Steps p.tables e below (s₁.setTop (mkF m 0 #[.val (.ref a0)] [])) t → Steps p.tables e below (s₁.setTop (entryFrame m #[(.ref a0)] 1)) t := fun t k => castTop (ef4z m a0) k
  obtain ⟨T281, X281, e281, st281⟩ := getF X0 hx hZ hown (host := "") (Or.inl (hw _ (List.mem_of_getElem? (i := 22) rfl))) Via.refl e0 F_size_a0 (g := (mkF m 1 #[.val (.ref a0)] [(.ref a0)])) rfl rfl (hb hby d4_1)
  obtain ⟨fs, hr, hrun, hended, hW, hsame⟩ := X281.leave (v := some (.int (1 : Int32))) (fun h => by rw [Bd.returns] at h; cases h)
  refine ⟨_, _, pre0 _ ?_, hrun, hended, _, _, rfl, ?_, ⟨_, rfl⟩, hW, hsame.mono (by decide) (by decide)⟩
  · skip
    show Steps p.tables e below (s₁.setTop (mkF m 0 #[.val (.ref a0)] [])) _
    refine XS.aloadN X0.here hx rfl (hb hby d4_0) rfl rfl ?_
    show Steps p.tables e below (s₁.setTop (mkF m 1 #[.val (.ref a0)] [(.ref a0)])) _
    refine st281 _ ?_
    show Steps p.tables e below (T281.setTop (mkF m 4 #[.val (.ref a0)] [(.int (0 : Int32))])) _
    refine XS.ifNo X281.here hx rfl (hb hby d4_4) rfl ((if0 _ _).trans (teq (rfl : (0 : Int32) = (0 : Int32))).2) ?_
    show Steps p.tables e below (T281.setTop (mkF m 7 #[.val (.ref a0)] [])) _
    refine XS.iconst X281.here hx rfl (hb hby d4_7) ?_
    show Steps p.tables e below (T281.setTop (mkF m 8 #[.val (.ref a0)] [(.int (1 : Int32))])) _
    refine XS.goto X281.here hx rfl (pc0 := 8) (pc' := 12) rfl (hb hby d4_8) (by decide) (by decide) ?_
    show Steps p.tables e below (T281.setTop (mkF m 12 #[.val (.ref a0)] [(.int (1 : Int32))])) _
    exact retN X281 hx (t := .boolean) Bd.returns (by simp) (hb hby d4_12) hr
  · show Q4z Z a0 h0 n0 _ T281.heap _
    rw [e281]
    exact ⟨rfl, N0, rfl⟩
theorem d4_11 : decode prog_2_method_6_code 11 = .ok (.iconst 0, 1) := by decide +kernel
theorem ef4_1 (m : MethodId) (x0 : Addr) : entryFrame m #[(.ref x0)] 1 = mkF m 0 #[.val (.ref x0)] [] := by first | (simp [entryFrame, mkF, argsToLocals, Value.category]; done) | rfl
abbrev rr4_1 : Room := { frames := 0, cells := 0, slots := 0, locals := 0 }
def Q4_1 (Z : State) (a0 : Addr) (h0 : Heap) (n0 : Nat) (v : Option Value) (h : Heap) (L : List Loc) : Prop := v = some (.int (0 : Int32)) ∧ Fr n0 L ∧ h = h0
set_option maxRecDepth 65536 in
set_option maxHeartbeats 40000000 in
theorem rm4_1 (l : Launch) (Z : State) (aw : Array Value) (hw : ∀ d ∈ tables_1, d.before aw Z = true) (ws : List Jvm.Cond) (a0 : Addr) (h0 : Heap) (n0 : Nat) (Z0 : n0 ≤ h0.size) (E_a0 : Exa Z h0 a0 "com/example/subsumer/subsumer/classification/IntList") (F_size_a0 : Fld Z h0 a0 "com/example/subsumer/subsumer/classification/IntList" "size" "I" (.int (1 : Int32))) :
    MetFree l (⟨"com/example/subsumer/subsumer/classification/IntList", "isEmpty", "()Z"⟩ : MethodName) (head1 (Jvm.Cond.code (⟨"com/example/subsumer/subsumer/classification/IntList", "isEmpty", "()Z"⟩ : MethodName) prog_2_method_6_code 1 (some .boolean) :: ws) rr4_1) (fun a U => a = #[(.ref a0)] ∧ Z.Warmed39 U.vm ∧ U.heap = h0) (fun _ _ _ _ _ => True) (fun _ U o U' => ∃ v L, o = .returned v ∧ Q4_1 Z a0 h0 n0 v U'.heap L ∧ FrameEnd U o U' L rr4_1.cells rr4_1.slots) := by
  refine MetFree.of_bodySF (plainFor_of_name pn_1) hisR ?_
  intro p e s m args below meth c s₁ Bd hml0 hP hK
  obtain ⟨rfl, hZ, hh⟩ := hP
  have hx := Bd.exec
  have hby := Bd.bytes
  have hml : c.maxLocals = 1 := hml0
  have hown : s.vm.findClass "com/example/subsumer/subsumer/classification/IntList" = some m.cls := findClass_of_methodNamed Bd.named
  have hnm := (name_of_methodNamed Bd.named Bd.method).1
  have X0 : Stand p l e rr4_1 s m #[(.ref a0)] below meth c s₁ [] 0 0 := Stand.of_body Bd
  have e0 : s₁.heap = h0 := by rw [← hh, Bd.state]; rfl
  have N0 := Fr.nil n0
  have pre0 : ∀ t, Steps p.tables e below (s₁.setTop (mkF m 0 #[.val (.ref a0)] [])) t → Steps p.tables e below (s₁.setTop (entryFrame m #[(.ref a0)] 1)) t := fun t k => castTop (ef4_1 m a0) k
  obtain ⟨T282, X282, e282, st282⟩ := getF X0 hx hZ hown (host := "") (Or.inl (hw _ (List.mem_of_getElem? (i := 22) rfl))) Via.refl e0 F_size_a0 (g := (mkF m 1 #[.val (.ref a0)] [(.ref a0)])) rfl rfl (hb hby d4_1)
  obtain ⟨fs, hr, hrun, hended, hW, hsame⟩ := X282.leave (v := some (.int (0 : Int32))) (fun h => by rw [Bd.returns] at h; cases h)
  refine ⟨_, _, pre0 _ ?_, hrun, hended, _, _, rfl, ?_, ⟨_, rfl⟩, hW, hsame.mono (by decide) (by decide)⟩
  · skip
    show Steps p.tables e below (s₁.setTop (mkF m 0 #[.val (.ref a0)] [])) _
    refine XS.aloadN X0.here hx rfl (hb hby d4_0) rfl rfl ?_
    show Steps p.tables e below (s₁.setTop (mkF m 1 #[.val (.ref a0)] [(.ref a0)])) _
    refine st282 _ ?_
    show Steps p.tables e below (T282.setTop (mkF m 4 #[.val (.ref a0)] [(.int (1 : Int32))])) _
    refine XS.ifYes X282.here hx rfl (pc0 := 4) (pc' := 11) rfl (hb hby d4_4) rfl ((if0 _ _).trans (feq (by decide : ¬ ((1 : Int32) = (0 : Int32)))).2) (by decide) (by decide) ?_
    show Steps p.tables e below (T282.setTop (mkF m 11 #[.val (.ref a0)] [])) _
    refine XS.iconst X282.here hx rfl (hb hby d4_11) ?_
    show Steps p.tables e below (T282.setTop (mkF m 12 #[.val (.ref a0)] [(.int (0 : Int32))])) _
    exact retN X282 hx (t := .boolean) Bd.returns (by simp) (hb hby d4_12) hr
  · show Q4_1 Z a0 h0 n0 _ T282.heap _
    rw [e282]
    exact ⟨rfl, N0, rfl⟩
theorem ef4_2 (m : MethodId) (x0 : Addr) : entryFrame m #[(.ref x0)] 1 = mkF m 0 #[.val (.ref x0)] [] := by first | (simp [entryFrame, mkF, argsToLocals, Value.category]; done) | rfl
abbrev rr4_2 : Room := { frames := 0, cells := 0, slots := 0, locals := 0 }
def Q4_2 (Z : State) (a0 : Addr) (h0 : Heap) (n0 : Nat) (v : Option Value) (h : Heap) (L : List Loc) : Prop := v = some (.int (0 : Int32)) ∧ Fr n0 L ∧ h = h0
set_option maxRecDepth 65536 in
set_option maxHeartbeats 40000000 in
theorem rm4_2 (l : Launch) (Z : State) (aw : Array Value) (hw : ∀ d ∈ tables_1, d.before aw Z = true) (ws : List Jvm.Cond) (a0 : Addr) (h0 : Heap) (n0 : Nat) (Z0 : n0 ≤ h0.size) (E_a0 : Exa Z h0 a0 "com/example/subsumer/subsumer/classification/IntList") (F_size_a0 : Fld Z h0 a0 "com/example/subsumer/subsumer/classification/IntList" "size" "I" (.int (2 : Int32))) :
    MetFree l (⟨"com/example/subsumer/subsumer/classification/IntList", "isEmpty", "()Z"⟩ : MethodName) (head1 (Jvm.Cond.code (⟨"com/example/subsumer/subsumer/classification/IntList", "isEmpty", "()Z"⟩ : MethodName) prog_2_method_6_code 1 (some .boolean) :: ws) rr4_2) (fun a U => a = #[(.ref a0)] ∧ Z.Warmed39 U.vm ∧ U.heap = h0) (fun _ _ _ _ _ => True) (fun _ U o U' => ∃ v L, o = .returned v ∧ Q4_2 Z a0 h0 n0 v U'.heap L ∧ FrameEnd U o U' L rr4_2.cells rr4_2.slots) := by
  refine MetFree.of_bodySF (plainFor_of_name pn_1) hisR ?_
  intro p e s m args below meth c s₁ Bd hml0 hP hK
  obtain ⟨rfl, hZ, hh⟩ := hP
  have hx := Bd.exec
  have hby := Bd.bytes
  have hml : c.maxLocals = 1 := hml0
  have hown : s.vm.findClass "com/example/subsumer/subsumer/classification/IntList" = some m.cls := findClass_of_methodNamed Bd.named
  have hnm := (name_of_methodNamed Bd.named Bd.method).1
  have X0 : Stand p l e rr4_2 s m #[(.ref a0)] below meth c s₁ [] 0 0 := Stand.of_body Bd
  have e0 : s₁.heap = h0 := by rw [← hh, Bd.state]; rfl
  have N0 := Fr.nil n0
  have pre0 : ∀ t, Steps p.tables e below (s₁.setTop (mkF m 0 #[.val (.ref a0)] [])) t → Steps p.tables e below (s₁.setTop (entryFrame m #[(.ref a0)] 1)) t := fun t k => castTop (ef4_2 m a0) k
  obtain ⟨T283, X283, e283, st283⟩ := getF X0 hx hZ hown (host := "") (Or.inl (hw _ (List.mem_of_getElem? (i := 22) rfl))) Via.refl e0 F_size_a0 (g := (mkF m 1 #[.val (.ref a0)] [(.ref a0)])) rfl rfl (hb hby d4_1)
  obtain ⟨fs, hr, hrun, hended, hW, hsame⟩ := X283.leave (v := some (.int (0 : Int32))) (fun h => by rw [Bd.returns] at h; cases h)
  refine ⟨_, _, pre0 _ ?_, hrun, hended, _, _, rfl, ?_, ⟨_, rfl⟩, hW, hsame.mono (by decide) (by decide)⟩
  · skip
    show Steps p.tables e below (s₁.setTop (mkF m 0 #[.val (.ref a0)] [])) _
    refine XS.aloadN X0.here hx rfl (hb hby d4_0) rfl rfl ?_
    show Steps p.tables e below (s₁.setTop (mkF m 1 #[.val (.ref a0)] [(.ref a0)])) _
    refine st283 _ ?_
    show Steps p.tables e below (T283.setTop (mkF m 4 #[.val (.ref a0)] [(.int (2 : Int32))])) _
    refine XS.ifYes X283.here hx rfl (pc0 := 4) (pc' := 11) rfl (hb hby d4_4) rfl ((if0 _ _).trans (feq (by decide : ¬ ((2 : Int32) = (0 : Int32)))).2) (by decide) (by decide) ?_
    show Steps p.tables e below (T283.setTop (mkF m 11 #[.val (.ref a0)] [])) _
    refine XS.iconst X283.here hx rfl (hb hby d4_11) ?_
    show Steps p.tables e below (T283.setTop (mkF m 12 #[.val (.ref a0)] [(.int (0 : Int32))])) _
    exact retN X283 hx (t := .boolean) Bd.returns (by simp) (hb hby d4_12) hr
  · show Q4_2 Z a0 h0 n0 _ T283.heap _
    rw [e283]
    exact ⟨rfl, N0, rfl⟩
theorem ef4_3 (m : MethodId) (x0 : Addr) : entryFrame m #[(.ref x0)] 1 = mkF m 0 #[.val (.ref x0)] [] := by first | (simp [entryFrame, mkF, argsToLocals, Value.category]; done) | rfl
abbrev rr4_3 : Room := { frames := 0, cells := 0, slots := 0, locals := 0 }
def Q4_3 (Z : State) (a0 : Addr) (h0 : Heap) (n0 : Nat) (v : Option Value) (h : Heap) (L : List Loc) : Prop := v = some (.int (0 : Int32)) ∧ Fr n0 L ∧ h = h0
set_option maxRecDepth 65536 in
set_option maxHeartbeats 40000000 in
theorem rm4_3 (l : Launch) (Z : State) (aw : Array Value) (hw : ∀ d ∈ tables_1, d.before aw Z = true) (ws : List Jvm.Cond) (a0 : Addr) (h0 : Heap) (n0 : Nat) (Z0 : n0 ≤ h0.size) (E_a0 : Exa Z h0 a0 "com/example/subsumer/subsumer/classification/IntList") (F_size_a0 : Fld Z h0 a0 "com/example/subsumer/subsumer/classification/IntList" "size" "I" (.int (3 : Int32))) :
    MetFree l (⟨"com/example/subsumer/subsumer/classification/IntList", "isEmpty", "()Z"⟩ : MethodName) (head1 (Jvm.Cond.code (⟨"com/example/subsumer/subsumer/classification/IntList", "isEmpty", "()Z"⟩ : MethodName) prog_2_method_6_code 1 (some .boolean) :: ws) rr4_3) (fun a U => a = #[(.ref a0)] ∧ Z.Warmed39 U.vm ∧ U.heap = h0) (fun _ _ _ _ _ => True) (fun _ U o U' => ∃ v L, o = .returned v ∧ Q4_3 Z a0 h0 n0 v U'.heap L ∧ FrameEnd U o U' L rr4_3.cells rr4_3.slots) := by
  refine MetFree.of_bodySF (plainFor_of_name pn_1) hisR ?_
  intro p e s m args below meth c s₁ Bd hml0 hP hK
  obtain ⟨rfl, hZ, hh⟩ := hP
  have hx := Bd.exec
  have hby := Bd.bytes
  have hml : c.maxLocals = 1 := hml0
  have hown : s.vm.findClass "com/example/subsumer/subsumer/classification/IntList" = some m.cls := findClass_of_methodNamed Bd.named
  have hnm := (name_of_methodNamed Bd.named Bd.method).1
  have X0 : Stand p l e rr4_3 s m #[(.ref a0)] below meth c s₁ [] 0 0 := Stand.of_body Bd
  have e0 : s₁.heap = h0 := by rw [← hh, Bd.state]; rfl
  have N0 := Fr.nil n0
  have pre0 : ∀ t, Steps p.tables e below (s₁.setTop (mkF m 0 #[.val (.ref a0)] [])) t → Steps p.tables e below (s₁.setTop (entryFrame m #[(.ref a0)] 1)) t := fun t k => castTop (ef4_3 m a0) k
  obtain ⟨T284, X284, e284, st284⟩ := getF X0 hx hZ hown (host := "") (Or.inl (hw _ (List.mem_of_getElem? (i := 22) rfl))) Via.refl e0 F_size_a0 (g := (mkF m 1 #[.val (.ref a0)] [(.ref a0)])) rfl rfl (hb hby d4_1)
  obtain ⟨fs, hr, hrun, hended, hW, hsame⟩ := X284.leave (v := some (.int (0 : Int32))) (fun h => by rw [Bd.returns] at h; cases h)
  refine ⟨_, _, pre0 _ ?_, hrun, hended, _, _, rfl, ?_, ⟨_, rfl⟩, hW, hsame.mono (by decide) (by decide)⟩
  · skip
    show Steps p.tables e below (s₁.setTop (mkF m 0 #[.val (.ref a0)] [])) _
    refine XS.aloadN X0.here hx rfl (hb hby d4_0) rfl rfl ?_
    show Steps p.tables e below (s₁.setTop (mkF m 1 #[.val (.ref a0)] [(.ref a0)])) _
    refine st284 _ ?_
    show Steps p.tables e below (T284.setTop (mkF m 4 #[.val (.ref a0)] [(.int (3 : Int32))])) _
    refine XS.ifYes X284.here hx rfl (pc0 := 4) (pc' := 11) rfl (hb hby d4_4) rfl ((if0 _ _).trans (feq (by decide : ¬ ((3 : Int32) = (0 : Int32)))).2) (by decide) (by decide) ?_
    show Steps p.tables e below (T284.setTop (mkF m 11 #[.val (.ref a0)] [])) _
    refine XS.iconst X284.here hx rfl (hb hby d4_11) ?_
    show Steps p.tables e below (T284.setTop (mkF m 12 #[.val (.ref a0)] [(.int (0 : Int32))])) _
    exact retN X284 hx (t := .boolean) Bd.returns (by simp) (hb hby d4_12) hr
  · show Q4_3 Z a0 h0 n0 _ T284.heap _
    rw [e284]
    exact ⟨rfl, N0, rfl⟩
theorem ef4_4 (m : MethodId) (x0 : Addr) : entryFrame m #[(.ref x0)] 1 = mkF m 0 #[.val (.ref x0)] [] := by first | (simp [entryFrame, mkF, argsToLocals, Value.category]; done) | rfl
abbrev rr4_4 : Room := { frames := 0, cells := 0, slots := 0, locals := 0 }
def Q4_4 (Z : State) (a0 : Addr) (h0 : Heap) (n0 : Nat) (v : Option Value) (h : Heap) (L : List Loc) : Prop := v = some (.int (0 : Int32)) ∧ Fr n0 L ∧ h = h0
set_option maxRecDepth 65536 in
set_option maxHeartbeats 40000000 in
theorem rm4_4 (l : Launch) (Z : State) (aw : Array Value) (hw : ∀ d ∈ tables_1, d.before aw Z = true) (ws : List Jvm.Cond) (a0 : Addr) (h0 : Heap) (n0 : Nat) (Z0 : n0 ≤ h0.size) (E_a0 : Exa Z h0 a0 "com/example/subsumer/subsumer/classification/IntList") (F_size_a0 : Fld Z h0 a0 "com/example/subsumer/subsumer/classification/IntList" "size" "I" (.int (4 : Int32))) :
    MetFree l (⟨"com/example/subsumer/subsumer/classification/IntList", "isEmpty", "()Z"⟩ : MethodName) (head1 (Jvm.Cond.code (⟨"com/example/subsumer/subsumer/classification/IntList", "isEmpty", "()Z"⟩ : MethodName) prog_2_method_6_code 1 (some .boolean) :: ws) rr4_4) (fun a U => a = #[(.ref a0)] ∧ Z.Warmed39 U.vm ∧ U.heap = h0) (fun _ _ _ _ _ => True) (fun _ U o U' => ∃ v L, o = .returned v ∧ Q4_4 Z a0 h0 n0 v U'.heap L ∧ FrameEnd U o U' L rr4_4.cells rr4_4.slots) := by
  refine MetFree.of_bodySF (plainFor_of_name pn_1) hisR ?_
  intro p e s m args below meth c s₁ Bd hml0 hP hK
  obtain ⟨rfl, hZ, hh⟩ := hP
  have hx := Bd.exec
  have hby := Bd.bytes
  have hml : c.maxLocals = 1 := hml0
  have hown : s.vm.findClass "com/example/subsumer/subsumer/classification/IntList" = some m.cls := findClass_of_methodNamed Bd.named
  have hnm := (name_of_methodNamed Bd.named Bd.method).1
  have X0 : Stand p l e rr4_4 s m #[(.ref a0)] below meth c s₁ [] 0 0 := Stand.of_body Bd
  have e0 : s₁.heap = h0 := by rw [← hh, Bd.state]; rfl
  have N0 := Fr.nil n0
  have pre0 : ∀ t, Steps p.tables e below (s₁.setTop (mkF m 0 #[.val (.ref a0)] [])) t → Steps p.tables e below (s₁.setTop (entryFrame m #[(.ref a0)] 1)) t := fun t k => castTop (ef4_4 m a0) k
  obtain ⟨T285, X285, e285, st285⟩ := getF X0 hx hZ hown (host := "") (Or.inl (hw _ (List.mem_of_getElem? (i := 22) rfl))) Via.refl e0 F_size_a0 (g := (mkF m 1 #[.val (.ref a0)] [(.ref a0)])) rfl rfl (hb hby d4_1)
  obtain ⟨fs, hr, hrun, hended, hW, hsame⟩ := X285.leave (v := some (.int (0 : Int32))) (fun h => by rw [Bd.returns] at h; cases h)
  refine ⟨_, _, pre0 _ ?_, hrun, hended, _, _, rfl, ?_, ⟨_, rfl⟩, hW, hsame.mono (by decide) (by decide)⟩
  · skip
    show Steps p.tables e below (s₁.setTop (mkF m 0 #[.val (.ref a0)] [])) _
    refine XS.aloadN X0.here hx rfl (hb hby d4_0) rfl rfl ?_
    show Steps p.tables e below (s₁.setTop (mkF m 1 #[.val (.ref a0)] [(.ref a0)])) _
    refine st285 _ ?_
    show Steps p.tables e below (T285.setTop (mkF m 4 #[.val (.ref a0)] [(.int (4 : Int32))])) _
    refine XS.ifYes X285.here hx rfl (pc0 := 4) (pc' := 11) rfl (hb hby d4_4) rfl ((if0 _ _).trans (feq (by decide : ¬ ((4 : Int32) = (0 : Int32)))).2) (by decide) (by decide) ?_
    show Steps p.tables e below (T285.setTop (mkF m 11 #[.val (.ref a0)] [])) _
    refine XS.iconst X285.here hx rfl (hb hby d4_11) ?_
    show Steps p.tables e below (T285.setTop (mkF m 12 #[.val (.ref a0)] [(.int (0 : Int32))])) _
    exact retN X285 hx (t := .boolean) Bd.returns (by simp) (hb hby d4_12) hr
  · show Q4_4 Z a0 h0 n0 _ T285.heap _
    rw [e285]
    exact ⟨rfl, N0, rfl⟩
theorem ef4_5 (m : MethodId) (x0 : Addr) : entryFrame m #[(.ref x0)] 1 = mkF m 0 #[.val (.ref x0)] [] := by first | (simp [entryFrame, mkF, argsToLocals, Value.category]; done) | rfl
abbrev rr4_5 : Room := { frames := 0, cells := 0, slots := 0, locals := 0 }
def Q4_5 (Z : State) (a0 : Addr) (h0 : Heap) (n0 : Nat) (v : Option Value) (h : Heap) (L : List Loc) : Prop := v = some (.int (0 : Int32)) ∧ Fr n0 L ∧ h = h0
set_option maxRecDepth 65536 in
set_option maxHeartbeats 40000000 in
theorem rm4_5 (l : Launch) (Z : State) (aw : Array Value) (hw : ∀ d ∈ tables_1, d.before aw Z = true) (ws : List Jvm.Cond) (a0 : Addr) (h0 : Heap) (n0 : Nat) (Z0 : n0 ≤ h0.size) (E_a0 : Exa Z h0 a0 "com/example/subsumer/subsumer/classification/IntList") (F_size_a0 : Fld Z h0 a0 "com/example/subsumer/subsumer/classification/IntList" "size" "I" (.int (5 : Int32))) :
    MetFree l (⟨"com/example/subsumer/subsumer/classification/IntList", "isEmpty", "()Z"⟩ : MethodName) (head1 (Jvm.Cond.code (⟨"com/example/subsumer/subsumer/classification/IntList", "isEmpty", "()Z"⟩ : MethodName) prog_2_method_6_code 1 (some .boolean) :: ws) rr4_5) (fun a U => a = #[(.ref a0)] ∧ Z.Warmed39 U.vm ∧ U.heap = h0) (fun _ _ _ _ _ => True) (fun _ U o U' => ∃ v L, o = .returned v ∧ Q4_5 Z a0 h0 n0 v U'.heap L ∧ FrameEnd U o U' L rr4_5.cells rr4_5.slots) := by
  refine MetFree.of_bodySF (plainFor_of_name pn_1) hisR ?_
  intro p e s m args below meth c s₁ Bd hml0 hP hK
  obtain ⟨rfl, hZ, hh⟩ := hP
  have hx := Bd.exec
  have hby := Bd.bytes
  have hml : c.maxLocals = 1 := hml0
  have hown : s.vm.findClass "com/example/subsumer/subsumer/classification/IntList" = some m.cls := findClass_of_methodNamed Bd.named
  have hnm := (name_of_methodNamed Bd.named Bd.method).1
  have X0 : Stand p l e rr4_5 s m #[(.ref a0)] below meth c s₁ [] 0 0 := Stand.of_body Bd
  have e0 : s₁.heap = h0 := by rw [← hh, Bd.state]; rfl
  have N0 := Fr.nil n0
  have pre0 : ∀ t, Steps p.tables e below (s₁.setTop (mkF m 0 #[.val (.ref a0)] [])) t → Steps p.tables e below (s₁.setTop (entryFrame m #[(.ref a0)] 1)) t := fun t k => castTop (ef4_5 m a0) k
  obtain ⟨T286, X286, e286, st286⟩ := getF X0 hx hZ hown (host := "") (Or.inl (hw _ (List.mem_of_getElem? (i := 22) rfl))) Via.refl e0 F_size_a0 (g := (mkF m 1 #[.val (.ref a0)] [(.ref a0)])) rfl rfl (hb hby d4_1)
  obtain ⟨fs, hr, hrun, hended, hW, hsame⟩ := X286.leave (v := some (.int (0 : Int32))) (fun h => by rw [Bd.returns] at h; cases h)
  refine ⟨_, _, pre0 _ ?_, hrun, hended, _, _, rfl, ?_, ⟨_, rfl⟩, hW, hsame.mono (by decide) (by decide)⟩
  · skip
    show Steps p.tables e below (s₁.setTop (mkF m 0 #[.val (.ref a0)] [])) _
    refine XS.aloadN X0.here hx rfl (hb hby d4_0) rfl rfl ?_
    show Steps p.tables e below (s₁.setTop (mkF m 1 #[.val (.ref a0)] [(.ref a0)])) _
    refine st286 _ ?_
    show Steps p.tables e below (T286.setTop (mkF m 4 #[.val (.ref a0)] [(.int (5 : Int32))])) _
    refine XS.ifYes X286.here hx rfl (pc0 := 4) (pc' := 11) rfl (hb hby d4_4) rfl ((if0 _ _).trans (feq (by decide : ¬ ((5 : Int32) = (0 : Int32)))).2) (by decide) (by decide) ?_
    show Steps p.tables e below (T286.setTop (mkF m 11 #[.val (.ref a0)] [])) _
    refine XS.iconst X286.here hx rfl (hb hby d4_11) ?_
    show Steps p.tables e below (T286.setTop (mkF m 12 #[.val (.ref a0)] [(.int (0 : Int32))])) _
    exact retN X286 hx (t := .boolean) Bd.returns (by simp) (hb hby d4_12) hr
  · show Q4_5 Z a0 h0 n0 _ T286.heap _
    rw [e286]
    exact ⟨rfl, N0, rfl⟩
theorem d1_9 : decode jdk_29_method_69_code 9 = .ok (.iload_n 1, 1) := by decide +kernel
def j1g_0 (p0 : Int32) (p1 : Int32) : Int32 := (if p1 < p0 then p1 else p0)
theorem ef1g (m : MethodId) (x0 : Int32) (x1 : Int32) : entryFrame m #[(.int x0), (.int x1)] 2 = mkF m 0 #[.val (.int x0), .val (.int x1)] [] := by first | (simp [entryFrame, mkF, argsToLocals, Value.category]; done) | rfl
abbrev rr1g : Room := { frames := 0, cells := 0, slots := 0, locals := 0 }
def Q1g (Z : State) (p0 : Int32) (p1 : Int32) (h0 : Heap) (n0 : Nat) (v : Option Value) (h : Heap) (L : List Loc) : Prop := v = some (.int (j1g_0 p0 p1)) ∧ Fr n0 L ∧ h = h0
set_option maxRecDepth 65536 in
set_option maxHeartbeats 40000000 in
theorem rm1g (l : Launch) (Z : State) (aw : Array Value) (hw : ∀ d ∈ tables_1, d.before aw Z = true) (ws : List Jvm.Cond) (p0 : Int32) (p1 : Int32) (h0 : Heap) (n0 : Nat) (Z0 : n0 ≤ h0.size)  :
    MetFree l (⟨"java/lang/Math", "min", "(II)I"⟩ : MethodName) (head1 (Jvm.Cond.code (⟨"java/lang/Math", "min", "(II)I"⟩ : MethodName) jdk_29_method_69_code 2 (some .int) :: ws) rr1g) (fun a U => a = #[(.int p0), (.int p1)] ∧ Z.Warmed39 U.vm ∧ U.heap = h0) (fun _ _ _ _ _ => True) (fun _ U o U' => ∃ v L, o = .returned v ∧ Q1g Z p0 p1 h0 n0 v U'.heap L ∧ FrameEnd U o U' L rr1g.cells rr1g.slots) := by
  refine MetFree.of_bodySF (Jvm.Free.JP.mathPlain rfl (by decide +kernel)) hisR ?_
  intro p e s m args below meth c s₁ Bd hml0 hP hK
  obtain ⟨rfl, hZ, hh⟩ := hP
  have hx := Bd.exec
  have hby := Bd.bytes
  have hml : c.maxLocals = 2 := hml0
  have hown : s.vm.findClass "java/lang/Math" = some m.cls := findClass_of_methodNamed Bd.named
  have hnm := (name_of_methodNamed Bd.named Bd.method).1
  have X0 : Stand p l e rr1g s m #[(.int p0), (.int p1)] below meth c s₁ [] 0 0 := Stand.of_body Bd
  have e0 : s₁.heap = h0 := by rw [← hh, Bd.state]; rfl
  have N0 := Fr.nil n0
  have pre0 : ∀ t, Steps p.tables e below (s₁.setTop (mkF m 0 #[.val (.int p0), .val (.int p1)] [])) t → Steps p.tables e below (s₁.setTop (entryFrame m #[(.int p0), (.int p1)] 2)) t := fun t k => castTop (ef1g m p0 p1) k
  have pre287 := fun (t : State) (k : Steps p.tables e below (s₁.setTop (mkF m 2 #[.val (.int p0), .val (.int p1)] [(.int p1), (.int p0)])) t) => pre0 t (by
    show Steps p.tables e below (s₁.setTop (mkF m 0 #[.val (.int p0), .val (.int p1)] [])) _
    refine XS.iloadN X0.here hx rfl (hb hby d1_0) rfl ?_
    show Steps p.tables e below (s₁.setTop (mkF m 1 #[.val (.int p0), .val (.int p1)] [(.int p0)])) _
    refine XS.iloadN X0.here hx rfl (hb hby d1_1) rfl ?_
    exact k)
  have pre288 := fun (t : State) (k : Steps p.tables e below (s₁.setTop (mkF m 10 #[.val (.int p0), .val (.int p1)] [(.int (j1g_0 p0 p1))])) t) => pre287 t (by
    by_cases hc289 : p1 < p0
    · skip
      show Steps p.tables e below (s₁.setTop (mkF m 2 #[.val (.int p0), .val (.int p1)] [(.int p1), (.int p0)])) _
      refine XS.icmpYes X0.here hx rfl (pc0 := 2) (pc' := 9) rfl (hb hby d1_2) rfl (tlt hc289).2.2.1 (by decide) (by decide) ?_
      show Steps p.tables e below (s₁.setTop (mkF m 9 #[.val (.int p0), .val (.int p1)] [])) _
      refine XS.iloadN X0.here hx rfl (hb hby d1_9) rfl ?_
      have hj290 : (j1g_0 p0 p1) = p1 := by unfold j1g_0; first | (rw [if_pos hc289]) | (simp only [if_pos hc289])
      rw [hj290] at k
      exact k
    · skip
      show Steps p.tables e below (s₁.setTop (mkF m 2 #[.val (.int p0), .val (.int p1)] [(.int p1), (.int p0)])) _
      refine XS.icmpNo X0.here hx rfl (hb hby d1_2) rfl (flt hc289).2.2.1 ?_
      show Steps p.tables e below (s₁.setTop (mkF m 5 #[.val (.int p0), .val (.int p1)] [])) _
      refine XS.iloadN X0.here hx rfl (hb hby d1_5) rfl ?_
      show Steps p.tables e below (s₁.setTop (mkF m 6 #[.val (.int p0), .val (.int p1)] [(.int p0)])) _
      refine XS.goto X0.here hx rfl (pc0 := 6) (pc' := 10) rfl (hb hby d1_6) (by decide) (by decide) ?_
      have hj291 : (j1g_0 p0 p1) = p0 := by unfold j1g_0; first | (rw [if_neg hc289]) | (simp only [if_neg hc289])
      rw [hj291] at k
      exact k)
  obtain ⟨fs, hr, hrun, hended, hW, hsame⟩ := X0.leave (v := some (.int (j1g_0 p0 p1))) (fun h => by rw [Bd.returns] at h; cases h)
  refine ⟨_, _, pre288 _ ?_, hrun, hended, _, _, rfl, ?_, ⟨_, rfl⟩, hW, hsame.mono (by decide) (by decide)⟩
  · skip
    show Steps p.tables e below (s₁.setTop (mkF m 10 #[.val (.int p0), .val (.int p1)] [(.int (j1g_0 p0 p1))])) _
    exact retOut X0 hx Bd.returns rfl (Or.inl ⟨rfl, Or.inl rfl, _, rfl⟩) (hb hby d1_10) hr
  · show Q1g Z p0 p1 h0 n0 _ s₁.heap _
    rw [e0]
    exact ⟨rfl, N0, rfl⟩
theorem own_up {j k n : Int32} (h : ¬ j < n) (q : ¬ k < j) : ¬ k < n := by
  rw [Int32.lt_iff_toInt_lt] at *; omega
theorem own_dn {j k n : Int32} (h : j < n) (q : ¬ j < k) : k < n := by
  rw [Int32.lt_iff_toInt_lt] at *; omega
theorem own_min (a b : Int32) : ¬ a < (j1g_0 a b) := by
  unfold j1g_0; split
  · rename_i h; exact Int32.lt_asymm h
  · exact Int32.lt_irrefl
theorem own_mn {k a b : Int32} (h : ¬ k < a) : ¬ k < (j1g_0 a b) := by
  have q := own_min a b
  rw [Int32.lt_iff_toInt_lt] at *; omega
theorem pd_4 : parseMethodDescriptor "()V" = some ⟨[], none⟩ := by decide +kernel
theorem pd_5 : parseMethodDescriptor "()Z" = some ⟨[], some .boolean⟩ := by decide +kernel
theorem pd_6 : parseMethodDescriptor "(I)V" = some ⟨[.int], none⟩ := by decide +kernel
theorem pd_7 : parseMethodDescriptor "()I" = some ⟨[], some .int⟩ := by decide +kernel
def j0_0 (p0 : Int32) (p1 : Int32) : Int32 := (if ((p0 &&& (2147483647 : Int32)) % (6 : Int32)) = (j1g_0 ((p0 &&& (2147483647 : Int32)) % (6 : Int32)) ((p1 &&& (2147483647 : Int32)) % (6 : Int32))) then (1 : Int32) else (0 : Int32))
def j0_1 (p0 : Int32) (p1 : Int32) : Int32 := (if (1 : Int32) = (j0_0 p0 p1) then (1 : Int32) else (0 : Int32))
def j0_2 (p0 : Int32) (p1 : Int32) : Int32 := (if (0 : Int32) = (j0_0 p0 p1) then (1 : Int32) else (0 : Int32))
def v0 (p0 : Int32) (p1 : Int32) : Int32 := (if (0 : Int32) < ((p0 &&& (2147483647 : Int32)) % (6 : Int32)) then (if (1 : Int32) < ((p0 &&& (2147483647 : Int32)) % (6 : Int32)) then (if (2 : Int32) < ((p0 &&& (2147483647 : Int32)) % (6 : Int32)) then (if (3 : Int32) < ((p0 &&& (2147483647 : Int32)) % (6 : Int32)) then (if (4 : Int32) < ((p0 &&& (2147483647 : Int32)) % (6 : Int32)) then (if (0 : Int32) < (j1g_0 ((p0 &&& (2147483647 : Int32)) % (6 : Int32)) ((p1 &&& (2147483647 : Int32)) % (6 : Int32))) then (if (1 : Int32) < (j1g_0 ((p0 &&& (2147483647 : Int32)) % (6 : Int32)) ((p1 &&& (2147483647 : Int32)) % (6 : Int32))) then (if (2 : Int32) < (j1g_0 ((p0 &&& (2147483647 : Int32)) % (6 : Int32)) ((p1 &&& (2147483647 : Int32)) % (6 : Int32))) then (if (3 : Int32) < (j1g_0 ((p0 &&& (2147483647 : Int32)) % (6 : Int32)) ((p1 &&& (2147483647 : Int32)) % (6 : Int32))) then (if (4 : Int32) < (j1g_0 ((p0 &&& (2147483647 : Int32)) % (6 : Int32)) ((p1 &&& (2147483647 : Int32)) % (6 : Int32))) then (nar .boolean (j0_1 p0 p1)) else (nar .boolean (j0_2 p0 p1))) else (nar .boolean (j0_2 p0 p1))) else (nar .boolean (j0_2 p0 p1))) else (nar .boolean (j0_2 p0 p1))) else (nar .boolean (j0_2 p0 p1))) else (if (0 : Int32) < (j1g_0 ((p0 &&& (2147483647 : Int32)) % (6 : Int32)) ((p1 &&& (2147483647 : Int32)) % (6 : Int32))) then (if (1 : Int32) < (j1g_0 ((p0 &&& (2147483647 : Int32)) % (6 : Int32)) ((p1 &&& (2147483647 : Int32)) % (6 : Int32))) then (if (2 : Int32) < (j1g_0 ((p0 &&& (2147483647 : Int32)) % (6 : Int32)) ((p1 &&& (2147483647 : Int32)) % (6 : Int32))) then (if (3 : Int32) < (j1g_0 ((p0 &&& (2147483647 : Int32)) % (6 : Int32)) ((p1 &&& (2147483647 : Int32)) % (6 : Int32))) then (nar .boolean (j0_1 p0 p1)) else (nar .boolean (j0_2 p0 p1))) else (nar .boolean (j0_2 p0 p1))) else (nar .boolean (j0_2 p0 p1))) else (nar .boolean (j0_2 p0 p1)))) else (if (0 : Int32) < (j1g_0 ((p0 &&& (2147483647 : Int32)) % (6 : Int32)) ((p1 &&& (2147483647 : Int32)) % (6 : Int32))) then (if (1 : Int32) < (j1g_0 ((p0 &&& (2147483647 : Int32)) % (6 : Int32)) ((p1 &&& (2147483647 : Int32)) % (6 : Int32))) then (if (2 : Int32) < (j1g_0 ((p0 &&& (2147483647 : Int32)) % (6 : Int32)) ((p1 &&& (2147483647 : Int32)) % (6 : Int32))) then (nar .boolean (j0_1 p0 p1)) else (nar .boolean (j0_2 p0 p1))) else (nar .boolean (j0_2 p0 p1))) else (nar .boolean (j0_2 p0 p1)))) else (if (0 : Int32) < (j1g_0 ((p0 &&& (2147483647 : Int32)) % (6 : Int32)) ((p1 &&& (2147483647 : Int32)) % (6 : Int32))) then (if (1 : Int32) < (j1g_0 ((p0 &&& (2147483647 : Int32)) % (6 : Int32)) ((p1 &&& (2147483647 : Int32)) % (6 : Int32))) then (nar .boolean (j0_1 p0 p1)) else (nar .boolean (j0_2 p0 p1))) else (nar .boolean (j0_2 p0 p1)))) else (if (0 : Int32) < (j1g_0 ((p0 &&& (2147483647 : Int32)) % (6 : Int32)) ((p1 &&& (2147483647 : Int32)) % (6 : Int32))) then (nar .boolean (j0_1 p0 p1)) else (nar .boolean (j0_2 p0 p1)))) else (nar .boolean (j0_1 p0 p1)))
theorem pn_3 : plainName "com/example/subsumer/subsumer/classification/IntListIsEmptyPinLaw" = true := by first | (simp [plainName, overriddenIn]; done) | decide +kernel
theorem ef0 (m : MethodId) (x0 : Int32) (x1 : Int32) (x2 : Int32) (x3 : Int32) : entryFrame m #[(.int x0), (.int x1), (.int x2), (.int x3)] maxLocals = mkF m 0 #[.val (.int x0), .val (.int x1), .val (.int x2), .val (.int x3), .unset, .unset, .unset, .unset] [] := by first | (simp [entryFrame, mkF, argsToLocals, Value.category, maxLocals]; done) | rfl
def Q0 (Z : State) (p0 : Int32) (p1 : Int32) (p2 : Int32) (p3 : Int32) (h0 : Heap) (n0 : Nat) (v : Option Value) (h : Heap) (L : List Loc) : Prop := v = some (.int (v0 p0 p1)) ∧ Fr n0 L
set_option maxRecDepth 65536 in
set_option maxHeartbeats 40000000 in
theorem rm0 (l : Launch) (Z : State) (aw : Array Value) (hw : ∀ d ∈ tables_1, d.before aw Z = true) (ws : List Jvm.Cond) (p0 : Int32) (p1 : Int32) (p2 : Int32) (p3 : Int32) (h0 : Heap) (n0 : Nat) (Z0 : n0 ≤ h0.size)  :
    MetFree l x (head1 (Jvm.Cond.code x code maxLocals ret :: ws) room_1) (fun a U => a = #[(.int p0), (.int p1), (.int p2), (.int p3)] ∧ Z.Warmed39 U.vm ∧ U.heap = h0) (fun _ _ _ _ _ => True) (fun _ U o U' => ∃ v L, o = .returned v ∧ Q0 Z p0 p1 p2 p3 h0 n0 v U'.heap L ∧ FrameEnd U o U' L room_1.cells room_1.slots) := by
  refine MetFree.of_bodySF (plainFor_of_name pn_3) hisR ?_
  intro p e s m args below meth c s₁ Bd hml0 hP hK
  obtain ⟨rfl, hZ, hh⟩ := hP
  have hx := Bd.exec
  have hby := Bd.bytes
  have hml : c.maxLocals = 8 := hml0
  have hown : s.vm.findClass "com/example/subsumer/subsumer/classification/IntListIsEmptyPinLaw" = some m.cls := findClass_of_methodNamed Bd.named
  have hnm := (name_of_methodNamed Bd.named Bd.method).1
  have X0 : Stand p l e room_1 s m #[(.int p0), (.int p1), (.int p2), (.int p3)] below meth c s₁ [] 0 0 := Stand.of_body Bd
  have e0 : s₁.heap = h0 := by rw [← hh, Bd.state]; rfl
  have N0 := Fr.nil n0
  have pre0 : ∀ t, Steps p.tables e below (s₁.setTop (mkF m 0 #[.val (.int p0), .val (.int p1), .val (.int p2), .val (.int p3), .unset, .unset, .unset, .unset] [])) t → Steps p.tables e below (s₁.setTop (entryFrame m #[(.int p0), (.int p1), (.int p2), (.int p3)] maxLocals)) t := fun t k => castTop (ef0 m p0 p1 p2 p3) k
  obtain ⟨_, _, ⟨T292, L292, k292, n292⟩, -, X292, ⟨Lc292, hQ292, l292, y292, z292⟩, st292⟩ := Jvm.LawKit.callS X0 hx (y := (⟨"java/lang/Math", "min", "(II)I"⟩ : MethodName)) hown (mvT hZ (hw _ (List.mem_of_getElem? (i := 1) rfl))) (mvT hZ (hw _ (List.mem_of_getElem? (i := 2) rfl))) (mvT hZ (hw _ (List.mem_of_getElem? (i := 3) rfl))) (mvT hZ (hw _ (List.mem_of_getElem? (i := 4) rfl))) (by decide) (backOf (W := 0) (rm1g l Z aw hw [] (((p0 &&& (2147483647 : Int32)) % (6 : Int32))) (((p1 &&& (2147483647 : Int32)) % (6 : Int32))) h0 n0 Z0 ) hZ (hw _ (List.mem_of_getElem? (i := 4) rfl)) (hw _ (List.mem_of_getElem? (i := 3) rfl)) (by decide) (by decide)) (g := (mkF m 18 #[.val (.int p0), .val (.int p1), .val (.int p2), .val (.int p3), .val (.int ((p0 &&& (2147483647 : Int32)) % (6 : Int32))), .unset, .unset, .unset] [(.int ((p1 &&& (2147483647 : Int32)) % (6 : Int32))), (.int ((p0 &&& (2147483647 : Int32)) % (6 : Int32)))])) rfl (by rw [hml]; rfl) (argsL := [(.int ((p0 &&& (2147483647 : Int32)) % (6 : Int32))), (.int ((p1 &&& (2147483647 : Int32)) % (6 : Int32)))]) (rest := []) (lenOf pd_1 rfl) rfl (by show 2 * 0 + _ ≤ _; exact Nat.le_of_eq rfl) (hb hby at_18) (fun _ _ => ⟨rfl, e0, (by decide : 0 + 0 ≤ _), (by decide : 0 + 0 ≤ _)⟩)
  dsimp only [Pt.U, Pt.locs, Pt.cells, Pt.slots] at X292 l292 y292 z292 st292 hQ292
  subst l292 y292 z292
  obtain ⟨rfl, N292q, e292⟩ := hQ292
  have N292 := Fr.app N0 N292q
  obtain ⟨T293, h293, X293, e293, E293, A293, D293, -, st293⟩ := newO X292 hx hZ hown (hw _ (List.mem_of_getElem? (i := 5) rfl)) (hw _ (List.mem_of_getElem? (i := 6) rfl)) (hw _ (List.mem_of_getElem? (i := 7) rfl)) e292 (g := (mkF m 23 #[.val (.int p0), .val (.int p1), .val (.int p2), .val (.int p3), .val (.int ((p0 &&& (2147483647 : Int32)) % (6 : Int32))), .val (.int (j1g_0 ((p0 &&& (2147483647 : Int32)) % (6 : Int32)) ((p1 &&& (2147483647 : Int32)) % (6 : Int32)))), .unset, .unset] [])) rfl (hb hby at_23) (by decide) (by decide)
  obtain ⟨b293, gg293⟩ : ∃ z, z = h0.size := ⟨_, rfl⟩
  rw [← gg293] at A293 D293 st293
  have g_b293 : n0 ≤ b293 := Nat.le_trans Z0 (Nat.le_of_eq gg293.symm)
  have Z294 := Nat.le_trans Z0 E293.1
  have f295 : Fld Z h293 b293 "com/example/subsumer/subsumer/classification/IntList" "items" "[I" .null := D293 (Or.inl (hw _ (List.mem_of_getElem? (i := 16) rfl))) (ty := (.array .int)) (by decide)
  have f296 : Fld Z h293 b293 "com/example/subsumer/subsumer/classification/IntList" "size" "I" (.int (0 : Int32)) := D293 (Or.inl (hw _ (List.mem_of_getElem? (i := 23) rfl))) (ty := .int) (by decide)
  obtain ⟨_, _, ⟨T297, L297, k297, n297⟩, -, X297, ⟨Lc297, hQ297, l297, y297, z297⟩, st297⟩ := X293.specialBack hx (y := (⟨"com/example/subsumer/subsumer/classification/IntList", "<init>", "()V"⟩ : MethodName)) rfl hown (mvT hZ (hw _ (List.mem_of_getElem? (i := 8) rfl))) (mvT hZ (hw _ (List.mem_of_getElem? (i := 9) rfl))) (mvT hZ (hw _ (List.mem_of_getElem? (i := 10) rfl))) (by decide) (backOf (W := 1) (rm2 l Z aw hw [] b293 h293 n0 Z294 A293 f295 f296 g_b293) hZ (hw _ (List.mem_of_getElem? (i := 10) rfl)) (hw _ (List.mem_of_getElem? (i := 7) rfl)) (by decide) (by decide)) (g := (mkF m 27 #[.val (.int p0), .val (.int p1), .val (.int p2), .val (.int p3), .val (.int ((p0 &&& (2147483647 : Int32)) % (6 : Int32))), .val (.int (j1g_0 ((p0 &&& (2147483647 : Int32)) % (6 : Int32)) ((p1 &&& (2147483647 : Int32)) % (6 : Int32)))), .unset, .unset] [(.ref b293), (.ref b293)])) rfl (by rw [hml]; rfl) (Steps.refl _) (a := b293) (argsL := []) (rest := [(.ref b293)]) (lenOf pd_4 rfl) rfl (by show 2 * 0 + _ ≤ _; exact Nat.le_of_eq rfl) (hb hby at_27) (fun _ _ => ⟨rfl, e293, (by decide : 1 + 1 ≤ _), (by decide : 2 + 4 ≤ _)⟩)
  dsimp only [Pt.U, Pt.locs, Pt.cells, Pt.slots] at X297 l297 y297 z297 st297 hQ297
  subst l297 y297 z297
  obtain ⟨h297, e297⟩ : ∃ z, T297.heap = z := ⟨_, rfl⟩
  rw [e297] at hQ297
  obtain ⟨cx0297, cy0297, rfl, N297q, K297q, g_cx0297, zz_cx0297, f298, f299, f300, f301⟩ := hQ297
  have f302 := A293.keep K297q
  have ne305 : b293 ≠ cx0297 := Nat.ne_of_lt (Nat.lt_of_lt_of_le A293.lt zz_cx0297)
  have Z297 := Nat.le_trans Z294 K297q.1
  have N297 := Fr.app N292 N297q
  obtain ⟨cq306, kq306, q306a, q306b, q306c⟩ := isOf hZ e297 f298
  obtain ⟨_, _, ⟨T306, L306, k306, n306⟩, -, X306, ⟨Lc306, hQ306, l306, y306, z306⟩, st306⟩ := X297.virtualBack hx (y := (⟨"com/example/subsumer/subsumer/classification/IntList", "isEmpty", "()Z"⟩ : MethodName)) (z := (⟨"com/example/subsumer/subsumer/classification/IntList", "isEmpty", "()Z"⟩ : MethodName)) hown (mvT hZ (hw _ (List.mem_of_getElem? (i := 17) rfl))) (mvT hZ (hw _ (List.mem_of_getElem? (i := 18) rfl))) (notFace_of_selects (args := #[]) (mvT hZ (hw _ (List.mem_of_getElem? (i := 20) rfl)))) (mvT hZ (hw _ (List.mem_of_getElem? (i := 20) rfl))) (mvT hZ (hw _ (List.mem_of_getElem? (i := 19) rfl))) (by decide) (backOf (W := 0) (rm4z l Z aw hw [] b293 h297 n0 Z297 f298 f299) hZ (hw _ (List.mem_of_getElem? (i := 21) rfl)) (hw _ (List.mem_of_getElem? (i := 7) rfl)) (by decide) (by decide)) q306a q306c (g := (mkF m 34 #[.val (.int p0), .val (.int p1), .val (.int p2), .val (.int p3), .val (.int ((p0 &&& (2147483647 : Int32)) % (6 : Int32))), .val (.int (j1g_0 ((p0 &&& (2147483647 : Int32)) % (6 : Int32)) ((p1 &&& (2147483647 : Int32)) % (6 : Int32)))), .val (.ref b293), .unset] [(.ref b293)])) rfl (by rw [hml]; rfl) (Steps.refl _) (argsL := []) (rest := []) (lenOf pd_5 rfl) rfl (by show 2 * 0 + _ ≤ _; exact Nat.le_of_eq rfl) (hb hby at_34) (fun _ _ => ⟨rfl, e297, (by decide : 2 + 0 ≤ _), (by decide : 6 + 0 ≤ _)⟩)
  dsimp only [Pt.U, Pt.locs, Pt.cells, Pt.slots] at X306 l306 y306 z306 st306 hQ306
  subst l306 y306 z306
  obtain ⟨rfl, N306q, e306⟩ := hQ306
  have N306 := Fr.app N297 N306q
  have pre308 := fun (t : State) (k : Steps p.tables e below (T306.setTop (mkF m 41 #[.val (.int p0), .val (.int p1), .val (.int p2), .val (.int p3), .val (.int ((p0 &&& (2147483647 : Int32)) % (6 : Int32))), .val (.int (j1g_0 ((p0 &&& (2147483647 : Int32)) % (6 : Int32)) ((p1 &&& (2147483647 : Int32)) % (6 : Int32)))), .val (.ref b293), .val (.int (1 : Int32))] [(.int ((p0 &&& (2147483647 : Int32)) % (6 : Int32)))])) t) => pre0 t (by
    show Steps p.tables e below (s₁.setTop (mkF m 0 #[.val (.int p0), .val (.int p1), .val (.int p2), .val (.int p3), .unset, .unset, .unset, .unset] [])) _
    refine XS.iloadN X0.here hx rfl (hb hby at_0) rfl ?_
    show Steps p.tables e below (s₁.setTop (mkF m 1 #[.val (.int p0), .val (.int p1), .val (.int p2), .val (.int p3), .unset, .unset, .unset, .unset] [(.int p0)])) _
    refine X0.ldcInt hx hown (mvT hZ (hw _ (List.mem_of_getElem? (i := 0) rfl))) (g := (mkF m 1 #[.val (.int p0), .val (.int p1), .val (.int p2), .val (.int p3), .unset, .unset, .unset, .unset] [(.int p0)])) rfl (hb hby at_1) _ ?_
    show Steps p.tables e below (s₁.setTop (mkF m 3 #[.val (.int p0), .val (.int p1), .val (.int p2), .val (.int p3), .unset, .unset, .unset, .unset] [(.int (2147483647 : Int32)), (.int p0)])) _
    refine XS.iand X0.here hx rfl (hb hby at_3) rfl ?_
    show Steps p.tables e below (s₁.setTop (mkF m 4 #[.val (.int p0), .val (.int p1), .val (.int p2), .val (.int p3), .unset, .unset, .unset, .unset] [(.int (p0 &&& (2147483647 : Int32)))])) _
    refine XS.bipush X0.here hx rfl (hb hby at_4) ?_
    show Steps p.tables e below (s₁.setTop (mkF m 6 #[.val (.int p0), .val (.int p1), .val (.int p2), .val (.int p3), .unset, .unset, .unset, .unset] [(.int (6 : Int32)), (.int (p0 &&& (2147483647 : Int32)))])) _
    refine iremM X0 hx rfl (hb hby at_6) rfl (by decide) ?_
    show Steps p.tables e below (s₁.setTop (mkF m 7 #[.val (.int p0), .val (.int p1), .val (.int p2), .val (.int p3), .unset, .unset, .unset, .unset] [(.int ((p0 &&& (2147483647 : Int32)) % (6 : Int32)))])) _
    refine XS.istore X0.here hx rfl (hb hby at_7) rfl (l' := #[.val (.int p0), .val (.int p1), .val (.int p2), .val (.int p3), .val (.int ((p0 &&& (2147483647 : Int32)) % (6 : Int32))), .unset, .unset, .unset]) rfl ?_
    show Steps p.tables e below (s₁.setTop (mkF m 9 #[.val (.int p0), .val (.int p1), .val (.int p2), .val (.int p3), .val (.int ((p0 &&& (2147483647 : Int32)) % (6 : Int32))), .unset, .unset, .unset] [])) _
    refine XS.iload X0.here hx rfl (hb hby at_9) rfl ?_
    show Steps p.tables e below (s₁.setTop (mkF m 11 #[.val (.int p0), .val (.int p1), .val (.int p2), .val (.int p3), .val (.int ((p0 &&& (2147483647 : Int32)) % (6 : Int32))), .unset, .unset, .unset] [(.int ((p0 &&& (2147483647 : Int32)) % (6 : Int32)))])) _
    refine XS.iloadN X0.here hx rfl (hb hby at_11) rfl ?_
    show Steps p.tables e below (s₁.setTop (mkF m 12 #[.val (.int p0), .val (.int p1), .val (.int p2), .val (.int p3), .val (.int ((p0 &&& (2147483647 : Int32)) % (6 : Int32))), .unset, .unset, .unset] [(.int p1), (.int ((p0 &&& (2147483647 : Int32)) % (6 : Int32)))])) _
    refine X0.ldcInt hx hown (mvT hZ (hw _ (List.mem_of_getElem? (i := 0) rfl))) (g := (mkF m 12 #[.val (.int p0), .val (.int p1), .val (.int p2), .val (.int p3), .val (.int ((p0 &&& (2147483647 : Int32)) % (6 : Int32))), .unset, .unset, .unset] [(.int p1), (.int ((p0 &&& (2147483647 : Int32)) % (6 : Int32)))])) rfl (hb hby at_12) _ ?_
    show Steps p.tables e below (s₁.setTop (mkF m 14 #[.val (.int p0), .val (.int p1), .val (.int p2), .val (.int p3), .val (.int ((p0 &&& (2147483647 : Int32)) % (6 : Int32))), .unset, .unset, .unset] [(.int (2147483647 : Int32)), (.int p1), (.int ((p0 &&& (2147483647 : Int32)) % (6 : Int32)))])) _
    refine XS.iand X0.here hx rfl (hb hby at_14) rfl ?_
    show Steps p.tables e below (s₁.setTop (mkF m 15 #[.val (.int p0), .val (.int p1), .val (.int p2), .val (.int p3), .val (.int ((p0 &&& (2147483647 : Int32)) % (6 : Int32))), .unset, .unset, .unset] [(.int (p1 &&& (2147483647 : Int32))), (.int ((p0 &&& (2147483647 : Int32)) % (6 : Int32)))])) _
    refine XS.bipush X0.here hx rfl (hb hby at_15) ?_
    show Steps p.tables e below (s₁.setTop (mkF m 17 #[.val (.int p0), .val (.int p1), .val (.int p2), .val (.int p3), .val (.int ((p0 &&& (2147483647 : Int32)) % (6 : Int32))), .unset, .unset, .unset] [(.int (6 : Int32)), (.int (p1 &&& (2147483647 : Int32))), (.int ((p0 &&& (2147483647 : Int32)) % (6 : Int32)))])) _
    refine iremM X0 hx rfl (hb hby at_17) rfl (by decide) ?_
    show Steps p.tables e below (s₁.setTop (mkF m 18 #[.val (.int p0), .val (.int p1), .val (.int p2), .val (.int p3), .val (.int ((p0 &&& (2147483647 : Int32)) % (6 : Int32))), .unset, .unset, .unset] [(.int ((p1 &&& (2147483647 : Int32)) % (6 : Int32))), (.int ((p0 &&& (2147483647 : Int32)) % (6 : Int32)))])) _
    refine st292 _ ?_
    show Steps p.tables e below (T292.setTop (mkF m 21 #[.val (.int p0), .val (.int p1), .val (.int p2), .val (.int p3), .val (.int ((p0 &&& (2147483647 : Int32)) % (6 : Int32))), .unset, .unset, .unset] [(.int (j1g_0 ((p0 &&& (2147483647 : Int32)) % (6 : Int32)) ((p1 &&& (2147483647 : Int32)) % (6 : Int32))))])) _
    refine XS.istore X292.here hx rfl (hb hby at_21) rfl (l' := #[.val (.int p0), .val (.int p1), .val (.int p2), .val (.int p3), .val (.int ((p0 &&& (2147483647 : Int32)) % (6 : Int32))), .val (.int (j1g_0 ((p0 &&& (2147483647 : Int32)) % (6 : Int32)) ((p1 &&& (2147483647 : Int32)) % (6 : Int32)))), .unset, .unset]) rfl ?_
    show Steps p.tables e below (T292.setTop (mkF m 23 #[.val (.int p0), .val (.int p1), .val (.int p2), .val (.int p3), .val (.int ((p0 &&& (2147483647 : Int32)) % (6 : Int32))), .val (.int (j1g_0 ((p0 &&& (2147483647 : Int32)) % (6 : Int32)) ((p1 &&& (2147483647 : Int32)) % (6 : Int32)))), .unset, .unset] [])) _
    refine st293 _ ?_
    show Steps p.tables e below (T293.setTop (mkF m 26 #[.val (.int p0), .val (.int p1), .val (.int p2), .val (.int p3), .val (.int ((p0 &&& (2147483647 : Int32)) % (6 : Int32))), .val (.int (j1g_0 ((p0 &&& (2147483647 : Int32)) % (6 : Int32)) ((p1 &&& (2147483647 : Int32)) % (6 : Int32)))), .unset, .unset] [(.ref b293)])) _
    refine XS.dup X293.here hx rfl (hb hby at_26) rfl rfl ?_
    show Steps p.tables e below (T293.setTop (mkF m 27 #[.val (.int p0), .val (.int p1), .val (.int p2), .val (.int p3), .val (.int ((p0 &&& (2147483647 : Int32)) % (6 : Int32))), .val (.int (j1g_0 ((p0 &&& (2147483647 : Int32)) % (6 : Int32)) ((p1 &&& (2147483647 : Int32)) % (6 : Int32)))), .unset, .unset] [(.ref b293), (.ref b293)])) _
    refine st297.trans ?_
    show Steps p.tables e below (T297.setTop (mkF m 30 #[.val (.int p0), .val (.int p1), .val (.int p2), .val (.int p3), .val (.int ((p0 &&& (2147483647 : Int32)) % (6 : Int32))), .val (.int (j1g_0 ((p0 &&& (2147483647 : Int32)) % (6 : Int32)) ((p1 &&& (2147483647 : Int32)) % (6 : Int32)))), .unset, .unset] [(.ref b293)])) _
    refine XS.astore X297.here hx rfl (hb hby at_30) rfl rfl (l' := #[.val (.int p0), .val (.int p1), .val (.int p2), .val (.int p3), .val (.int ((p0 &&& (2147483647 : Int32)) % (6 : Int32))), .val (.int (j1g_0 ((p0 &&& (2147483647 : Int32)) % (6 : Int32)) ((p1 &&& (2147483647 : Int32)) % (6 : Int32)))), .val (.ref b293), .unset]) rfl ?_
    show Steps p.tables e below (T297.setTop (mkF m 32 #[.val (.int p0), .val (.int p1), .val (.int p2), .val (.int p3), .val (.int ((p0 &&& (2147483647 : Int32)) % (6 : Int32))), .val (.int (j1g_0 ((p0 &&& (2147483647 : Int32)) % (6 : Int32)) ((p1 &&& (2147483647 : Int32)) % (6 : Int32)))), .val (.ref b293), .unset] [])) _
    refine XS.aload X297.here hx rfl (hb hby at_32) rfl rfl ?_
    show Steps p.tables e below (T297.setTop (mkF m 34 #[.val (.int p0), .val (.int p1), .val (.int p2), .val (.int p3), .val (.int ((p0 &&& (2147483647 : Int32)) % (6 : Int32))), .val (.int (j1g_0 ((p0 &&& (2147483647 : Int32)) % (6 : Int32)) ((p1 &&& (2147483647 : Int32)) % (6 : Int32)))), .val (.ref b293), .unset] [(.ref b293)])) _
    refine st306.trans ?_
    show Steps p.tables e below (T306.setTop (mkF m 37 #[.val (.int p0), .val (.int p1), .val (.int p2), .val (.int p3), .val (.int ((p0 &&& (2147483647 : Int32)) % (6 : Int32))), .val (.int (j1g_0 ((p0 &&& (2147483647 : Int32)) % (6 : Int32)) ((p1 &&& (2147483647 : Int32)) % (6 : Int32)))), .val (.ref b293), .unset] [(.int (1 : Int32))])) _
    refine XS.istore X306.here hx rfl (hb hby at_37) rfl (l' := #[.val (.int p0), .val (.int p1), .val (.int p2), .val (.int p3), .val (.int ((p0 &&& (2147483647 : Int32)) % (6 : Int32))), .val (.int (j1g_0 ((p0 &&& (2147483647 : Int32)) % (6 : Int32)) ((p1 &&& (2147483647 : Int32)) % (6 : Int32)))), .val (.ref b293), .val (.int (1 : Int32))]) rfl ?_
    show Steps p.tables e below (T306.setTop (mkF m 39 #[.val (.int p0), .val (.int p1), .val (.int p2), .val (.int p3), .val (.int ((p0 &&& (2147483647 : Int32)) % (6 : Int32))), .val (.int (j1g_0 ((p0 &&& (2147483647 : Int32)) % (6 : Int32)) ((p1 &&& (2147483647 : Int32)) % (6 : Int32)))), .val (.ref b293), .val (.int (1 : Int32))] [])) _
    refine XS.iload X306.here hx rfl (hb hby at_39) rfl ?_
    exact k)
  by_cases hc307 : (0 : Int32) < ((p0 &&& (2147483647 : Int32)) % (6 : Int32))
  · skip
    obtain ⟨cq309, kq309, q309a, q309b, q309c⟩ := isOf hZ e306 f298
    obtain ⟨_, _, ⟨T309, L309, k309, n309⟩, -, X309, ⟨Lc309, hQ309, l309, y309, z309⟩, st309⟩ := X306.virtualBack hx (y := (⟨"com/example/subsumer/subsumer/classification/IntList", "add", "(I)V"⟩ : MethodName)) (z := (⟨"com/example/subsumer/subsumer/classification/IntList", "add", "(I)V"⟩ : MethodName)) hown (mvT hZ (hw _ (List.mem_of_getElem? (i := 24) rfl))) (mvT hZ (hw _ (List.mem_of_getElem? (i := 25) rfl))) (notFace_of_selects (args := #[]) (mvT hZ (hw _ (List.mem_of_getElem? (i := 27) rfl)))) (mvT hZ (hw _ (List.mem_of_getElem? (i := 27) rfl))) (mvT hZ (hw _ (List.mem_of_getElem? (i := 26) rfl))) (by decide) (backOf (W := 0) (rm5_4_0 l Z aw hw [] b293 p2 cx0297 ((0 : Int32)) ((0 : Int32)) ((0 : Int32)) ((0 : Int32)) cy0297 h297 n0 Z297 f298 f300 f299 f301 g_b293 g_cx0297 ne305) hZ (hw _ (List.mem_of_getElem? (i := 28) rfl)) (hw _ (List.mem_of_getElem? (i := 7) rfl)) (by decide) (by decide)) q309a q309c (g := (mkF m 47 #[.val (.int p0), .val (.int p1), .val (.int p2), .val (.int p3), .val (.int ((p0 &&& (2147483647 : Int32)) % (6 : Int32))), .val (.int (j1g_0 ((p0 &&& (2147483647 : Int32)) % (6 : Int32)) ((p1 &&& (2147483647 : Int32)) % (6 : Int32)))), .val (.ref b293), .val (.int (1 : Int32))] [(.int p2), (.ref b293)])) rfl (by rw [hml]; rfl) (Steps.refl _) (argsL := [(.int p2)]) (rest := []) (lenOf pd_6 rfl) rfl (by show 2 * 0 + _ ≤ _; exact Nat.le_of_eq rfl) (hb hby at_47) (fun _ _ => ⟨rfl, e306, (by decide : 2 + 0 ≤ _), (by decide : 6 + 0 ≤ _)⟩)
    dsimp only [Pt.U, Pt.locs, Pt.cells, Pt.slots] at X309 l309 y309 z309 st309 hQ309
    subst l309 y309 z309
    obtain ⟨h309, e309⟩ : ∃ z, T309.heap = z := ⟨_, rfl⟩
    rw [e309] at hQ309
    obtain ⟨rfl, N309q, K309q, f310, f311, f312, f313⟩ := hQ309
    have f314 := f298.keep K309q
    have Z309 := Nat.le_trans Z297 K309q.1
    have N309 := Fr.app N306 N309q
    have pre319 := fun (t : State) (k : Steps p.tables e below (T309.setTop (mkF m 53 #[.val (.int p0), .val (.int p1), .val (.int p2), .val (.int p3), .val (.int ((p0 &&& (2147483647 : Int32)) % (6 : Int32))), .val (.int (j1g_0 ((p0 &&& (2147483647 : Int32)) % (6 : Int32)) ((p1 &&& (2147483647 : Int32)) % (6 : Int32)))), .val (.ref b293), .val (.int (1 : Int32))] [(.int (1 : Int32)), (.int ((p0 &&& (2147483647 : Int32)) % (6 : Int32)))])) t) => pre308 t (by
      show Steps p.tables e below (T306.setTop (mkF m 41 #[.val (.int p0), .val (.int p1), .val (.int p2), .val (.int p3), .val (.int ((p0 &&& (2147483647 : Int32)) % (6 : Int32))), .val (.int (j1g_0 ((p0 &&& (2147483647 : Int32)) % (6 : Int32)) ((p1 &&& (2147483647 : Int32)) % (6 : Int32)))), .val (.ref b293), .val (.int (1 : Int32))] [(.int ((p0 &&& (2147483647 : Int32)) % (6 : Int32)))])) _
      refine XS.ifNo X306.here hx rfl (hb hby at_41) rfl ((if0 _ _).trans (tlt hc307).2.2.2) ?_
      show Steps p.tables e below (T306.setTop (mkF m 44 #[.val (.int p0), .val (.int p1), .val (.int p2), .val (.int p3), .val (.int ((p0 &&& (2147483647 : Int32)) % (6 : Int32))), .val (.int (j1g_0 ((p0 &&& (2147483647 : Int32)) % (6 : Int32)) ((p1 &&& (2147483647 : Int32)) % (6 : Int32)))), .val (.ref b293), .val (.int (1 : Int32))] [])) _
      refine XS.aload X306.here hx rfl (hb hby at_44) rfl rfl ?_
      show Steps p.tables e below (T306.setTop (mkF m 46 #[.val (.int p0), .val (.int p1), .val (.int p2), .val (.int p3), .val (.int ((p0 &&& (2147483647 : Int32)) % (6 : Int32))), .val (.int (j1g_0 ((p0 &&& (2147483647 : Int32)) % (6 : Int32)) ((p1 &&& (2147483647 : Int32)) % (6 : Int32)))), .val (.ref b293), .val (.int (1 : Int32))] [(.ref b293)])) _
      refine XS.iloadN X306.here hx rfl (hb hby at_46) rfl ?_
      show Steps p.tables e below (T306.setTop (mkF m 47 #[.val (.int p0), .val (.int p1), .val (.int p2), .val (.int p3), .val (.int ((p0 &&& (2147483647 : Int32)) % (6 : Int32))), .val (.int (j1g_0 ((p0 &&& (2147483647 : Int32)) % (6 : Int32)) ((p1 &&& (2147483647 : Int32)) % (6 : Int32)))), .val (.ref b293), .val (.int (1 : Int32))] [(.int p2), (.ref b293)])) _
      refine st309.trans ?_
      show Steps p.tables e below (T309.setTop (mkF m 50 #[.val (.int p0), .val (.int p1), .val (.int p2), .val (.int p3), .val (.int ((p0 &&& (2147483647 : Int32)) % (6 : Int32))), .val (.int (j1g_0 ((p0 &&& (2147483647 : Int32)) % (6 : Int32)) ((p1 &&& (2147483647 : Int32)) % (6 : Int32)))), .val (.ref b293), .val (.int (1 : Int32))] [])) _
      refine XS.iload X309.here hx rfl (hb hby at_50) rfl ?_
      show Steps p.tables e below (T309.setTop (mkF m 52 #[.val (.int p0), .val (.int p1), .val (.int p2), .val (.int p3), .val (.int ((p0 &&& (2147483647 : Int32)) % (6 : Int32))), .val (.int (j1g_0 ((p0 &&& (2147483647 : Int32)) % (6 : Int32)) ((p1 &&& (2147483647 : Int32)) % (6 : Int32)))), .val (.ref b293), .val (.int (1 : Int32))] [(.int ((p0 &&& (2147483647 : Int32)) % (6 : Int32)))])) _
      refine XS.iconst X309.here hx rfl (hb hby at_52) ?_
      exact k)
    by_cases hc318 : (1 : Int32) < ((p0 &&& (2147483647 : Int32)) % (6 : Int32))
    · skip
      obtain ⟨cq320, kq320, q320a, q320b, q320c⟩ := isOf hZ e309 f310
      obtain ⟨_, _, ⟨T320, L320, k320, n320⟩, -, X320, ⟨Lc320, hQ320, l320, y320, z320⟩, st320⟩ := X309.virtualBack hx (y := (⟨"com/example/subsumer/subsumer/classification/IntList", "add", "(I)V"⟩ : MethodName)) (z := (⟨"com/example/subsumer/subsumer/classification/IntList", "add", "(I)V"⟩ : MethodName)) hown (mvT hZ (hw _ (List.mem_of_getElem? (i := 24) rfl))) (mvT hZ (hw _ (List.mem_of_getElem? (i := 25) rfl))) (notFace_of_selects (args := #[]) (mvT hZ (hw _ (List.mem_of_getElem? (i := 27) rfl)))) (mvT hZ (hw _ (List.mem_of_getElem? (i := 27) rfl))) (mvT hZ (hw _ (List.mem_of_getElem? (i := 26) rfl))) (by decide) (backOf (W := 0) (rm5_4_1 l Z aw hw [] b293 p3 cx0297 p2 ((0 : Int32)) ((0 : Int32)) ((0 : Int32)) cy0297 h309 n0 Z309 f310 f312 f311 f313 g_b293 g_cx0297 ne305) hZ (hw _ (List.mem_of_getElem? (i := 28) rfl)) (hw _ (List.mem_of_getElem? (i := 7) rfl)) (by decide) (by decide)) q320a q320c (g := (mkF m 59 #[.val (.int p0), .val (.int p1), .val (.int p2), .val (.int p3), .val (.int ((p0 &&& (2147483647 : Int32)) % (6 : Int32))), .val (.int (j1g_0 ((p0 &&& (2147483647 : Int32)) % (6 : Int32)) ((p1 &&& (2147483647 : Int32)) % (6 : Int32)))), .val (.ref b293), .val (.int (1 : Int32))] [(.int p3), (.ref b293)])) rfl (by rw [hml]; rfl) (Steps.refl _) (argsL := [(.int p3)]) (rest := []) (lenOf pd_6 rfl) rfl (by show 2 * 0 + _ ≤ _; exact Nat.le_of_eq rfl) (hb hby at_59) (fun _ _ => ⟨rfl, e309, (by decide : 2 + 0 ≤ _), (by decide : 6 + 0 ≤ _)⟩)
      dsimp only [Pt.U, Pt.locs, Pt.cells, Pt.slots] at X320 l320 y320 z320 st320 hQ320
      subst l320 y320 z320
      obtain ⟨h320, e320⟩ : ∃ z, T320.heap = z := ⟨_, rfl⟩
      rw [e320] at hQ320
      obtain ⟨rfl, N320q, K320q, f321, f322, f323, f324⟩ := hQ320
      have f325 := f310.keep K320q
      have Z320 := Nat.le_trans Z309 K320q.1
      have N320 := Fr.app N309 N320q
      have pre330 := fun (t : State) (k : Steps p.tables e below (T320.setTop (mkF m 65 #[.val (.int p0), .val (.int p1), .val (.int p2), .val (.int p3), .val (.int ((p0 &&& (2147483647 : Int32)) % (6 : Int32))), .val (.int (j1g_0 ((p0 &&& (2147483647 : Int32)) % (6 : Int32)) ((p1 &&& (2147483647 : Int32)) % (6 : Int32)))), .val (.ref b293), .val (.int (1 : Int32))] [(.int (2 : Int32)), (.int ((p0 &&& (2147483647 : Int32)) % (6 : Int32)))])) t) => pre319 t (by
        show Steps p.tables e below (T309.setTop (mkF m 53 #[.val (.int p0), .val (.int p1), .val (.int p2), .val (.int p3), .val (.int ((p0 &&& (2147483647 : Int32)) % (6 : Int32))), .val (.int (j1g_0 ((p0 &&& (2147483647 : Int32)) % (6 : Int32)) ((p1 &&& (2147483647 : Int32)) % (6 : Int32)))), .val (.ref b293), .val (.int (1 : Int32))] [(.int (1 : Int32)), (.int ((p0 &&& (2147483647 : Int32)) % (6 : Int32)))])) _
        refine XS.icmpNo X309.here hx rfl (hb hby at_53) rfl (tlt hc318).2.2.2 ?_
        show Steps p.tables e below (T309.setTop (mkF m 56 #[.val (.int p0), .val (.int p1), .val (.int p2), .val (.int p3), .val (.int ((p0 &&& (2147483647 : Int32)) % (6 : Int32))), .val (.int (j1g_0 ((p0 &&& (2147483647 : Int32)) % (6 : Int32)) ((p1 &&& (2147483647 : Int32)) % (6 : Int32)))), .val (.ref b293), .val (.int (1 : Int32))] [])) _
        refine XS.aload X309.here hx rfl (hb hby at_56) rfl rfl ?_
        show Steps p.tables e below (T309.setTop (mkF m 58 #[.val (.int p0), .val (.int p1), .val (.int p2), .val (.int p3), .val (.int ((p0 &&& (2147483647 : Int32)) % (6 : Int32))), .val (.int (j1g_0 ((p0 &&& (2147483647 : Int32)) % (6 : Int32)) ((p1 &&& (2147483647 : Int32)) % (6 : Int32)))), .val (.ref b293), .val (.int (1 : Int32))] [(.ref b293)])) _
        refine XS.iloadN X309.here hx rfl (hb hby at_58) rfl ?_
        show Steps p.tables e below (T309.setTop (mkF m 59 #[.val (.int p0), .val (.int p1), .val (.int p2), .val (.int p3), .val (.int ((p0 &&& (2147483647 : Int32)) % (6 : Int32))), .val (.int (j1g_0 ((p0 &&& (2147483647 : Int32)) % (6 : Int32)) ((p1 &&& (2147483647 : Int32)) % (6 : Int32)))), .val (.ref b293), .val (.int (1 : Int32))] [(.int p3), (.ref b293)])) _
        refine st320.trans ?_
        show Steps p.tables e below (T320.setTop (mkF m 62 #[.val (.int p0), .val (.int p1), .val (.int p2), .val (.int p3), .val (.int ((p0 &&& (2147483647 : Int32)) % (6 : Int32))), .val (.int (j1g_0 ((p0 &&& (2147483647 : Int32)) % (6 : Int32)) ((p1 &&& (2147483647 : Int32)) % (6 : Int32)))), .val (.ref b293), .val (.int (1 : Int32))] [])) _
        refine XS.iload X320.here hx rfl (hb hby at_62) rfl ?_
        show Steps p.tables e below (T320.setTop (mkF m 64 #[.val (.int p0), .val (.int p1), .val (.int p2), .val (.int p3), .val (.int ((p0 &&& (2147483647 : Int32)) % (6 : Int32))), .val (.int (j1g_0 ((p0 &&& (2147483647 : Int32)) % (6 : Int32)) ((p1 &&& (2147483647 : Int32)) % (6 : Int32)))), .val (.ref b293), .val (.int (1 : Int32))] [(.int ((p0 &&& (2147483647 : Int32)) % (6 : Int32)))])) _
        refine XS.iconst X320.here hx rfl (hb hby at_64) ?_
        exact k)
      by_cases hc329 : (2 : Int32) < ((p0 &&& (2147483647 : Int32)) % (6 : Int32))
      · skip
        obtain ⟨cq331, kq331, q331a, q331b, q331c⟩ := isOf hZ e320 f321
        obtain ⟨_, _, ⟨T331, L331, k331, n331⟩, -, X331, ⟨Lc331, hQ331, l331, y331, z331⟩, st331⟩ := X320.virtualBack hx (y := (⟨"com/example/subsumer/subsumer/classification/IntList", "add", "(I)V"⟩ : MethodName)) (z := (⟨"com/example/subsumer/subsumer/classification/IntList", "add", "(I)V"⟩ : MethodName)) hown (mvT hZ (hw _ (List.mem_of_getElem? (i := 24) rfl))) (mvT hZ (hw _ (List.mem_of_getElem? (i := 25) rfl))) (notFace_of_selects (args := #[]) (mvT hZ (hw _ (List.mem_of_getElem? (i := 27) rfl)))) (mvT hZ (hw _ (List.mem_of_getElem? (i := 27) rfl))) (mvT hZ (hw _ (List.mem_of_getElem? (i := 26) rfl))) (by decide) (backOf (W := 0) (rm5_4_2 l Z aw hw [] b293 p2 cx0297 p2 p3 ((0 : Int32)) ((0 : Int32)) cy0297 h320 n0 Z320 f321 f323 f322 f324 g_b293 g_cx0297 ne305) hZ (hw _ (List.mem_of_getElem? (i := 28) rfl)) (hw _ (List.mem_of_getElem? (i := 7) rfl)) (by decide) (by decide)) q331a q331c (g := (mkF m 71 #[.val (.int p0), .val (.int p1), .val (.int p2), .val (.int p3), .val (.int ((p0 &&& (2147483647 : Int32)) % (6 : Int32))), .val (.int (j1g_0 ((p0 &&& (2147483647 : Int32)) % (6 : Int32)) ((p1 &&& (2147483647 : Int32)) % (6 : Int32)))), .val (.ref b293), .val (.int (1 : Int32))] [(.int p2), (.ref b293)])) rfl (by rw [hml]; rfl) (Steps.refl _) (argsL := [(.int p2)]) (rest := []) (lenOf pd_6 rfl) rfl (by show 2 * 0 + _ ≤ _; exact Nat.le_of_eq rfl) (hb hby at_71) (fun _ _ => ⟨rfl, e320, (by decide : 2 + 0 ≤ _), (by decide : 6 + 0 ≤ _)⟩)
        dsimp only [Pt.U, Pt.locs, Pt.cells, Pt.slots] at X331 l331 y331 z331 st331 hQ331
        subst l331 y331 z331
        obtain ⟨h331, e331⟩ : ∃ z, T331.heap = z := ⟨_, rfl⟩
        rw [e331] at hQ331
        obtain ⟨rfl, N331q, K331q, f332, f333, f334, f335⟩ := hQ331
        have f336 := f321.keep K331q
        have Z331 := Nat.le_trans Z320 K331q.1
        have N331 := Fr.app N320 N331q
        have pre341 := fun (t : State) (k : Steps p.tables e below (T331.setTop (mkF m 77 #[.val (.int p0), .val (.int p1), .val (.int p2), .val (.int p3), .val (.int ((p0 &&& (2147483647 : Int32)) % (6 : Int32))), .val (.int (j1g_0 ((p0 &&& (2147483647 : Int32)) % (6 : Int32)) ((p1 &&& (2147483647 : Int32)) % (6 : Int32)))), .val (.ref b293), .val (.int (1 : Int32))] [(.int (3 : Int32)), (.int ((p0 &&& (2147483647 : Int32)) % (6 : Int32)))])) t) => pre330 t (by
          show Steps p.tables e below (T320.setTop (mkF m 65 #[.val (.int p0), .val (.int p1), .val (.int p2), .val (.int p3), .val (.int ((p0 &&& (2147483647 : Int32)) % (6 : Int32))), .val (.int (j1g_0 ((p0 &&& (2147483647 : Int32)) % (6 : Int32)) ((p1 &&& (2147483647 : Int32)) % (6 : Int32)))), .val (.ref b293), .val (.int (1 : Int32))] [(.int (2 : Int32)), (.int ((p0 &&& (2147483647 : Int32)) % (6 : Int32)))])) _
          refine XS.icmpNo X320.here hx rfl (hb hby at_65) rfl (tlt hc329).2.2.2 ?_
          show Steps p.tables e below (T320.setTop (mkF m 68 #[.val (.int p0), .val (.int p1), .val (.int p2), .val (.int p3), .val (.int ((p0 &&& (2147483647 : Int32)) % (6 : Int32))), .val (.int (j1g_0 ((p0 &&& (2147483647 : Int32)) % (6 : Int32)) ((p1 &&& (2147483647 : Int32)) % (6 : Int32)))), .val (.ref b293), .val (.int (1 : Int32))] [])) _
          refine XS.aload X320.here hx rfl (hb hby at_68) rfl rfl ?_
          show Steps p.tables e below (T320.setTop (mkF m 70 #[.val (.int p0), .val (.int p1), .val (.int p2), .val (.int p3), .val (.int ((p0 &&& (2147483647 : Int32)) % (6 : Int32))), .val (.int (j1g_0 ((p0 &&& (2147483647 : Int32)) % (6 : Int32)) ((p1 &&& (2147483647 : Int32)) % (6 : Int32)))), .val (.ref b293), .val (.int (1 : Int32))] [(.ref b293)])) _
          refine XS.iloadN X320.here hx rfl (hb hby at_70) rfl ?_
          show Steps p.tables e below (T320.setTop (mkF m 71 #[.val (.int p0), .val (.int p1), .val (.int p2), .val (.int p3), .val (.int ((p0 &&& (2147483647 : Int32)) % (6 : Int32))), .val (.int (j1g_0 ((p0 &&& (2147483647 : Int32)) % (6 : Int32)) ((p1 &&& (2147483647 : Int32)) % (6 : Int32)))), .val (.ref b293), .val (.int (1 : Int32))] [(.int p2), (.ref b293)])) _
          refine st331.trans ?_
          show Steps p.tables e below (T331.setTop (mkF m 74 #[.val (.int p0), .val (.int p1), .val (.int p2), .val (.int p3), .val (.int ((p0 &&& (2147483647 : Int32)) % (6 : Int32))), .val (.int (j1g_0 ((p0 &&& (2147483647 : Int32)) % (6 : Int32)) ((p1 &&& (2147483647 : Int32)) % (6 : Int32)))), .val (.ref b293), .val (.int (1 : Int32))] [])) _
          refine XS.iload X331.here hx rfl (hb hby at_74) rfl ?_
          show Steps p.tables e below (T331.setTop (mkF m 76 #[.val (.int p0), .val (.int p1), .val (.int p2), .val (.int p3), .val (.int ((p0 &&& (2147483647 : Int32)) % (6 : Int32))), .val (.int (j1g_0 ((p0 &&& (2147483647 : Int32)) % (6 : Int32)) ((p1 &&& (2147483647 : Int32)) % (6 : Int32)))), .val (.ref b293), .val (.int (1 : Int32))] [(.int ((p0 &&& (2147483647 : Int32)) % (6 : Int32)))])) _
          refine XS.iconst X331.here hx rfl (hb hby at_76) ?_
          exact k)
        by_cases hc340 : (3 : Int32) < ((p0 &&& (2147483647 : Int32)) % (6 : Int32))
        · skip
          obtain ⟨cq342, kq342, q342a, q342b, q342c⟩ := isOf hZ e331 f332
          obtain ⟨_, _, ⟨T342, L342, k342, n342⟩, -, X342, ⟨Lc342, hQ342, l342, y342, z342⟩, st342⟩ := X331.virtualBack hx (y := (⟨"com/example/subsumer/subsumer/classification/IntList", "add", "(I)V"⟩ : MethodName)) (z := (⟨"com/example/subsumer/subsumer/classification/IntList", "add", "(I)V"⟩ : MethodName)) hown (mvT hZ (hw _ (List.mem_of_getElem? (i := 24) rfl))) (mvT hZ (hw _ (List.mem_of_getElem? (i := 25) rfl))) (notFace_of_selects (args := #[]) (mvT hZ (hw _ (List.mem_of_getElem? (i := 27) rfl)))) (mvT hZ (hw _ (List.mem_of_getElem? (i := 27) rfl))) (mvT hZ (hw _ (List.mem_of_getElem? (i := 26) rfl))) (by decide) (backOf (W := 0) (rm5_4_3 l Z aw hw [] b293 p3 cx0297 p2 p3 p2 ((0 : Int32)) cy0297 h331 n0 Z331 f332 f334 f333 f335 g_b293 g_cx0297 ne305) hZ (hw _ (List.mem_of_getElem? (i := 28) rfl)) (hw _ (List.mem_of_getElem? (i := 7) rfl)) (by decide) (by decide)) q342a q342c (g := (mkF m 83 #[.val (.int p0), .val (.int p1), .val (.int p2), .val (.int p3), .val (.int ((p0 &&& (2147483647 : Int32)) % (6 : Int32))), .val (.int (j1g_0 ((p0 &&& (2147483647 : Int32)) % (6 : Int32)) ((p1 &&& (2147483647 : Int32)) % (6 : Int32)))), .val (.ref b293), .val (.int (1 : Int32))] [(.int p3), (.ref b293)])) rfl (by rw [hml]; rfl) (Steps.refl _) (argsL := [(.int p3)]) (rest := []) (lenOf pd_6 rfl) rfl (by show 2 * 0 + _ ≤ _; exact Nat.le_of_eq rfl) (hb hby at_83) (fun _ _ => ⟨rfl, e331, (by decide : 2 + 0 ≤ _), (by decide : 6 + 0 ≤ _)⟩)
          dsimp only [Pt.U, Pt.locs, Pt.cells, Pt.slots] at X342 l342 y342 z342 st342 hQ342
          subst l342 y342 z342
          obtain ⟨h342, e342⟩ : ∃ z, T342.heap = z := ⟨_, rfl⟩
          rw [e342] at hQ342
          obtain ⟨rfl, N342q, K342q, f343, f344, f345, f346⟩ := hQ342
          have f347 := f332.keep K342q
          have Z342 := Nat.le_trans Z331 K342q.1
          have N342 := Fr.app N331 N342q
          have pre352 := fun (t : State) (k : Steps p.tables e below (T342.setTop (mkF m 89 #[.val (.int p0), .val (.int p1), .val (.int p2), .val (.int p3), .val (.int ((p0 &&& (2147483647 : Int32)) % (6 : Int32))), .val (.int (j1g_0 ((p0 &&& (2147483647 : Int32)) % (6 : Int32)) ((p1 &&& (2147483647 : Int32)) % (6 : Int32)))), .val (.ref b293), .val (.int (1 : Int32))] [(.int (4 : Int32)), (.int ((p0 &&& (2147483647 : Int32)) % (6 : Int32)))])) t) => pre341 t (by
            show Steps p.tables e below (T331.setTop (mkF m 77 #[.val (.int p0), .val (.int p1), .val (.int p2), .val (.int p3), .val (.int ((p0 &&& (2147483647 : Int32)) % (6 : Int32))), .val (.int (j1g_0 ((p0 &&& (2147483647 : Int32)) % (6 : Int32)) ((p1 &&& (2147483647 : Int32)) % (6 : Int32)))), .val (.ref b293), .val (.int (1 : Int32))] [(.int (3 : Int32)), (.int ((p0 &&& (2147483647 : Int32)) % (6 : Int32)))])) _
            refine XS.icmpNo X331.here hx rfl (hb hby at_77) rfl (tlt hc340).2.2.2 ?_
            show Steps p.tables e below (T331.setTop (mkF m 80 #[.val (.int p0), .val (.int p1), .val (.int p2), .val (.int p3), .val (.int ((p0 &&& (2147483647 : Int32)) % (6 : Int32))), .val (.int (j1g_0 ((p0 &&& (2147483647 : Int32)) % (6 : Int32)) ((p1 &&& (2147483647 : Int32)) % (6 : Int32)))), .val (.ref b293), .val (.int (1 : Int32))] [])) _
            refine XS.aload X331.here hx rfl (hb hby at_80) rfl rfl ?_
            show Steps p.tables e below (T331.setTop (mkF m 82 #[.val (.int p0), .val (.int p1), .val (.int p2), .val (.int p3), .val (.int ((p0 &&& (2147483647 : Int32)) % (6 : Int32))), .val (.int (j1g_0 ((p0 &&& (2147483647 : Int32)) % (6 : Int32)) ((p1 &&& (2147483647 : Int32)) % (6 : Int32)))), .val (.ref b293), .val (.int (1 : Int32))] [(.ref b293)])) _
            refine XS.iloadN X331.here hx rfl (hb hby at_82) rfl ?_
            show Steps p.tables e below (T331.setTop (mkF m 83 #[.val (.int p0), .val (.int p1), .val (.int p2), .val (.int p3), .val (.int ((p0 &&& (2147483647 : Int32)) % (6 : Int32))), .val (.int (j1g_0 ((p0 &&& (2147483647 : Int32)) % (6 : Int32)) ((p1 &&& (2147483647 : Int32)) % (6 : Int32)))), .val (.ref b293), .val (.int (1 : Int32))] [(.int p3), (.ref b293)])) _
            refine st342.trans ?_
            show Steps p.tables e below (T342.setTop (mkF m 86 #[.val (.int p0), .val (.int p1), .val (.int p2), .val (.int p3), .val (.int ((p0 &&& (2147483647 : Int32)) % (6 : Int32))), .val (.int (j1g_0 ((p0 &&& (2147483647 : Int32)) % (6 : Int32)) ((p1 &&& (2147483647 : Int32)) % (6 : Int32)))), .val (.ref b293), .val (.int (1 : Int32))] [])) _
            refine XS.iload X342.here hx rfl (hb hby at_86) rfl ?_
            show Steps p.tables e below (T342.setTop (mkF m 88 #[.val (.int p0), .val (.int p1), .val (.int p2), .val (.int p3), .val (.int ((p0 &&& (2147483647 : Int32)) % (6 : Int32))), .val (.int (j1g_0 ((p0 &&& (2147483647 : Int32)) % (6 : Int32)) ((p1 &&& (2147483647 : Int32)) % (6 : Int32)))), .val (.ref b293), .val (.int (1 : Int32))] [(.int ((p0 &&& (2147483647 : Int32)) % (6 : Int32)))])) _
            refine XS.iconst X342.here hx rfl (hb hby at_88) ?_
            exact k)
          by_cases hc351 : (4 : Int32) < ((p0 &&& (2147483647 : Int32)) % (6 : Int32))
          · skip
            obtain ⟨cq353, kq353, q353a, q353b, q353c⟩ := isOf hZ e342 f343
            obtain ⟨_, _, ⟨T353, L353, k353, n353⟩, -, X353, ⟨Lc353, hQ353, l353, y353, z353⟩, st353⟩ := X342.virtualBack hx (y := (⟨"com/example/subsumer/subsumer/classification/IntList", "add", "(I)V"⟩ : MethodName)) (z := (⟨"com/example/subsumer/subsumer/classification/IntList", "add", "(I)V"⟩ : MethodName)) hown (mvT hZ (hw _ (List.mem_of_getElem? (i := 24) rfl))) (mvT hZ (hw _ (List.mem_of_getElem? (i := 25) rfl))) (notFace_of_selects (args := #[]) (mvT hZ (hw _ (List.mem_of_getElem? (i := 27) rfl)))) (mvT hZ (hw _ (List.mem_of_getElem? (i := 27) rfl))) (mvT hZ (hw _ (List.mem_of_getElem? (i := 26) rfl))) (by decide) (backOf (W := 0) (rm5_4_4 l Z aw hw [] b293 p2 cx0297 p2 p3 p2 p3 cy0297 h342 n0 Z342 f343 f345 f344 f346 g_b293 ne305) hZ (hw _ (List.mem_of_getElem? (i := 28) rfl)) (hw _ (List.mem_of_getElem? (i := 7) rfl)) (by decide) (by decide)) q353a q353c (g := (mkF m 95 #[.val (.int p0), .val (.int p1), .val (.int p2), .val (.int p3), .val (.int ((p0 &&& (2147483647 : Int32)) % (6 : Int32))), .val (.int (j1g_0 ((p0 &&& (2147483647 : Int32)) % (6 : Int32)) ((p1 &&& (2147483647 : Int32)) % (6 : Int32)))), .val (.ref b293), .val (.int (1 : Int32))] [(.int p2), (.ref b293)])) rfl (by rw [hml]; rfl) (Steps.refl _) (argsL := [(.int p2)]) (rest := []) (lenOf pd_6 rfl) rfl (by show 2 * 0 + _ ≤ _; exact Nat.le_of_eq rfl) (hb hby at_95) (fun _ _ => ⟨rfl, e342, (by decide : 2 + 1 ≤ _), (by decide : 6 + 8 ≤ _)⟩)
            dsimp only [Pt.U, Pt.locs, Pt.cells, Pt.slots] at X353 l353 y353 z353 st353 hQ353
            subst l353 y353 z353
            obtain ⟨h353, e353⟩ : ∃ z, T353.heap = z := ⟨_, rfl⟩
            rw [e353] at hQ353
            obtain ⟨cx0353, cy0353, rfl, N353q, K353q, g_cx0353, zz_cx0353, f354, f355, f356, f357⟩ := hQ353
            have f358 := f343.keep K353q
            have f361 := f346.keep K353q (ninS (Ne.symm ne305) nin0)
            have ne362 : b293 ≠ cx0353 := Nat.ne_of_lt (Nat.lt_of_lt_of_le f343.lt zz_cx0353)
            have ne363 : cx0297 ≠ cx0353 := Nat.ne_of_lt (Nat.lt_of_lt_of_le f346.lt zz_cx0353)
            have Z353 := Nat.le_trans Z342 K353q.1
            have N353 := Fr.app N342 N353q
            have pre365 := fun (t : State) (k : Steps p.tables e below (T353.setTop (mkF m 100 #[.val (.int p0), .val (.int p1), .val (.int p2), .val (.int p3), .val (.int ((p0 &&& (2147483647 : Int32)) % (6 : Int32))), .val (.int (j1g_0 ((p0 &&& (2147483647 : Int32)) % (6 : Int32)) ((p1 &&& (2147483647 : Int32)) % (6 : Int32)))), .val (.ref b293), .val (.int (1 : Int32))] [(.int (j1g_0 ((p0 &&& (2147483647 : Int32)) % (6 : Int32)) ((p1 &&& (2147483647 : Int32)) % (6 : Int32))))])) t) => pre352 t (by
              show Steps p.tables e below (T342.setTop (mkF m 89 #[.val (.int p0), .val (.int p1), .val (.int p2), .val (.int p3), .val (.int ((p0 &&& (2147483647 : Int32)) % (6 : Int32))), .val (.int (j1g_0 ((p0 &&& (2147483647 : Int32)) % (6 : Int32)) ((p1 &&& (2147483647 : Int32)) % (6 : Int32)))), .val (.ref b293), .val (.int (1 : Int32))] [(.int (4 : Int32)), (.int ((p0 &&& (2147483647 : Int32)) % (6 : Int32)))])) _
              refine XS.icmpNo X342.here hx rfl (hb hby at_89) rfl (tlt hc351).2.2.2 ?_
              show Steps p.tables e below (T342.setTop (mkF m 92 #[.val (.int p0), .val (.int p1), .val (.int p2), .val (.int p3), .val (.int ((p0 &&& (2147483647 : Int32)) % (6 : Int32))), .val (.int (j1g_0 ((p0 &&& (2147483647 : Int32)) % (6 : Int32)) ((p1 &&& (2147483647 : Int32)) % (6 : Int32)))), .val (.ref b293), .val (.int (1 : Int32))] [])) _
              refine XS.aload X342.here hx rfl (hb hby at_92) rfl rfl ?_
              show Steps p.tables e below (T342.setTop (mkF m 94 #[.val (.int p0), .val (.int p1), .val (.int p2), .val (.int p3), .val (.int ((p0 &&& (2147483647 : Int32)) % (6 : Int32))), .val (.int (j1g_0 ((p0 &&& (2147483647 : Int32)) % (6 : Int32)) ((p1 &&& (2147483647 : Int32)) % (6 : Int32)))), .val (.ref b293), .val (.int (1 : Int32))] [(.ref b293)])) _
              refine XS.iloadN X342.here hx rfl (hb hby at_94) rfl ?_
              show Steps p.tables e below (T342.setTop (mkF m 95 #[.val (.int p0), .val (.int p1), .val (.int p2), .val (.int p3), .val (.int ((p0 &&& (2147483647 : Int32)) % (6 : Int32))), .val (.int (j1g_0 ((p0 &&& (2147483647 : Int32)) % (6 : Int32)) ((p1 &&& (2147483647 : Int32)) % (6 : Int32)))), .val (.ref b293), .val (.int (1 : Int32))] [(.int p2), (.ref b293)])) _
              refine st353.trans ?_
              show Steps p.tables e below (T353.setTop (mkF m 98 #[.val (.int p0), .val (.int p1), .val (.int p2), .val (.int p3), .val (.int ((p0 &&& (2147483647 : Int32)) % (6 : Int32))), .val (.int (j1g_0 ((p0 &&& (2147483647 : Int32)) % (6 : Int32)) ((p1 &&& (2147483647 : Int32)) % (6 : Int32)))), .val (.ref b293), .val (.int (1 : Int32))] [])) _
              refine XS.iload X353.here hx rfl (hb hby at_98) rfl ?_
              exact k)
            by_cases hc364 : (0 : Int32) < (j1g_0 ((p0 &&& (2147483647 : Int32)) % (6 : Int32)) ((p1 &&& (2147483647 : Int32)) % (6 : Int32)))
            · skip
              obtain ⟨cq366, kq366, q366a, q366b, q366c⟩ := isOf hZ e353 f354
              obtain ⟨_, _, ⟨T366, L366, k366, n366⟩, -, X366, ⟨Lc366, hQ366, l366, y366, z366⟩, st366⟩ := X353.virtualBack hx (y := (⟨"com/example/subsumer/subsumer/classification/IntList", "pop", "()I"⟩ : MethodName)) (z := (⟨"com/example/subsumer/subsumer/classification/IntList", "pop", "()I"⟩ : MethodName)) hown (mvT hZ (hw _ (List.mem_of_getElem? (i := 29) rfl))) (mvT hZ (hw _ (List.mem_of_getElem? (i := 30) rfl))) (notFace_of_selects (args := #[]) (mvT hZ (hw _ (List.mem_of_getElem? (i := 32) rfl)))) (mvT hZ (hw _ (List.mem_of_getElem? (i := 32) rfl))) (mvT hZ (hw _ (List.mem_of_getElem? (i := 31) rfl))) (by decide) (backOf (W := 0) (rm6_8_5 l Z aw hw [] b293 cx0353 p2 p3 p2 p3 p2 ((0 : Int32)) ((0 : Int32)) ((0 : Int32)) cy0353 h353 n0 Z353 f354 f356 f355 f357 g_b293 ne362) hZ (hw _ (List.mem_of_getElem? (i := 33) rfl)) (hw _ (List.mem_of_getElem? (i := 7) rfl)) (by decide) (by decide)) q366a q366c (g := (mkF m 105 #[.val (.int p0), .val (.int p1), .val (.int p2), .val (.int p3), .val (.int ((p0 &&& (2147483647 : Int32)) % (6 : Int32))), .val (.int (j1g_0 ((p0 &&& (2147483647 : Int32)) % (6 : Int32)) ((p1 &&& (2147483647 : Int32)) % (6 : Int32)))), .val (.ref b293), .val (.int (1 : Int32))] [(.ref b293)])) rfl (by rw [hml]; rfl) (Steps.refl _) (argsL := []) (rest := []) (lenOf pd_7 rfl) rfl (by show 2 * 0 + _ ≤ _; exact Nat.le_of_eq rfl) (hb hby at_105) (fun _ _ => ⟨rfl, e353, (by decide : 3 + 0 ≤ _), (by decide : 14 + 0 ≤ _)⟩)
              dsimp only [Pt.U, Pt.locs, Pt.cells, Pt.slots] at X366 l366 y366 z366 st366 hQ366
              subst l366 y366 z366
              obtain ⟨h366, e366⟩ : ∃ z, T366.heap = z := ⟨_, rfl⟩
              rw [e366] at hQ366
              obtain ⟨rfl, N366q, K366q, f367, f368, f369⟩ := hQ366
              have f370 := f354.keep K366q
              have f371 := f361.keep K366q (ninS (Ne.symm ne305) nin0)
              have f374 := f357.keep K366q (ninS (Ne.symm ne362) nin0)
              have Z366 := Nat.le_trans Z353 K366q.1
              have N366 := Fr.app N353 N366q
              have pre376 := fun (t : State) (k : Steps p.tables e below (T366.setTop (mkF m 112 #[.val (.int p0), .val (.int p1), .val (.int p2), .val (.int p3), .val (.int ((p0 &&& (2147483647 : Int32)) % (6 : Int32))), .val (.int (j1g_0 ((p0 &&& (2147483647 : Int32)) % (6 : Int32)) ((p1 &&& (2147483647 : Int32)) % (6 : Int32)))), .val (.ref b293), .val (.int (1 : Int32))] [(.int (1 : Int32)), (.int (j1g_0 ((p0 &&& (2147483647 : Int32)) % (6 : Int32)) ((p1 &&& (2147483647 : Int32)) % (6 : Int32))))])) t) => pre365 t (by
                show Steps p.tables e below (T353.setTop (mkF m 100 #[.val (.int p0), .val (.int p1), .val (.int p2), .val (.int p3), .val (.int ((p0 &&& (2147483647 : Int32)) % (6 : Int32))), .val (.int (j1g_0 ((p0 &&& (2147483647 : Int32)) % (6 : Int32)) ((p1 &&& (2147483647 : Int32)) % (6 : Int32)))), .val (.ref b293), .val (.int (1 : Int32))] [(.int (j1g_0 ((p0 &&& (2147483647 : Int32)) % (6 : Int32)) ((p1 &&& (2147483647 : Int32)) % (6 : Int32))))])) _
                refine XS.ifNo X353.here hx rfl (hb hby at_100) rfl ((if0 _ _).trans (tlt hc364).2.2.2) ?_
                show Steps p.tables e below (T353.setTop (mkF m 103 #[.val (.int p0), .val (.int p1), .val (.int p2), .val (.int p3), .val (.int ((p0 &&& (2147483647 : Int32)) % (6 : Int32))), .val (.int (j1g_0 ((p0 &&& (2147483647 : Int32)) % (6 : Int32)) ((p1 &&& (2147483647 : Int32)) % (6 : Int32)))), .val (.ref b293), .val (.int (1 : Int32))] [])) _
                refine XS.aload X353.here hx rfl (hb hby at_103) rfl rfl ?_
                show Steps p.tables e below (T353.setTop (mkF m 105 #[.val (.int p0), .val (.int p1), .val (.int p2), .val (.int p3), .val (.int ((p0 &&& (2147483647 : Int32)) % (6 : Int32))), .val (.int (j1g_0 ((p0 &&& (2147483647 : Int32)) % (6 : Int32)) ((p1 &&& (2147483647 : Int32)) % (6 : Int32)))), .val (.ref b293), .val (.int (1 : Int32))] [(.ref b293)])) _
                refine st366.trans ?_
                show Steps p.tables e below (T366.setTop (mkF m 108 #[.val (.int p0), .val (.int p1), .val (.int p2), .val (.int p3), .val (.int ((p0 &&& (2147483647 : Int32)) % (6 : Int32))), .val (.int (j1g_0 ((p0 &&& (2147483647 : Int32)) % (6 : Int32)) ((p1 &&& (2147483647 : Int32)) % (6 : Int32)))), .val (.ref b293), .val (.int (1 : Int32))] [(.int p2)])) _
                refine XS.pop X366.here hx rfl (hb hby at_108) rfl rfl ?_
                show Steps p.tables e below (T366.setTop (mkF m 109 #[.val (.int p0), .val (.int p1), .val (.int p2), .val (.int p3), .val (.int ((p0 &&& (2147483647 : Int32)) % (6 : Int32))), .val (.int (j1g_0 ((p0 &&& (2147483647 : Int32)) % (6 : Int32)) ((p1 &&& (2147483647 : Int32)) % (6 : Int32)))), .val (.ref b293), .val (.int (1 : Int32))] [])) _
                refine XS.iload X366.here hx rfl (hb hby at_109) rfl ?_
                show Steps p.tables e below (T366.setTop (mkF m 111 #[.val (.int p0), .val (.int p1), .val (.int p2), .val (.int p3), .val (.int ((p0 &&& (2147483647 : Int32)) % (6 : Int32))), .val (.int (j1g_0 ((p0 &&& (2147483647 : Int32)) % (6 : Int32)) ((p1 &&& (2147483647 : Int32)) % (6 : Int32)))), .val (.ref b293), .val (.int (1 : Int32))] [(.int (j1g_0 ((p0 &&& (2147483647 : Int32)) % (6 : Int32)) ((p1 &&& (2147483647 : Int32)) % (6 : Int32))))])) _
                refine XS.iconst X366.here hx rfl (hb hby at_111) ?_
                exact k)
              by_cases hc375 : (1 : Int32) < (j1g_0 ((p0 &&& (2147483647 : Int32)) % (6 : Int32)) ((p1 &&& (2147483647 : Int32)) % (6 : Int32)))
              · skip
                obtain ⟨cq377, kq377, q377a, q377b, q377c⟩ := isOf hZ e366 f367
                obtain ⟨_, _, ⟨T377, L377, k377, n377⟩, -, X377, ⟨Lc377, hQ377, l377, y377, z377⟩, st377⟩ := X366.virtualBack hx (y := (⟨"com/example/subsumer/subsumer/classification/IntList", "pop", "()I"⟩ : MethodName)) (z := (⟨"com/example/subsumer/subsumer/classification/IntList", "pop", "()I"⟩ : MethodName)) hown (mvT hZ (hw _ (List.mem_of_getElem? (i := 29) rfl))) (mvT hZ (hw _ (List.mem_of_getElem? (i := 30) rfl))) (notFace_of_selects (args := #[]) (mvT hZ (hw _ (List.mem_of_getElem? (i := 32) rfl)))) (mvT hZ (hw _ (List.mem_of_getElem? (i := 32) rfl))) (mvT hZ (hw _ (List.mem_of_getElem? (i := 31) rfl))) (by decide) (backOf (W := 0) (rm6_8_4 l Z aw hw [] b293 cx0353 p2 p3 p2 p3 p2 ((0 : Int32)) ((0 : Int32)) ((0 : Int32)) cy0353 h366 n0 Z366 f367 f369 f368 f374 g_b293 ne362) hZ (hw _ (List.mem_of_getElem? (i := 33) rfl)) (hw _ (List.mem_of_getElem? (i := 7) rfl)) (by decide) (by decide)) q377a q377c (g := (mkF m 117 #[.val (.int p0), .val (.int p1), .val (.int p2), .val (.int p3), .val (.int ((p0 &&& (2147483647 : Int32)) % (6 : Int32))), .val (.int (j1g_0 ((p0 &&& (2147483647 : Int32)) % (6 : Int32)) ((p1 &&& (2147483647 : Int32)) % (6 : Int32)))), .val (.ref b293), .val (.int (1 : Int32))] [(.ref b293)])) rfl (by rw [hml]; rfl) (Steps.refl _) (argsL := []) (rest := []) (lenOf pd_7 rfl) rfl (by show 2 * 0 + _ ≤ _; exact Nat.le_of_eq rfl) (hb hby at_117) (fun _ _ => ⟨rfl, e366, (by decide : 3 + 0 ≤ _), (by decide : 14 + 0 ≤ _)⟩)
                dsimp only [Pt.U, Pt.locs, Pt.cells, Pt.slots] at X377 l377 y377 z377 st377 hQ377
                subst l377 y377 z377
                obtain ⟨h377, e377⟩ : ∃ z, T377.heap = z := ⟨_, rfl⟩
                rw [e377] at hQ377
                obtain ⟨rfl, N377q, K377q, f378, f379, f380⟩ := hQ377
                have f381 := f367.keep K377q
                have f382 := f371.keep K377q (ninS (Ne.symm ne305) nin0)
                have f383 := f374.keep K377q (ninS (Ne.symm ne362) nin0)
                have Z377 := Nat.le_trans Z366 K377q.1
                have N377 := Fr.app N366 N377q
                have pre387 := fun (t : State) (k : Steps p.tables e below (T377.setTop (mkF m 124 #[.val (.int p0), .val (.int p1), .val (.int p2), .val (.int p3), .val (.int ((p0 &&& (2147483647 : Int32)) % (6 : Int32))), .val (.int (j1g_0 ((p0 &&& (2147483647 : Int32)) % (6 : Int32)) ((p1 &&& (2147483647 : Int32)) % (6 : Int32)))), .val (.ref b293), .val (.int (1 : Int32))] [(.int (2 : Int32)), (.int (j1g_0 ((p0 &&& (2147483647 : Int32)) % (6 : Int32)) ((p1 &&& (2147483647 : Int32)) % (6 : Int32))))])) t) => pre376 t (by
                  show Steps p.tables e below (T366.setTop (mkF m 112 #[.val (.int p0), .val (.int p1), .val (.int p2), .val (.int p3), .val (.int ((p0 &&& (2147483647 : Int32)) % (6 : Int32))), .val (.int (j1g_0 ((p0 &&& (2147483647 : Int32)) % (6 : Int32)) ((p1 &&& (2147483647 : Int32)) % (6 : Int32)))), .val (.ref b293), .val (.int (1 : Int32))] [(.int (1 : Int32)), (.int (j1g_0 ((p0 &&& (2147483647 : Int32)) % (6 : Int32)) ((p1 &&& (2147483647 : Int32)) % (6 : Int32))))])) _
                  refine XS.icmpNo X366.here hx rfl (hb hby at_112) rfl (tlt hc375).2.2.2 ?_
                  show Steps p.tables e below (T366.setTop (mkF m 115 #[.val (.int p0), .val (.int p1), .val (.int p2), .val (.int p3), .val (.int ((p0 &&& (2147483647 : Int32)) % (6 : Int32))), .val (.int (j1g_0 ((p0 &&& (2147483647 : Int32)) % (6 : Int32)) ((p1 &&& (2147483647 : Int32)) % (6 : Int32)))), .val (.ref b293), .val (.int (1 : Int32))] [])) _
                  refine XS.aload X366.here hx rfl (hb hby at_115) rfl rfl ?_
                  show Steps p.tables e below (T366.setTop (mkF m 117 #[.val (.int p0), .val (.int p1), .val (.int p2), .val (.int p3), .val (.int ((p0 &&& (2147483647 : Int32)) % (6 : Int32))), .val (.int (j1g_0 ((p0 &&& (2147483647 : Int32)) % (6 : Int32)) ((p1 &&& (2147483647 : Int32)) % (6 : Int32)))), .val (.ref b293), .val (.int (1 : Int32))] [(.ref b293)])) _
                  refine st377.trans ?_
                  show Steps p.tables e below (T377.setTop (mkF m 120 #[.val (.int p0), .val (.int p1), .val (.int p2), .val (.int p3), .val (.int ((p0 &&& (2147483647 : Int32)) % (6 : Int32))), .val (.int (j1g_0 ((p0 &&& (2147483647 : Int32)) % (6 : Int32)) ((p1 &&& (2147483647 : Int32)) % (6 : Int32)))), .val (.ref b293), .val (.int (1 : Int32))] [(.int p3)])) _
                  refine XS.pop X377.here hx rfl (hb hby at_120) rfl rfl ?_
                  show Steps p.tables e below (T377.setTop (mkF m 121 #[.val (.int p0), .val (.int p1), .val (.int p2), .val (.int p3), .val (.int ((p0 &&& (2147483647 : Int32)) % (6 : Int32))), .val (.int (j1g_0 ((p0 &&& (2147483647 : Int32)) % (6 : Int32)) ((p1 &&& (2147483647 : Int32)) % (6 : Int32)))), .val (.ref b293), .val (.int (1 : Int32))] [])) _
                  refine XS.iload X377.here hx rfl (hb hby at_121) rfl ?_
                  show Steps p.tables e below (T377.setTop (mkF m 123 #[.val (.int p0), .val (.int p1), .val (.int p2), .val (.int p3), .val (.int ((p0 &&& (2147483647 : Int32)) % (6 : Int32))), .val (.int (j1g_0 ((p0 &&& (2147483647 : Int32)) % (6 : Int32)) ((p1 &&& (2147483647 : Int32)) % (6 : Int32)))), .val (.ref b293), .val (.int (1 : Int32))] [(.int (j1g_0 ((p0 &&& (2147483647 : Int32)) % (6 : Int32)) ((p1 &&& (2147483647 : Int32)) % (6 : Int32))))])) _
                  refine XS.iconst X377.here hx rfl (hb hby at_123) ?_
                  exact k)
                by_cases hc386 : (2 : Int32) < (j1g_0 ((p0 &&& (2147483647 : Int32)) % (6 : Int32)) ((p1 &&& (2147483647 : Int32)) % (6 : Int32)))
                · skip
                  obtain ⟨cq388, kq388, q388a, q388b, q388c⟩ := isOf hZ e377 f378
                  obtain ⟨_, _, ⟨T388, L388, k388, n388⟩, -, X388, ⟨Lc388, hQ388, l388, y388, z388⟩, st388⟩ := X377.virtualBack hx (y := (⟨"com/example/subsumer/subsumer/classification/IntList", "pop", "()I"⟩ : MethodName)) (z := (⟨"com/example/subsumer/subsumer/classification/IntList", "pop", "()I"⟩ : MethodName)) hown (mvT hZ (hw _ (List.mem_of_getElem? (i := 29) rfl))) (mvT hZ (hw _ (List.mem_of_getElem? (i := 30) rfl))) (notFace_of_selects (args := #[]) (mvT hZ (hw _ (List.mem_of_getElem? (i := 32) rfl)))) (mvT hZ (hw _ (List.mem_of_getElem? (i := 32) rfl))) (mvT hZ (hw _ (List.mem_of_getElem? (i := 31) rfl))) (by decide) (backOf (W := 0) (rm6_8_3 l Z aw hw [] b293 cx0353 p2 p3 p2 p3 p2 ((0 : Int32)) ((0 : Int32)) ((0 : Int32)) cy0353 h377 n0 Z377 f378 f380 f379 f383 g_b293 ne362) hZ (hw _ (List.mem_of_getElem? (i := 33) rfl)) (hw _ (List.mem_of_getElem? (i := 7) rfl)) (by decide) (by decide)) q388a q388c (g := (mkF m 129 #[.val (.int p0), .val (.int p1), .val (.int p2), .val (.int p3), .val (.int ((p0 &&& (2147483647 : Int32)) % (6 : Int32))), .val (.int (j1g_0 ((p0 &&& (2147483647 : Int32)) % (6 : Int32)) ((p1 &&& (2147483647 : Int32)) % (6 : Int32)))), .val (.ref b293), .val (.int (1 : Int32))] [(.ref b293)])) rfl (by rw [hml]; rfl) (Steps.refl _) (argsL := []) (rest := []) (lenOf pd_7 rfl) rfl (by show 2 * 0 + _ ≤ _; exact Nat.le_of_eq rfl) (hb hby at_129) (fun _ _ => ⟨rfl, e377, (by decide : 3 + 0 ≤ _), (by decide : 14 + 0 ≤ _)⟩)
                  dsimp only [Pt.U, Pt.locs, Pt.cells, Pt.slots] at X388 l388 y388 z388 st388 hQ388
                  subst l388 y388 z388
                  obtain ⟨h388, e388⟩ : ∃ z, T388.heap = z := ⟨_, rfl⟩
                  rw [e388] at hQ388
                  obtain ⟨rfl, N388q, K388q, f389, f390, f391⟩ := hQ388
                  have f392 := f378.keep K388q
                  have f393 := f382.keep K388q (ninS (Ne.symm ne305) nin0)
                  have f394 := f383.keep K388q (ninS (Ne.symm ne362) nin0)
                  have Z388 := Nat.le_trans Z377 K388q.1
                  have N388 := Fr.app N377 N388q
                  have pre398 := fun (t : State) (k : Steps p.tables e below (T388.setTop (mkF m 136 #[.val (.int p0), .val (.int p1), .val (.int p2), .val (.int p3), .val (.int ((p0 &&& (2147483647 : Int32)) % (6 : Int32))), .val (.int (j1g_0 ((p0 &&& (2147483647 : Int32)) % (6 : Int32)) ((p1 &&& (2147483647 : Int32)) % (6 : Int32)))), .val (.ref b293), .val (.int (1 : Int32))] [(.int (3 : Int32)), (.int (j1g_0 ((p0 &&& (2147483647 : Int32)) % (6 : Int32)) ((p1 &&& (2147483647 : Int32)) % (6 : Int32))))])) t) => pre387 t (by
                    show Steps p.tables e below (T377.setTop (mkF m 124 #[.val (.int p0), .val (.int p1), .val (.int p2), .val (.int p3), .val (.int ((p0 &&& (2147483647 : Int32)) % (6 : Int32))), .val (.int (j1g_0 ((p0 &&& (2147483647 : Int32)) % (6 : Int32)) ((p1 &&& (2147483647 : Int32)) % (6 : Int32)))), .val (.ref b293), .val (.int (1 : Int32))] [(.int (2 : Int32)), (.int (j1g_0 ((p0 &&& (2147483647 : Int32)) % (6 : Int32)) ((p1 &&& (2147483647 : Int32)) % (6 : Int32))))])) _
                    refine XS.icmpNo X377.here hx rfl (hb hby at_124) rfl (tlt hc386).2.2.2 ?_
                    show Steps p.tables e below (T377.setTop (mkF m 127 #[.val (.int p0), .val (.int p1), .val (.int p2), .val (.int p3), .val (.int ((p0 &&& (2147483647 : Int32)) % (6 : Int32))), .val (.int (j1g_0 ((p0 &&& (2147483647 : Int32)) % (6 : Int32)) ((p1 &&& (2147483647 : Int32)) % (6 : Int32)))), .val (.ref b293), .val (.int (1 : Int32))] [])) _
                    refine XS.aload X377.here hx rfl (hb hby at_127) rfl rfl ?_
                    show Steps p.tables e below (T377.setTop (mkF m 129 #[.val (.int p0), .val (.int p1), .val (.int p2), .val (.int p3), .val (.int ((p0 &&& (2147483647 : Int32)) % (6 : Int32))), .val (.int (j1g_0 ((p0 &&& (2147483647 : Int32)) % (6 : Int32)) ((p1 &&& (2147483647 : Int32)) % (6 : Int32)))), .val (.ref b293), .val (.int (1 : Int32))] [(.ref b293)])) _
                    refine st388.trans ?_
                    show Steps p.tables e below (T388.setTop (mkF m 132 #[.val (.int p0), .val (.int p1), .val (.int p2), .val (.int p3), .val (.int ((p0 &&& (2147483647 : Int32)) % (6 : Int32))), .val (.int (j1g_0 ((p0 &&& (2147483647 : Int32)) % (6 : Int32)) ((p1 &&& (2147483647 : Int32)) % (6 : Int32)))), .val (.ref b293), .val (.int (1 : Int32))] [(.int p2)])) _
                    refine XS.pop X388.here hx rfl (hb hby at_132) rfl rfl ?_
                    show Steps p.tables e below (T388.setTop (mkF m 133 #[.val (.int p0), .val (.int p1), .val (.int p2), .val (.int p3), .val (.int ((p0 &&& (2147483647 : Int32)) % (6 : Int32))), .val (.int (j1g_0 ((p0 &&& (2147483647 : Int32)) % (6 : Int32)) ((p1 &&& (2147483647 : Int32)) % (6 : Int32)))), .val (.ref b293), .val (.int (1 : Int32))] [])) _
                    refine XS.iload X388.here hx rfl (hb hby at_133) rfl ?_
                    show Steps p.tables e below (T388.setTop (mkF m 135 #[.val (.int p0), .val (.int p1), .val (.int p2), .val (.int p3), .val (.int ((p0 &&& (2147483647 : Int32)) % (6 : Int32))), .val (.int (j1g_0 ((p0 &&& (2147483647 : Int32)) % (6 : Int32)) ((p1 &&& (2147483647 : Int32)) % (6 : Int32)))), .val (.ref b293), .val (.int (1 : Int32))] [(.int (j1g_0 ((p0 &&& (2147483647 : Int32)) % (6 : Int32)) ((p1 &&& (2147483647 : Int32)) % (6 : Int32))))])) _
                    refine XS.iconst X388.here hx rfl (hb hby at_135) ?_
                    exact k)
                  by_cases hc397 : (3 : Int32) < (j1g_0 ((p0 &&& (2147483647 : Int32)) % (6 : Int32)) ((p1 &&& (2147483647 : Int32)) % (6 : Int32)))
                  · skip
                    obtain ⟨cq399, kq399, q399a, q399b, q399c⟩ := isOf hZ e388 f389
                    obtain ⟨_, _, ⟨T399, L399, k399, n399⟩, -, X399, ⟨Lc399, hQ399, l399, y399, z399⟩, st399⟩ := X388.virtualBack hx (y := (⟨"com/example/subsumer/subsumer/classification/IntList", "pop", "()I"⟩ : MethodName)) (z := (⟨"com/example/subsumer/subsumer/classification/IntList", "pop", "()I"⟩ : MethodName)) hown (mvT hZ (hw _ (List.mem_of_getElem? (i := 29) rfl))) (mvT hZ (hw _ (List.mem_of_getElem? (i := 30) rfl))) (notFace_of_selects (args := #[]) (mvT hZ (hw _ (List.mem_of_getElem? (i := 32) rfl)))) (mvT hZ (hw _ (List.mem_of_getElem? (i := 32) rfl))) (mvT hZ (hw _ (List.mem_of_getElem? (i := 31) rfl))) (by decide) (backOf (W := 0) (rm6_8_2 l Z aw hw [] b293 cx0353 p2 p3 p2 p3 p2 ((0 : Int32)) ((0 : Int32)) ((0 : Int32)) cy0353 h388 n0 Z388 f389 f391 f390 f394 g_b293 ne362) hZ (hw _ (List.mem_of_getElem? (i := 33) rfl)) (hw _ (List.mem_of_getElem? (i := 7) rfl)) (by decide) (by decide)) q399a q399c (g := (mkF m 141 #[.val (.int p0), .val (.int p1), .val (.int p2), .val (.int p3), .val (.int ((p0 &&& (2147483647 : Int32)) % (6 : Int32))), .val (.int (j1g_0 ((p0 &&& (2147483647 : Int32)) % (6 : Int32)) ((p1 &&& (2147483647 : Int32)) % (6 : Int32)))), .val (.ref b293), .val (.int (1 : Int32))] [(.ref b293)])) rfl (by rw [hml]; rfl) (Steps.refl _) (argsL := []) (rest := []) (lenOf pd_7 rfl) rfl (by show 2 * 0 + _ ≤ _; exact Nat.le_of_eq rfl) (hb hby at_141) (fun _ _ => ⟨rfl, e388, (by decide : 3 + 0 ≤ _), (by decide : 14 + 0 ≤ _)⟩)
                    dsimp only [Pt.U, Pt.locs, Pt.cells, Pt.slots] at X399 l399 y399 z399 st399 hQ399
                    subst l399 y399 z399
                    obtain ⟨h399, e399⟩ : ∃ z, T399.heap = z := ⟨_, rfl⟩
                    rw [e399] at hQ399
                    obtain ⟨rfl, N399q, K399q, f400, f401, f402⟩ := hQ399
                    have f403 := f389.keep K399q
                    have f404 := f393.keep K399q (ninS (Ne.symm ne305) nin0)
                    have f405 := f394.keep K399q (ninS (Ne.symm ne362) nin0)
                    have Z399 := Nat.le_trans Z388 K399q.1
                    have N399 := Fr.app N388 N399q
                    have pre409 := fun (t : State) (k : Steps p.tables e below (T399.setTop (mkF m 148 #[.val (.int p0), .val (.int p1), .val (.int p2), .val (.int p3), .val (.int ((p0 &&& (2147483647 : Int32)) % (6 : Int32))), .val (.int (j1g_0 ((p0 &&& (2147483647 : Int32)) % (6 : Int32)) ((p1 &&& (2147483647 : Int32)) % (6 : Int32)))), .val (.ref b293), .val (.int (1 : Int32))] [(.int (4 : Int32)), (.int (j1g_0 ((p0 &&& (2147483647 : Int32)) % (6 : Int32)) ((p1 &&& (2147483647 : Int32)) % (6 : Int32))))])) t) => pre398 t (by
                      show Steps p.tables e below (T388.setTop (mkF m 136 #[.val (.int p0), .val (.int p1), .val (.int p2), .val (.int p3), .val (.int ((p0 &&& (2147483647 : Int32)) % (6 : Int32))), .val (.int (j1g_0 ((p0 &&& (2147483647 : Int32)) % (6 : Int32)) ((p1 &&& (2147483647 : Int32)) % (6 : Int32)))), .val (.ref b293), .val (.int (1 : Int32))] [(.int (3 : Int32)), (.int (j1g_0 ((p0 &&& (2147483647 : Int32)) % (6 : Int32)) ((p1 &&& (2147483647 : Int32)) % (6 : Int32))))])) _
                      refine XS.icmpNo X388.here hx rfl (hb hby at_136) rfl (tlt hc397).2.2.2 ?_
                      show Steps p.tables e below (T388.setTop (mkF m 139 #[.val (.int p0), .val (.int p1), .val (.int p2), .val (.int p3), .val (.int ((p0 &&& (2147483647 : Int32)) % (6 : Int32))), .val (.int (j1g_0 ((p0 &&& (2147483647 : Int32)) % (6 : Int32)) ((p1 &&& (2147483647 : Int32)) % (6 : Int32)))), .val (.ref b293), .val (.int (1 : Int32))] [])) _
                      refine XS.aload X388.here hx rfl (hb hby at_139) rfl rfl ?_
                      show Steps p.tables e below (T388.setTop (mkF m 141 #[.val (.int p0), .val (.int p1), .val (.int p2), .val (.int p3), .val (.int ((p0 &&& (2147483647 : Int32)) % (6 : Int32))), .val (.int (j1g_0 ((p0 &&& (2147483647 : Int32)) % (6 : Int32)) ((p1 &&& (2147483647 : Int32)) % (6 : Int32)))), .val (.ref b293), .val (.int (1 : Int32))] [(.ref b293)])) _
                      refine st399.trans ?_
                      show Steps p.tables e below (T399.setTop (mkF m 144 #[.val (.int p0), .val (.int p1), .val (.int p2), .val (.int p3), .val (.int ((p0 &&& (2147483647 : Int32)) % (6 : Int32))), .val (.int (j1g_0 ((p0 &&& (2147483647 : Int32)) % (6 : Int32)) ((p1 &&& (2147483647 : Int32)) % (6 : Int32)))), .val (.ref b293), .val (.int (1 : Int32))] [(.int p3)])) _
                      refine XS.pop X399.here hx rfl (hb hby at_144) rfl rfl ?_
                      show Steps p.tables e below (T399.setTop (mkF m 145 #[.val (.int p0), .val (.int p1), .val (.int p2), .val (.int p3), .val (.int ((p0 &&& (2147483647 : Int32)) % (6 : Int32))), .val (.int (j1g_0 ((p0 &&& (2147483647 : Int32)) % (6 : Int32)) ((p1 &&& (2147483647 : Int32)) % (6 : Int32)))), .val (.ref b293), .val (.int (1 : Int32))] [])) _
                      refine XS.iload X399.here hx rfl (hb hby at_145) rfl ?_
                      show Steps p.tables e below (T399.setTop (mkF m 147 #[.val (.int p0), .val (.int p1), .val (.int p2), .val (.int p3), .val (.int ((p0 &&& (2147483647 : Int32)) % (6 : Int32))), .val (.int (j1g_0 ((p0 &&& (2147483647 : Int32)) % (6 : Int32)) ((p1 &&& (2147483647 : Int32)) % (6 : Int32)))), .val (.ref b293), .val (.int (1 : Int32))] [(.int (j1g_0 ((p0 &&& (2147483647 : Int32)) % (6 : Int32)) ((p1 &&& (2147483647 : Int32)) % (6 : Int32))))])) _
                      refine XS.iconst X399.here hx rfl (hb hby at_147) ?_
                      exact k)
                    by_cases hc408 : (4 : Int32) < (j1g_0 ((p0 &&& (2147483647 : Int32)) % (6 : Int32)) ((p1 &&& (2147483647 : Int32)) % (6 : Int32)))
                    · skip
                      obtain ⟨cq410, kq410, q410a, q410b, q410c⟩ := isOf hZ e399 f400
                      obtain ⟨_, _, ⟨T410, L410, k410, n410⟩, -, X410, ⟨Lc410, hQ410, l410, y410, z410⟩, st410⟩ := X399.virtualBack hx (y := (⟨"com/example/subsumer/subsumer/classification/IntList", "pop", "()I"⟩ : MethodName)) (z := (⟨"com/example/subsumer/subsumer/classification/IntList", "pop", "()I"⟩ : MethodName)) hown (mvT hZ (hw _ (List.mem_of_getElem? (i := 29) rfl))) (mvT hZ (hw _ (List.mem_of_getElem? (i := 30) rfl))) (notFace_of_selects (args := #[]) (mvT hZ (hw _ (List.mem_of_getElem? (i := 32) rfl)))) (mvT hZ (hw _ (List.mem_of_getElem? (i := 32) rfl))) (mvT hZ (hw _ (List.mem_of_getElem? (i := 31) rfl))) (by decide) (backOf (W := 0) (rm6_8_1 l Z aw hw [] b293 cx0353 p2 p3 p2 p3 p2 ((0 : Int32)) ((0 : Int32)) ((0 : Int32)) cy0353 h399 n0 Z399 f400 f402 f401 f405 g_b293 ne362) hZ (hw _ (List.mem_of_getElem? (i := 33) rfl)) (hw _ (List.mem_of_getElem? (i := 7) rfl)) (by decide) (by decide)) q410a q410c (g := (mkF m 153 #[.val (.int p0), .val (.int p1), .val (.int p2), .val (.int p3), .val (.int ((p0 &&& (2147483647 : Int32)) % (6 : Int32))), .val (.int (j1g_0 ((p0 &&& (2147483647 : Int32)) % (6 : Int32)) ((p1 &&& (2147483647 : Int32)) % (6 : Int32)))), .val (.ref b293), .val (.int (1 : Int32))] [(.ref b293)])) rfl (by rw [hml]; rfl) (Steps.refl _) (argsL := []) (rest := []) (lenOf pd_7 rfl) rfl (by show 2 * 0 + _ ≤ _; exact Nat.le_of_eq rfl) (hb hby at_153) (fun _ _ => ⟨rfl, e399, (by decide : 3 + 0 ≤ _), (by decide : 14 + 0 ≤ _)⟩)
                      dsimp only [Pt.U, Pt.locs, Pt.cells, Pt.slots] at X410 l410 y410 z410 st410 hQ410
                      subst l410 y410 z410
                      obtain ⟨h410, e410⟩ : ∃ z, T410.heap = z := ⟨_, rfl⟩
                      rw [e410] at hQ410
                      obtain ⟨rfl, N410q, K410q, f411, f412, f413⟩ := hQ410
                      have f414 := f400.keep K410q
                      have f415 := f404.keep K410q (ninS (Ne.symm ne305) nin0)
                      have f416 := f405.keep K410q (ninS (Ne.symm ne362) nin0)
                      have Z410 := Nat.le_trans Z399 K410q.1
                      have N410 := Fr.app N399 N410q
                      obtain ⟨cq419, kq419, q419a, q419b, q419c⟩ := isOf hZ e410 f411
                      obtain ⟨_, _, ⟨T419, L419, k419, n419⟩, -, X419, ⟨Lc419, hQ419, l419, y419, z419⟩, st419⟩ := X410.virtualBack hx (y := (⟨"com/example/subsumer/subsumer/classification/IntList", "isEmpty", "()Z"⟩ : MethodName)) (z := (⟨"com/example/subsumer/subsumer/classification/IntList", "isEmpty", "()Z"⟩ : MethodName)) hown (mvT hZ (hw _ (List.mem_of_getElem? (i := 17) rfl))) (mvT hZ (hw _ (List.mem_of_getElem? (i := 18) rfl))) (notFace_of_selects (args := #[]) (mvT hZ (hw _ (List.mem_of_getElem? (i := 20) rfl)))) (mvT hZ (hw _ (List.mem_of_getElem? (i := 20) rfl))) (mvT hZ (hw _ (List.mem_of_getElem? (i := 19) rfl))) (by decide) (backOf (W := 0) (rm4z l Z aw hw [] b293 h410 n0 Z410 f411 f412) hZ (hw _ (List.mem_of_getElem? (i := 21) rfl)) (hw _ (List.mem_of_getElem? (i := 7) rfl)) (by decide) (by decide)) q419a q419c (g := (mkF m 164 #[.val (.int p0), .val (.int p1), .val (.int p2), .val (.int p3), .val (.int ((p0 &&& (2147483647 : Int32)) % (6 : Int32))), .val (.int (j1g_0 ((p0 &&& (2147483647 : Int32)) % (6 : Int32)) ((p1 &&& (2147483647 : Int32)) % (6 : Int32)))), .val (.ref b293), .val (.int (1 : Int32))] [(.ref b293)])) rfl (by rw [hml]; rfl) (Steps.refl _) (argsL := []) (rest := []) (lenOf pd_5 rfl) rfl (by show 2 * 0 + _ ≤ _; exact Nat.le_of_eq rfl) (hb hby at_164) (fun _ _ => ⟨rfl, e410, (by decide : 3 + 0 ≤ _), (by decide : 14 + 0 ≤ _)⟩)
                      dsimp only [Pt.U, Pt.locs, Pt.cells, Pt.slots] at X419 l419 y419 z419 st419 hQ419
                      subst l419 y419 z419
                      obtain ⟨rfl, N419q, e419⟩ := hQ419
                      have N419 := Fr.app N410 N419q
                      have pre420 := fun (t : State) (k : Steps p.tables e below (T419.setTop (mkF m 171 #[.val (.int p0), .val (.int p1), .val (.int p2), .val (.int p3), .val (.int ((p0 &&& (2147483647 : Int32)) % (6 : Int32))), .val (.int (j1g_0 ((p0 &&& (2147483647 : Int32)) % (6 : Int32)) ((p1 &&& (2147483647 : Int32)) % (6 : Int32)))), .val (.ref b293), .val (.int (1 : Int32))] [(.int (j1g_0 ((p0 &&& (2147483647 : Int32)) % (6 : Int32)) ((p1 &&& (2147483647 : Int32)) % (6 : Int32)))), (.int ((p0 &&& (2147483647 : Int32)) % (6 : Int32))), (.int (1 : Int32))])) t) => pre409 t (by
                        show Steps p.tables e below (T399.setTop (mkF m 148 #[.val (.int p0), .val (.int p1), .val (.int p2), .val (.int p3), .val (.int ((p0 &&& (2147483647 : Int32)) % (6 : Int32))), .val (.int (j1g_0 ((p0 &&& (2147483647 : Int32)) % (6 : Int32)) ((p1 &&& (2147483647 : Int32)) % (6 : Int32)))), .val (.ref b293), .val (.int (1 : Int32))] [(.int (4 : Int32)), (.int (j1g_0 ((p0 &&& (2147483647 : Int32)) % (6 : Int32)) ((p1 &&& (2147483647 : Int32)) % (6 : Int32))))])) _
                        refine XS.icmpNo X399.here hx rfl (hb hby at_148) rfl (tlt hc408).2.2.2 ?_
                        show Steps p.tables e below (T399.setTop (mkF m 151 #[.val (.int p0), .val (.int p1), .val (.int p2), .val (.int p3), .val (.int ((p0 &&& (2147483647 : Int32)) % (6 : Int32))), .val (.int (j1g_0 ((p0 &&& (2147483647 : Int32)) % (6 : Int32)) ((p1 &&& (2147483647 : Int32)) % (6 : Int32)))), .val (.ref b293), .val (.int (1 : Int32))] [])) _
                        refine XS.aload X399.here hx rfl (hb hby at_151) rfl rfl ?_
                        show Steps p.tables e below (T399.setTop (mkF m 153 #[.val (.int p0), .val (.int p1), .val (.int p2), .val (.int p3), .val (.int ((p0 &&& (2147483647 : Int32)) % (6 : Int32))), .val (.int (j1g_0 ((p0 &&& (2147483647 : Int32)) % (6 : Int32)) ((p1 &&& (2147483647 : Int32)) % (6 : Int32)))), .val (.ref b293), .val (.int (1 : Int32))] [(.ref b293)])) _
                        refine st410.trans ?_
                        show Steps p.tables e below (T410.setTop (mkF m 156 #[.val (.int p0), .val (.int p1), .val (.int p2), .val (.int p3), .val (.int ((p0 &&& (2147483647 : Int32)) % (6 : Int32))), .val (.int (j1g_0 ((p0 &&& (2147483647 : Int32)) % (6 : Int32)) ((p1 &&& (2147483647 : Int32)) % (6 : Int32)))), .val (.ref b293), .val (.int (1 : Int32))] [(.int p2)])) _
                        refine XS.pop X410.here hx rfl (hb hby at_156) rfl rfl ?_
                        show Steps p.tables e below (T410.setTop (mkF m 157 #[.val (.int p0), .val (.int p1), .val (.int p2), .val (.int p3), .val (.int ((p0 &&& (2147483647 : Int32)) % (6 : Int32))), .val (.int (j1g_0 ((p0 &&& (2147483647 : Int32)) % (6 : Int32)) ((p1 &&& (2147483647 : Int32)) % (6 : Int32)))), .val (.ref b293), .val (.int (1 : Int32))] [])) _
                        refine XS.iload X410.here hx rfl (hb hby at_157) rfl ?_
                        show Steps p.tables e below (T410.setTop (mkF m 159 #[.val (.int p0), .val (.int p1), .val (.int p2), .val (.int p3), .val (.int ((p0 &&& (2147483647 : Int32)) % (6 : Int32))), .val (.int (j1g_0 ((p0 &&& (2147483647 : Int32)) % (6 : Int32)) ((p1 &&& (2147483647 : Int32)) % (6 : Int32)))), .val (.ref b293), .val (.int (1 : Int32))] [(.int (1 : Int32))])) _
                        refine XS.ifNo X410.here hx rfl (hb hby at_159) rfl ((if0 _ _).trans (feq (by decide : ¬ ((1 : Int32) = (0 : Int32)))).1) ?_
                        show Steps p.tables e below (T410.setTop (mkF m 162 #[.val (.int p0), .val (.int p1), .val (.int p2), .val (.int p3), .val (.int ((p0 &&& (2147483647 : Int32)) % (6 : Int32))), .val (.int (j1g_0 ((p0 &&& (2147483647 : Int32)) % (6 : Int32)) ((p1 &&& (2147483647 : Int32)) % (6 : Int32)))), .val (.ref b293), .val (.int (1 : Int32))] [])) _
                        refine XS.aload X410.here hx rfl (hb hby at_162) rfl rfl ?_
                        show Steps p.tables e below (T410.setTop (mkF m 164 #[.val (.int p0), .val (.int p1), .val (.int p2), .val (.int p3), .val (.int ((p0 &&& (2147483647 : Int32)) % (6 : Int32))), .val (.int (j1g_0 ((p0 &&& (2147483647 : Int32)) % (6 : Int32)) ((p1 &&& (2147483647 : Int32)) % (6 : Int32)))), .val (.ref b293), .val (.int (1 : Int32))] [(.ref b293)])) _
                        refine st419.trans ?_
                        show Steps p.tables e below (T419.setTop (mkF m 167 #[.val (.int p0), .val (.int p1), .val (.int p2), .val (.int p3), .val (.int ((p0 &&& (2147483647 : Int32)) % (6 : Int32))), .val (.int (j1g_0 ((p0 &&& (2147483647 : Int32)) % (6 : Int32)) ((p1 &&& (2147483647 : Int32)) % (6 : Int32)))), .val (.ref b293), .val (.int (1 : Int32))] [(.int (1 : Int32))])) _
                        refine XS.iload X419.here hx rfl (hb hby at_167) rfl ?_
                        show Steps p.tables e below (T419.setTop (mkF m 169 #[.val (.int p0), .val (.int p1), .val (.int p2), .val (.int p3), .val (.int ((p0 &&& (2147483647 : Int32)) % (6 : Int32))), .val (.int (j1g_0 ((p0 &&& (2147483647 : Int32)) % (6 : Int32)) ((p1 &&& (2147483647 : Int32)) % (6 : Int32)))), .val (.ref b293), .val (.int (1 : Int32))] [(.int ((p0 &&& (2147483647 : Int32)) % (6 : Int32))), (.int (1 : Int32))])) _
                        refine XS.iload X419.here hx rfl (hb hby at_169) rfl ?_
                        exact k)
                      have pre421 := fun (t : State) (k : Steps p.tables e below (T419.setTop (mkF m 179 #[.val (.int p0), .val (.int p1), .val (.int p2), .val (.int p3), .val (.int ((p0 &&& (2147483647 : Int32)) % (6 : Int32))), .val (.int (j1g_0 ((p0 &&& (2147483647 : Int32)) % (6 : Int32)) ((p1 &&& (2147483647 : Int32)) % (6 : Int32)))), .val (.ref b293), .val (.int (1 : Int32))] [(.int (j0_0 p0 p1)), (.int (1 : Int32))])) t) => pre420 t (by
                        by_cases hc422 : ((p0 &&& (2147483647 : Int32)) % (6 : Int32)) = (j1g_0 ((p0 &&& (2147483647 : Int32)) % (6 : Int32)) ((p1 &&& (2147483647 : Int32)) % (6 : Int32)))
                        · skip
                          show Steps p.tables e below (T419.setTop (mkF m 171 #[.val (.int p0), .val (.int p1), .val (.int p2), .val (.int p3), .val (.int ((p0 &&& (2147483647 : Int32)) % (6 : Int32))), .val (.int (j1g_0 ((p0 &&& (2147483647 : Int32)) % (6 : Int32)) ((p1 &&& (2147483647 : Int32)) % (6 : Int32)))), .val (.ref b293), .val (.int (1 : Int32))] [(.int (j1g_0 ((p0 &&& (2147483647 : Int32)) % (6 : Int32)) ((p1 &&& (2147483647 : Int32)) % (6 : Int32)))), (.int ((p0 &&& (2147483647 : Int32)) % (6 : Int32))), (.int (1 : Int32))])) _
                          refine XS.icmpNo X419.here hx rfl (hb hby at_171) rfl (teq hc422).2 ?_
                          show Steps p.tables e below (T419.setTop (mkF m 174 #[.val (.int p0), .val (.int p1), .val (.int p2), .val (.int p3), .val (.int ((p0 &&& (2147483647 : Int32)) % (6 : Int32))), .val (.int (j1g_0 ((p0 &&& (2147483647 : Int32)) % (6 : Int32)) ((p1 &&& (2147483647 : Int32)) % (6 : Int32)))), .val (.ref b293), .val (.int (1 : Int32))] [(.int (1 : Int32))])) _
                          refine XS.iconst X419.here hx rfl (hb hby at_174) ?_
                          show Steps p.tables e below (T419.setTop (mkF m 175 #[.val (.int p0), .val (.int p1), .val (.int p2), .val (.int p3), .val (.int ((p0 &&& (2147483647 : Int32)) % (6 : Int32))), .val (.int (j1g_0 ((p0 &&& (2147483647 : Int32)) % (6 : Int32)) ((p1 &&& (2147483647 : Int32)) % (6 : Int32)))), .val (.ref b293), .val (.int (1 : Int32))] [(.int (1 : Int32)), (.int (1 : Int32))])) _
                          refine XS.goto X419.here hx rfl (pc0 := 175) (pc' := 179) rfl (hb hby at_175) (by decide) (by decide) ?_
                          have hj423 : (j0_0 p0 p1) = (1 : Int32) := by unfold j0_0; first | (rw [if_pos hc422]) | (simp only [if_pos hc422])
                          rw [hj423] at k
                          exact k
                        · skip
                          show Steps p.tables e below (T419.setTop (mkF m 171 #[.val (.int p0), .val (.int p1), .val (.int p2), .val (.int p3), .val (.int ((p0 &&& (2147483647 : Int32)) % (6 : Int32))), .val (.int (j1g_0 ((p0 &&& (2147483647 : Int32)) % (6 : Int32)) ((p1 &&& (2147483647 : Int32)) % (6 : Int32)))), .val (.ref b293), .val (.int (1 : Int32))] [(.int (j1g_0 ((p0 &&& (2147483647 : Int32)) % (6 : Int32)) ((p1 &&& (2147483647 : Int32)) % (6 : Int32)))), (.int ((p0 &&& (2147483647 : Int32)) % (6 : Int32))), (.int (1 : Int32))])) _
                          refine XS.icmpYes X419.here hx rfl (pc0 := 171) (pc' := 178) rfl (hb hby at_171) rfl (feq hc422).2 (by decide) (by decide) ?_
                          show Steps p.tables e below (T419.setTop (mkF m 178 #[.val (.int p0), .val (.int p1), .val (.int p2), .val (.int p3), .val (.int ((p0 &&& (2147483647 : Int32)) % (6 : Int32))), .val (.int (j1g_0 ((p0 &&& (2147483647 : Int32)) % (6 : Int32)) ((p1 &&& (2147483647 : Int32)) % (6 : Int32)))), .val (.ref b293), .val (.int (1 : Int32))] [(.int (1 : Int32))])) _
                          refine XS.iconst X419.here hx rfl (hb hby at_178) ?_
                          have hj424 : (j0_0 p0 p1) = (0 : Int32) := by unfold j0_0; first | (rw [if_neg hc422]) | (simp only [if_neg hc422])
                          rw [hj424] at k
                          exact k)
                      have pre425 := fun (t : State) (k : Steps p.tables e below (T419.setTop (mkF m 187 #[.val (.int p0), .val (.int p1), .val (.int p2), .val (.int p3), .val (.int ((p0 &&& (2147483647 : Int32)) % (6 : Int32))), .val (.int (j1g_0 ((p0 &&& (2147483647 : Int32)) % (6 : Int32)) ((p1 &&& (2147483647 : Int32)) % (6 : Int32)))), .val (.ref b293), .val (.int (1 : Int32))] [(.int (j0_1 p0 p1))])) t) => pre421 t (by
                        by_cases hc426 : (1 : Int32) = (j0_0 p0 p1)
                        · skip
                          show Steps p.tables e below (T419.setTop (mkF m 179 #[.val (.int p0), .val (.int p1), .val (.int p2), .val (.int p3), .val (.int ((p0 &&& (2147483647 : Int32)) % (6 : Int32))), .val (.int (j1g_0 ((p0 &&& (2147483647 : Int32)) % (6 : Int32)) ((p1 &&& (2147483647 : Int32)) % (6 : Int32)))), .val (.ref b293), .val (.int (1 : Int32))] [(.int (j0_0 p0 p1)), (.int (1 : Int32))])) _
                          refine XS.icmpNo X419.here hx rfl (hb hby at_179) rfl (teq hc426).2 ?_
                          show Steps p.tables e below (T419.setTop (mkF m 182 #[.val (.int p0), .val (.int p1), .val (.int p2), .val (.int p3), .val (.int ((p0 &&& (2147483647 : Int32)) % (6 : Int32))), .val (.int (j1g_0 ((p0 &&& (2147483647 : Int32)) % (6 : Int32)) ((p1 &&& (2147483647 : Int32)) % (6 : Int32)))), .val (.ref b293), .val (.int (1 : Int32))] [])) _
                          refine XS.iconst X419.here hx rfl (hb hby at_182) ?_
                          show Steps p.tables e below (T419.setTop (mkF m 183 #[.val (.int p0), .val (.int p1), .val (.int p2), .val (.int p3), .val (.int ((p0 &&& (2147483647 : Int32)) % (6 : Int32))), .val (.int (j1g_0 ((p0 &&& (2147483647 : Int32)) % (6 : Int32)) ((p1 &&& (2147483647 : Int32)) % (6 : Int32)))), .val (.ref b293), .val (.int (1 : Int32))] [(.int (1 : Int32))])) _
                          refine XS.goto X419.here hx rfl (pc0 := 183) (pc' := 187) rfl (hb hby at_183) (by decide) (by decide) ?_
                          have hj427 : (j0_1 p0 p1) = (1 : Int32) := by unfold j0_1; first | (rw [if_pos hc426]) | (simp only [if_pos hc426])
                          rw [hj427] at k
                          exact k
                        · skip
                          show Steps p.tables e below (T419.setTop (mkF m 179 #[.val (.int p0), .val (.int p1), .val (.int p2), .val (.int p3), .val (.int ((p0 &&& (2147483647 : Int32)) % (6 : Int32))), .val (.int (j1g_0 ((p0 &&& (2147483647 : Int32)) % (6 : Int32)) ((p1 &&& (2147483647 : Int32)) % (6 : Int32)))), .val (.ref b293), .val (.int (1 : Int32))] [(.int (j0_0 p0 p1)), (.int (1 : Int32))])) _
                          refine XS.icmpYes X419.here hx rfl (pc0 := 179) (pc' := 186) rfl (hb hby at_179) rfl (feq hc426).2 (by decide) (by decide) ?_
                          show Steps p.tables e below (T419.setTop (mkF m 186 #[.val (.int p0), .val (.int p1), .val (.int p2), .val (.int p3), .val (.int ((p0 &&& (2147483647 : Int32)) % (6 : Int32))), .val (.int (j1g_0 ((p0 &&& (2147483647 : Int32)) % (6 : Int32)) ((p1 &&& (2147483647 : Int32)) % (6 : Int32)))), .val (.ref b293), .val (.int (1 : Int32))] [])) _
                          refine XS.iconst X419.here hx rfl (hb hby at_186) ?_
                          have hj428 : (j0_1 p0 p1) = (0 : Int32) := by unfold j0_1; first | (rw [if_neg hc426]) | (simp only [if_neg hc426])
                          rw [hj428] at k
                          exact k)
                      obtain ⟨fs, hr, hrun, hended, hW, hsame⟩ := X419.leave (v := some (.int (nar .boolean (j0_1 p0 p1)))) (fun h => by rw [Bd.returns] at h; cases h)
                      refine ⟨_, _, pre425 _ ?_, hrun, hended, _, _, rfl, ?_, ⟨_, rfl⟩, hW, hsame.mono (by decide) (by decide)⟩
                      · skip
                        show Steps p.tables e below (T419.setTop (mkF m 187 #[.val (.int p0), .val (.int p1), .val (.int p2), .val (.int p3), .val (.int ((p0 &&& (2147483647 : Int32)) % (6 : Int32))), .val (.int (j1g_0 ((p0 &&& (2147483647 : Int32)) % (6 : Int32)) ((p1 &&& (2147483647 : Int32)) % (6 : Int32)))), .val (.ref b293), .val (.int (1 : Int32))] [(.int (j0_1 p0 p1))])) _
                        exact retN X419 hx (t := .boolean) Bd.returns (by simp) (hb hby at_187) hr
                      · show Q0 Z p0 p1 p2 p3 h0 n0 _ T419.heap _
                        rw [e419]
                        have hv : (nar .boolean (j0_1 p0 p1)) = (v0 p0 p1) := by unfold v0; first | (rw [if_pos hc307, if_pos hc318, if_pos hc329, if_pos hc340, if_pos hc351, if_pos hc364, if_pos hc375, if_pos hc386, if_pos hc397, if_pos hc408]) | (simp only [if_pos hc307, if_pos hc318, if_pos hc329, if_pos hc340, if_pos hc351, if_pos hc364, if_pos hc375, if_pos hc386, if_pos hc397, if_pos hc408])
                        exact ⟨(by rw [← hv]), N419⟩
                    · skip
                      obtain ⟨cq429, kq429, q429a, q429b, q429c⟩ := isOf hZ e399 f400
                      obtain ⟨_, _, ⟨T429, L429, k429, n429⟩, -, X429, ⟨Lc429, hQ429, l429, y429, z429⟩, st429⟩ := X399.virtualBack hx (y := (⟨"com/example/subsumer/subsumer/classification/IntList", "isEmpty", "()Z"⟩ : MethodName)) (z := (⟨"com/example/subsumer/subsumer/classification/IntList", "isEmpty", "()Z"⟩ : MethodName)) hown (mvT hZ (hw _ (List.mem_of_getElem? (i := 17) rfl))) (mvT hZ (hw _ (List.mem_of_getElem? (i := 18) rfl))) (notFace_of_selects (args := #[]) (mvT hZ (hw _ (List.mem_of_getElem? (i := 20) rfl)))) (mvT hZ (hw _ (List.mem_of_getElem? (i := 20) rfl))) (mvT hZ (hw _ (List.mem_of_getElem? (i := 19) rfl))) (by decide) (backOf (W := 0) (rm4_1 l Z aw hw [] b293 h399 n0 Z399 f400 f401) hZ (hw _ (List.mem_of_getElem? (i := 21) rfl)) (hw _ (List.mem_of_getElem? (i := 7) rfl)) (by decide) (by decide)) q429a q429c (g := (mkF m 164 #[.val (.int p0), .val (.int p1), .val (.int p2), .val (.int p3), .val (.int ((p0 &&& (2147483647 : Int32)) % (6 : Int32))), .val (.int (j1g_0 ((p0 &&& (2147483647 : Int32)) % (6 : Int32)) ((p1 &&& (2147483647 : Int32)) % (6 : Int32)))), .val (.ref b293), .val (.int (1 : Int32))] [(.ref b293)])) rfl (by rw [hml]; rfl) (Steps.refl _) (argsL := []) (rest := []) (lenOf pd_5 rfl) rfl (by show 2 * 0 + _ ≤ _; exact Nat.le_of_eq rfl) (hb hby at_164) (fun _ _ => ⟨rfl, e399, (by decide : 3 + 0 ≤ _), (by decide : 14 + 0 ≤ _)⟩)
                      dsimp only [Pt.U, Pt.locs, Pt.cells, Pt.slots] at X429 l429 y429 z429 st429 hQ429
                      subst l429 y429 z429
                      obtain ⟨rfl, N429q, e429⟩ := hQ429
                      have N429 := Fr.app N399 N429q
                      have pre430 := fun (t : State) (k : Steps p.tables e below (T429.setTop (mkF m 171 #[.val (.int p0), .val (.int p1), .val (.int p2), .val (.int p3), .val (.int ((p0 &&& (2147483647 : Int32)) % (6 : Int32))), .val (.int (j1g_0 ((p0 &&& (2147483647 : Int32)) % (6 : Int32)) ((p1 &&& (2147483647 : Int32)) % (6 : Int32)))), .val (.ref b293), .val (.int (1 : Int32))] [(.int (j1g_0 ((p0 &&& (2147483647 : Int32)) % (6 : Int32)) ((p1 &&& (2147483647 : Int32)) % (6 : Int32)))), (.int ((p0 &&& (2147483647 : Int32)) % (6 : Int32))), (.int (0 : Int32))])) t) => pre409 t (by
                        show Steps p.tables e below (T399.setTop (mkF m 148 #[.val (.int p0), .val (.int p1), .val (.int p2), .val (.int p3), .val (.int ((p0 &&& (2147483647 : Int32)) % (6 : Int32))), .val (.int (j1g_0 ((p0 &&& (2147483647 : Int32)) % (6 : Int32)) ((p1 &&& (2147483647 : Int32)) % (6 : Int32)))), .val (.ref b293), .val (.int (1 : Int32))] [(.int (4 : Int32)), (.int (j1g_0 ((p0 &&& (2147483647 : Int32)) % (6 : Int32)) ((p1 &&& (2147483647 : Int32)) % (6 : Int32))))])) _
                        refine XS.icmpYes X399.here hx rfl (pc0 := 148) (pc' := 157) rfl (hb hby at_148) rfl (flt hc408).2.2.2 (by decide) (by decide) ?_
                        show Steps p.tables e below (T399.setTop (mkF m 157 #[.val (.int p0), .val (.int p1), .val (.int p2), .val (.int p3), .val (.int ((p0 &&& (2147483647 : Int32)) % (6 : Int32))), .val (.int (j1g_0 ((p0 &&& (2147483647 : Int32)) % (6 : Int32)) ((p1 &&& (2147483647 : Int32)) % (6 : Int32)))), .val (.ref b293), .val (.int (1 : Int32))] [])) _
                        refine XS.iload X399.here hx rfl (hb hby at_157) rfl ?_
                        show Steps p.tables e below (T399.setTop (mkF m 159 #[.val (.int p0), .val (.int p1), .val (.int p2), .val (.int p3), .val (.int ((p0 &&& (2147483647 : Int32)) % (6 : Int32))), .val (.int (j1g_0 ((p0 &&& (2147483647 : Int32)) % (6 : Int32)) ((p1 &&& (2147483647 : Int32)) % (6 : Int32)))), .val (.ref b293), .val (.int (1 : Int32))] [(.int (1 : Int32))])) _
                        refine XS.ifNo X399.here hx rfl (hb hby at_159) rfl ((if0 _ _).trans (feq (by decide : ¬ ((1 : Int32) = (0 : Int32)))).1) ?_
                        show Steps p.tables e below (T399.setTop (mkF m 162 #[.val (.int p0), .val (.int p1), .val (.int p2), .val (.int p3), .val (.int ((p0 &&& (2147483647 : Int32)) % (6 : Int32))), .val (.int (j1g_0 ((p0 &&& (2147483647 : Int32)) % (6 : Int32)) ((p1 &&& (2147483647 : Int32)) % (6 : Int32)))), .val (.ref b293), .val (.int (1 : Int32))] [])) _
                        refine XS.aload X399.here hx rfl (hb hby at_162) rfl rfl ?_
                        show Steps p.tables e below (T399.setTop (mkF m 164 #[.val (.int p0), .val (.int p1), .val (.int p2), .val (.int p3), .val (.int ((p0 &&& (2147483647 : Int32)) % (6 : Int32))), .val (.int (j1g_0 ((p0 &&& (2147483647 : Int32)) % (6 : Int32)) ((p1 &&& (2147483647 : Int32)) % (6 : Int32)))), .val (.ref b293), .val (.int (1 : Int32))] [(.ref b293)])) _
                        refine st429.trans ?_
                        show Steps p.tables e below (T429.setTop (mkF m 167 #[.val (.int p0), .val (.int p1), .val (.int p2), .val (.int p3), .val (.int ((p0 &&& (2147483647 : Int32)) % (6 : Int32))), .val (.int (j1g_0 ((p0 &&& (2147483647 : Int32)) % (6 : Int32)) ((p1 &&& (2147483647 : Int32)) % (6 : Int32)))), .val (.ref b293), .val (.int (1 : Int32))] [(.int (0 : Int32))])) _
                        refine XS.iload X429.here hx rfl (hb hby at_167) rfl ?_
                        show Steps p.tables e below (T429.setTop (mkF m 169 #[.val (.int p0), .val (.int p1), .val (.int p2), .val (.int p3), .val (.int ((p0 &&& (2147483647 : Int32)) % (6 : Int32))), .val (.int (j1g_0 ((p0 &&& (2147483647 : Int32)) % (6 : Int32)) ((p1 &&& (2147483647 : Int32)) % (6 : Int32)))), .val (.ref b293), .val (.int (1 : Int32))] [(.int ((p0 &&& (2147483647 : Int32)) % (6 : Int32))), (.int (0 : Int32))])) _
                        refine XS.iload X429.here hx rfl (hb hby at_169) rfl ?_
                        exact k)
                      have pre431 := fun (t : State) (k : Steps p.tables e below (T429.setTop (mkF m 179 #[.val (.int p0), .val (.int p1), .val (.int p2), .val (.int p3), .val (.int ((p0 &&& (2147483647 : Int32)) % (6 : Int32))), .val (.int (j1g_0 ((p0 &&& (2147483647 : Int32)) % (6 : Int32)) ((p1 &&& (2147483647 : Int32)) % (6 : Int32)))), .val (.ref b293), .val (.int (1 : Int32))] [(.int (j0_0 p0 p1)), (.int (0 : Int32))])) t) => pre430 t (by
                        by_cases hc432 : ((p0 &&& (2147483647 : Int32)) % (6 : Int32)) = (j1g_0 ((p0 &&& (2147483647 : Int32)) % (6 : Int32)) ((p1 &&& (2147483647 : Int32)) % (6 : Int32)))
                        · skip
                          show Steps p.tables e below (T429.setTop (mkF m 171 #[.val (.int p0), .val (.int p1), .val (.int p2), .val (.int p3), .val (.int ((p0 &&& (2147483647 : Int32)) % (6 : Int32))), .val (.int (j1g_0 ((p0 &&& (2147483647 : Int32)) % (6 : Int32)) ((p1 &&& (2147483647 : Int32)) % (6 : Int32)))), .val (.ref b293), .val (.int (1 : Int32))] [(.int (j1g_0 ((p0 &&& (2147483647 : Int32)) % (6 : Int32)) ((p1 &&& (2147483647 : Int32)) % (6 : Int32)))), (.int ((p0 &&& (2147483647 : Int32)) % (6 : Int32))), (.int (0 : Int32))])) _
                          refine XS.icmpNo X429.here hx rfl (hb hby at_171) rfl (teq hc432).2 ?_
                          show Steps p.tables e below (T429.setTop (mkF m 174 #[.val (.int p0), .val (.int p1), .val (.int p2), .val (.int p3), .val (.int ((p0 &&& (2147483647 : Int32)) % (6 : Int32))), .val (.int (j1g_0 ((p0 &&& (2147483647 : Int32)) % (6 : Int32)) ((p1 &&& (2147483647 : Int32)) % (6 : Int32)))), .val (.ref b293), .val (.int (1 : Int32))] [(.int (0 : Int32))])) _
                          refine XS.iconst X429.here hx rfl (hb hby at_174) ?_
                          show Steps p.tables e below (T429.setTop (mkF m 175 #[.val (.int p0), .val (.int p1), .val (.int p2), .val (.int p3), .val (.int ((p0 &&& (2147483647 : Int32)) % (6 : Int32))), .val (.int (j1g_0 ((p0 &&& (2147483647 : Int32)) % (6 : Int32)) ((p1 &&& (2147483647 : Int32)) % (6 : Int32)))), .val (.ref b293), .val (.int (1 : Int32))] [(.int (1 : Int32)), (.int (0 : Int32))])) _
                          refine XS.goto X429.here hx rfl (pc0 := 175) (pc' := 179) rfl (hb hby at_175) (by decide) (by decide) ?_
                          have hj433 : (j0_0 p0 p1) = (1 : Int32) := by unfold j0_0; first | (rw [if_pos hc432]) | (simp only [if_pos hc432])
                          rw [hj433] at k
                          exact k
                        · skip
                          show Steps p.tables e below (T429.setTop (mkF m 171 #[.val (.int p0), .val (.int p1), .val (.int p2), .val (.int p3), .val (.int ((p0 &&& (2147483647 : Int32)) % (6 : Int32))), .val (.int (j1g_0 ((p0 &&& (2147483647 : Int32)) % (6 : Int32)) ((p1 &&& (2147483647 : Int32)) % (6 : Int32)))), .val (.ref b293), .val (.int (1 : Int32))] [(.int (j1g_0 ((p0 &&& (2147483647 : Int32)) % (6 : Int32)) ((p1 &&& (2147483647 : Int32)) % (6 : Int32)))), (.int ((p0 &&& (2147483647 : Int32)) % (6 : Int32))), (.int (0 : Int32))])) _
                          refine XS.icmpYes X429.here hx rfl (pc0 := 171) (pc' := 178) rfl (hb hby at_171) rfl (feq hc432).2 (by decide) (by decide) ?_
                          show Steps p.tables e below (T429.setTop (mkF m 178 #[.val (.int p0), .val (.int p1), .val (.int p2), .val (.int p3), .val (.int ((p0 &&& (2147483647 : Int32)) % (6 : Int32))), .val (.int (j1g_0 ((p0 &&& (2147483647 : Int32)) % (6 : Int32)) ((p1 &&& (2147483647 : Int32)) % (6 : Int32)))), .val (.ref b293), .val (.int (1 : Int32))] [(.int (0 : Int32))])) _
                          refine XS.iconst X429.here hx rfl (hb hby at_178) ?_
                          have hj434 : (j0_0 p0 p1) = (0 : Int32) := by unfold j0_0; first | (rw [if_neg hc432]) | (simp only [if_neg hc432])
                          rw [hj434] at k
                          exact k)
                      have pre435 := fun (t : State) (k : Steps p.tables e below (T429.setTop (mkF m 187 #[.val (.int p0), .val (.int p1), .val (.int p2), .val (.int p3), .val (.int ((p0 &&& (2147483647 : Int32)) % (6 : Int32))), .val (.int (j1g_0 ((p0 &&& (2147483647 : Int32)) % (6 : Int32)) ((p1 &&& (2147483647 : Int32)) % (6 : Int32)))), .val (.ref b293), .val (.int (1 : Int32))] [(.int (j0_2 p0 p1))])) t) => pre431 t (by
                        by_cases hc436 : (0 : Int32) = (j0_0 p0 p1)
                        · skip
                          show Steps p.tables e below (T429.setTop (mkF m 179 #[.val (.int p0), .val (.int p1), .val (.int p2), .val (.int p3), .val (.int ((p0 &&& (2147483647 : Int32)) % (6 : Int32))), .val (.int (j1g_0 ((p0 &&& (2147483647 : Int32)) % (6 : Int32)) ((p1 &&& (2147483647 : Int32)) % (6 : Int32)))), .val (.ref b293), .val (.int (1 : Int32))] [(.int (j0_0 p0 p1)), (.int (0 : Int32))])) _
                          refine XS.icmpNo X429.here hx rfl (hb hby at_179) rfl (teq hc436).2 ?_
                          show Steps p.tables e below (T429.setTop (mkF m 182 #[.val (.int p0), .val (.int p1), .val (.int p2), .val (.int p3), .val (.int ((p0 &&& (2147483647 : Int32)) % (6 : Int32))), .val (.int (j1g_0 ((p0 &&& (2147483647 : Int32)) % (6 : Int32)) ((p1 &&& (2147483647 : Int32)) % (6 : Int32)))), .val (.ref b293), .val (.int (1 : Int32))] [])) _
                          refine XS.iconst X429.here hx rfl (hb hby at_182) ?_
                          show Steps p.tables e below (T429.setTop (mkF m 183 #[.val (.int p0), .val (.int p1), .val (.int p2), .val (.int p3), .val (.int ((p0 &&& (2147483647 : Int32)) % (6 : Int32))), .val (.int (j1g_0 ((p0 &&& (2147483647 : Int32)) % (6 : Int32)) ((p1 &&& (2147483647 : Int32)) % (6 : Int32)))), .val (.ref b293), .val (.int (1 : Int32))] [(.int (1 : Int32))])) _
                          refine XS.goto X429.here hx rfl (pc0 := 183) (pc' := 187) rfl (hb hby at_183) (by decide) (by decide) ?_
                          have hj437 : (j0_2 p0 p1) = (1 : Int32) := by unfold j0_2; first | (rw [if_pos hc436]) | (simp only [if_pos hc436])
                          rw [hj437] at k
                          exact k
                        · skip
                          show Steps p.tables e below (T429.setTop (mkF m 179 #[.val (.int p0), .val (.int p1), .val (.int p2), .val (.int p3), .val (.int ((p0 &&& (2147483647 : Int32)) % (6 : Int32))), .val (.int (j1g_0 ((p0 &&& (2147483647 : Int32)) % (6 : Int32)) ((p1 &&& (2147483647 : Int32)) % (6 : Int32)))), .val (.ref b293), .val (.int (1 : Int32))] [(.int (j0_0 p0 p1)), (.int (0 : Int32))])) _
                          refine XS.icmpYes X429.here hx rfl (pc0 := 179) (pc' := 186) rfl (hb hby at_179) rfl (feq hc436).2 (by decide) (by decide) ?_
                          show Steps p.tables e below (T429.setTop (mkF m 186 #[.val (.int p0), .val (.int p1), .val (.int p2), .val (.int p3), .val (.int ((p0 &&& (2147483647 : Int32)) % (6 : Int32))), .val (.int (j1g_0 ((p0 &&& (2147483647 : Int32)) % (6 : Int32)) ((p1 &&& (2147483647 : Int32)) % (6 : Int32)))), .val (.ref b293), .val (.int (1 : Int32))] [])) _
                          refine XS.iconst X429.here hx rfl (hb hby at_186) ?_
                          have hj438 : (j0_2 p0 p1) = (0 : Int32) := by unfold j0_2; first | (rw [if_neg hc436]) | (simp only [if_neg hc436])
                          rw [hj438] at k
                          exact k)
                      obtain ⟨fs, hr, hrun, hended, hW, hsame⟩ := X429.leave (v := some (.int (nar .boolean (j0_2 p0 p1)))) (fun h => by rw [Bd.returns] at h; cases h)
                      refine ⟨_, _, pre435 _ ?_, hrun, hended, _, _, rfl, ?_, ⟨_, rfl⟩, hW, hsame.mono (by decide) (by decide)⟩
                      · skip
                        show Steps p.tables e below (T429.setTop (mkF m 187 #[.val (.int p0), .val (.int p1), .val (.int p2), .val (.int p3), .val (.int ((p0 &&& (2147483647 : Int32)) % (6 : Int32))), .val (.int (j1g_0 ((p0 &&& (2147483647 : Int32)) % (6 : Int32)) ((p1 &&& (2147483647 : Int32)) % (6 : Int32)))), .val (.ref b293), .val (.int (1 : Int32))] [(.int (j0_2 p0 p1))])) _
                        exact retN X429 hx (t := .boolean) Bd.returns (by simp) (hb hby at_187) hr
                      · show Q0 Z p0 p1 p2 p3 h0 n0 _ T429.heap _
                        rw [e429]
                        have hv : (nar .boolean (j0_2 p0 p1)) = (v0 p0 p1) := by unfold v0; first | (rw [if_pos hc307, if_pos hc318, if_pos hc329, if_pos hc340, if_pos hc351, if_pos hc364, if_pos hc375, if_pos hc386, if_pos hc397, if_neg hc408]) | (simp only [if_pos hc307, if_pos hc318, if_pos hc329, if_pos hc340, if_pos hc351, if_pos hc364, if_pos hc375, if_pos hc386, if_pos hc397, if_neg hc408])
                        exact ⟨(by rw [← hv]), N429⟩
                  · skip
                    obtain ⟨cq439, kq439, q439a, q439b, q439c⟩ := isOf hZ e388 f389
                    obtain ⟨_, _, ⟨T439, L439, k439, n439⟩, -, X439, ⟨Lc439, hQ439, l439, y439, z439⟩, st439⟩ := X388.virtualBack hx (y := (⟨"com/example/subsumer/subsumer/classification/IntList", "isEmpty", "()Z"⟩ : MethodName)) (z := (⟨"com/example/subsumer/subsumer/classification/IntList", "isEmpty", "()Z"⟩ : MethodName)) hown (mvT hZ (hw _ (List.mem_of_getElem? (i := 17) rfl))) (mvT hZ (hw _ (List.mem_of_getElem? (i := 18) rfl))) (notFace_of_selects (args := #[]) (mvT hZ (hw _ (List.mem_of_getElem? (i := 20) rfl)))) (mvT hZ (hw _ (List.mem_of_getElem? (i := 20) rfl))) (mvT hZ (hw _ (List.mem_of_getElem? (i := 19) rfl))) (by decide) (backOf (W := 0) (rm4_2 l Z aw hw [] b293 h388 n0 Z388 f389 f390) hZ (hw _ (List.mem_of_getElem? (i := 21) rfl)) (hw _ (List.mem_of_getElem? (i := 7) rfl)) (by decide) (by decide)) q439a q439c (g := (mkF m 164 #[.val (.int p0), .val (.int p1), .val (.int p2), .val (.int p3), .val (.int ((p0 &&& (2147483647 : Int32)) % (6 : Int32))), .val (.int (j1g_0 ((p0 &&& (2147483647 : Int32)) % (6 : Int32)) ((p1 &&& (2147483647 : Int32)) % (6 : Int32)))), .val (.ref b293), .val (.int (1 : Int32))] [(.ref b293)])) rfl (by rw [hml]; rfl) (Steps.refl _) (argsL := []) (rest := []) (lenOf pd_5 rfl) rfl (by show 2 * 0 + _ ≤ _; exact Nat.le_of_eq rfl) (hb hby at_164) (fun _ _ => ⟨rfl, e388, (by decide : 3 + 0 ≤ _), (by decide : 14 + 0 ≤ _)⟩)
                    dsimp only [Pt.U, Pt.locs, Pt.cells, Pt.slots] at X439 l439 y439 z439 st439 hQ439
                    subst l439 y439 z439
                    obtain ⟨rfl, N439q, e439⟩ := hQ439
                    have N439 := Fr.app N388 N439q
                    have pre440 := fun (t : State) (k : Steps p.tables e below (T439.setTop (mkF m 171 #[.val (.int p0), .val (.int p1), .val (.int p2), .val (.int p3), .val (.int ((p0 &&& (2147483647 : Int32)) % (6 : Int32))), .val (.int (j1g_0 ((p0 &&& (2147483647 : Int32)) % (6 : Int32)) ((p1 &&& (2147483647 : Int32)) % (6 : Int32)))), .val (.ref b293), .val (.int (1 : Int32))] [(.int (j1g_0 ((p0 &&& (2147483647 : Int32)) % (6 : Int32)) ((p1 &&& (2147483647 : Int32)) % (6 : Int32)))), (.int ((p0 &&& (2147483647 : Int32)) % (6 : Int32))), (.int (0 : Int32))])) t) => pre398 t (by
                      show Steps p.tables e below (T388.setTop (mkF m 136 #[.val (.int p0), .val (.int p1), .val (.int p2), .val (.int p3), .val (.int ((p0 &&& (2147483647 : Int32)) % (6 : Int32))), .val (.int (j1g_0 ((p0 &&& (2147483647 : Int32)) % (6 : Int32)) ((p1 &&& (2147483647 : Int32)) % (6 : Int32)))), .val (.ref b293), .val (.int (1 : Int32))] [(.int (3 : Int32)), (.int (j1g_0 ((p0 &&& (2147483647 : Int32)) % (6 : Int32)) ((p1 &&& (2147483647 : Int32)) % (6 : Int32))))])) _
                      refine XS.icmpYes X388.here hx rfl (pc0 := 136) (pc' := 145) rfl (hb hby at_136) rfl (flt hc397).2.2.2 (by decide) (by decide) ?_
                      show Steps p.tables e below (T388.setTop (mkF m 145 #[.val (.int p0), .val (.int p1), .val (.int p2), .val (.int p3), .val (.int ((p0 &&& (2147483647 : Int32)) % (6 : Int32))), .val (.int (j1g_0 ((p0 &&& (2147483647 : Int32)) % (6 : Int32)) ((p1 &&& (2147483647 : Int32)) % (6 : Int32)))), .val (.ref b293), .val (.int (1 : Int32))] [])) _
                      refine XS.iload X388.here hx rfl (hb hby at_145) rfl ?_
                      show Steps p.tables e below (T388.setTop (mkF m 147 #[.val (.int p0), .val (.int p1), .val (.int p2), .val (.int p3), .val (.int ((p0 &&& (2147483647 : Int32)) % (6 : Int32))), .val (.int (j1g_0 ((p0 &&& (2147483647 : Int32)) % (6 : Int32)) ((p1 &&& (2147483647 : Int32)) % (6 : Int32)))), .val (.ref b293), .val (.int (1 : Int32))] [(.int (j1g_0 ((p0 &&& (2147483647 : Int32)) % (6 : Int32)) ((p1 &&& (2147483647 : Int32)) % (6 : Int32))))])) _
                      refine XS.iconst X388.here hx rfl (hb hby at_147) ?_
                      show Steps p.tables e below (T388.setTop (mkF m 148 #[.val (.int p0), .val (.int p1), .val (.int p2), .val (.int p3), .val (.int ((p0 &&& (2147483647 : Int32)) % (6 : Int32))), .val (.int (j1g_0 ((p0 &&& (2147483647 : Int32)) % (6 : Int32)) ((p1 &&& (2147483647 : Int32)) % (6 : Int32)))), .val (.ref b293), .val (.int (1 : Int32))] [(.int (4 : Int32)), (.int (j1g_0 ((p0 &&& (2147483647 : Int32)) % (6 : Int32)) ((p1 &&& (2147483647 : Int32)) % (6 : Int32))))])) _
                      refine XS.icmpYes X388.here hx rfl (pc0 := 148) (pc' := 157) rfl (hb hby at_148) rfl (flt (own_up hc397 (by decide))).2.2.2 (by decide) (by decide) ?_
                      show Steps p.tables e below (T388.setTop (mkF m 157 #[.val (.int p0), .val (.int p1), .val (.int p2), .val (.int p3), .val (.int ((p0 &&& (2147483647 : Int32)) % (6 : Int32))), .val (.int (j1g_0 ((p0 &&& (2147483647 : Int32)) % (6 : Int32)) ((p1 &&& (2147483647 : Int32)) % (6 : Int32)))), .val (.ref b293), .val (.int (1 : Int32))] [])) _
                      refine XS.iload X388.here hx rfl (hb hby at_157) rfl ?_
                      show Steps p.tables e below (T388.setTop (mkF m 159 #[.val (.int p0), .val (.int p1), .val (.int p2), .val (.int p3), .val (.int ((p0 &&& (2147483647 : Int32)) % (6 : Int32))), .val (.int (j1g_0 ((p0 &&& (2147483647 : Int32)) % (6 : Int32)) ((p1 &&& (2147483647 : Int32)) % (6 : Int32)))), .val (.ref b293), .val (.int (1 : Int32))] [(.int (1 : Int32))])) _
                      refine XS.ifNo X388.here hx rfl (hb hby at_159) rfl ((if0 _ _).trans (feq (by decide : ¬ ((1 : Int32) = (0 : Int32)))).1) ?_
                      show Steps p.tables e below (T388.setTop (mkF m 162 #[.val (.int p0), .val (.int p1), .val (.int p2), .val (.int p3), .val (.int ((p0 &&& (2147483647 : Int32)) % (6 : Int32))), .val (.int (j1g_0 ((p0 &&& (2147483647 : Int32)) % (6 : Int32)) ((p1 &&& (2147483647 : Int32)) % (6 : Int32)))), .val (.ref b293), .val (.int (1 : Int32))] [])) _
                      refine XS.aload X388.here hx rfl (hb hby at_162) rfl rfl ?_
                      show Steps p.tables e below (T388.setTop (mkF m 164 #[.val (.int p0), .val (.int p1), .val (.int p2), .val (.int p3), .val (.int ((p0 &&& (2147483647 : Int32)) % (6 : Int32))), .val (.int (j1g_0 ((p0 &&& (2147483647 : Int32)) % (6 : Int32)) ((p1 &&& (2147483647 : Int32)) % (6 : Int32)))), .val (.ref b293), .val (.int (1 : Int32))] [(.ref b293)])) _
                      refine st439.trans ?_
                      show Steps p.tables e below (T439.setTop (mkF m 167 #[.val (.int p0), .val (.int p1), .val (.int p2), .val (.int p3), .val (.int ((p0 &&& (2147483647 : Int32)) % (6 : Int32))), .val (.int (j1g_0 ((p0 &&& (2147483647 : Int32)) % (6 : Int32)) ((p1 &&& (2147483647 : Int32)) % (6 : Int32)))), .val (.ref b293), .val (.int (1 : Int32))] [(.int (0 : Int32))])) _
                      refine XS.iload X439.here hx rfl (hb hby at_167) rfl ?_
                      show Steps p.tables e below (T439.setTop (mkF m 169 #[.val (.int p0), .val (.int p1), .val (.int p2), .val (.int p3), .val (.int ((p0 &&& (2147483647 : Int32)) % (6 : Int32))), .val (.int (j1g_0 ((p0 &&& (2147483647 : Int32)) % (6 : Int32)) ((p1 &&& (2147483647 : Int32)) % (6 : Int32)))), .val (.ref b293), .val (.int (1 : Int32))] [(.int ((p0 &&& (2147483647 : Int32)) % (6 : Int32))), (.int (0 : Int32))])) _
                      refine XS.iload X439.here hx rfl (hb hby at_169) rfl ?_
                      exact k)
                    have pre441 := fun (t : State) (k : Steps p.tables e below (T439.setTop (mkF m 179 #[.val (.int p0), .val (.int p1), .val (.int p2), .val (.int p3), .val (.int ((p0 &&& (2147483647 : Int32)) % (6 : Int32))), .val (.int (j1g_0 ((p0 &&& (2147483647 : Int32)) % (6 : Int32)) ((p1 &&& (2147483647 : Int32)) % (6 : Int32)))), .val (.ref b293), .val (.int (1 : Int32))] [(.int (j0_0 p0 p1)), (.int (0 : Int32))])) t) => pre440 t (by
                      by_cases hc442 : ((p0 &&& (2147483647 : Int32)) % (6 : Int32)) = (j1g_0 ((p0 &&& (2147483647 : Int32)) % (6 : Int32)) ((p1 &&& (2147483647 : Int32)) % (6 : Int32)))
                      · skip
                        show Steps p.tables e below (T439.setTop (mkF m 171 #[.val (.int p0), .val (.int p1), .val (.int p2), .val (.int p3), .val (.int ((p0 &&& (2147483647 : Int32)) % (6 : Int32))), .val (.int (j1g_0 ((p0 &&& (2147483647 : Int32)) % (6 : Int32)) ((p1 &&& (2147483647 : Int32)) % (6 : Int32)))), .val (.ref b293), .val (.int (1 : Int32))] [(.int (j1g_0 ((p0 &&& (2147483647 : Int32)) % (6 : Int32)) ((p1 &&& (2147483647 : Int32)) % (6 : Int32)))), (.int ((p0 &&& (2147483647 : Int32)) % (6 : Int32))), (.int (0 : Int32))])) _
                        refine XS.icmpNo X439.here hx rfl (hb hby at_171) rfl (teq hc442).2 ?_
                        show Steps p.tables e below (T439.setTop (mkF m 174 #[.val (.int p0), .val (.int p1), .val (.int p2), .val (.int p3), .val (.int ((p0 &&& (2147483647 : Int32)) % (6 : Int32))), .val (.int (j1g_0 ((p0 &&& (2147483647 : Int32)) % (6 : Int32)) ((p1 &&& (2147483647 : Int32)) % (6 : Int32)))), .val (.ref b293), .val (.int (1 : Int32))] [(.int (0 : Int32))])) _
                        refine XS.iconst X439.here hx rfl (hb hby at_174) ?_
                        show Steps p.tables e below (T439.setTop (mkF m 175 #[.val (.int p0), .val (.int p1), .val (.int p2), .val (.int p3), .val (.int ((p0 &&& (2147483647 : Int32)) % (6 : Int32))), .val (.int (j1g_0 ((p0 &&& (2147483647 : Int32)) % (6 : Int32)) ((p1 &&& (2147483647 : Int32)) % (6 : Int32)))), .val (.ref b293), .val (.int (1 : Int32))] [(.int (1 : Int32)), (.int (0 : Int32))])) _
                        refine XS.goto X439.here hx rfl (pc0 := 175) (pc' := 179) rfl (hb hby at_175) (by decide) (by decide) ?_
                        have hj443 : (j0_0 p0 p1) = (1 : Int32) := by unfold j0_0; first | (rw [if_pos hc442]) | (simp only [if_pos hc442])
                        rw [hj443] at k
                        exact k
                      · skip
                        show Steps p.tables e below (T439.setTop (mkF m 171 #[.val (.int p0), .val (.int p1), .val (.int p2), .val (.int p3), .val (.int ((p0 &&& (2147483647 : Int32)) % (6 : Int32))), .val (.int (j1g_0 ((p0 &&& (2147483647 : Int32)) % (6 : Int32)) ((p1 &&& (2147483647 : Int32)) % (6 : Int32)))), .val (.ref b293), .val (.int (1 : Int32))] [(.int (j1g_0 ((p0 &&& (2147483647 : Int32)) % (6 : Int32)) ((p1 &&& (2147483647 : Int32)) % (6 : Int32)))), (.int ((p0 &&& (2147483647 : Int32)) % (6 : Int32))), (.int (0 : Int32))])) _
                        refine XS.icmpYes X439.here hx rfl (pc0 := 171) (pc' := 178) rfl (hb hby at_171) rfl (feq hc442).2 (by decide) (by decide) ?_
                        show Steps p.tables e below (T439.setTop (mkF m 178 #[.val (.int p0), .val (.int p1), .val (.int p2), .val (.int p3), .val (.int ((p0 &&& (2147483647 : Int32)) % (6 : Int32))), .val (.int (j1g_0 ((p0 &&& (2147483647 : Int32)) % (6 : Int32)) ((p1 &&& (2147483647 : Int32)) % (6 : Int32)))), .val (.ref b293), .val (.int (1 : Int32))] [(.int (0 : Int32))])) _
                        refine XS.iconst X439.here hx rfl (hb hby at_178) ?_
                        have hj444 : (j0_0 p0 p1) = (0 : Int32) := by unfold j0_0; first | (rw [if_neg hc442]) | (simp only [if_neg hc442])
                        rw [hj444] at k
                        exact k)
                    have pre445 := fun (t : State) (k : Steps p.tables e below (T439.setTop (mkF m 187 #[.val (.int p0), .val (.int p1), .val (.int p2), .val (.int p3), .val (.int ((p0 &&& (2147483647 : Int32)) % (6 : Int32))), .val (.int (j1g_0 ((p0 &&& (2147483647 : Int32)) % (6 : Int32)) ((p1 &&& (2147483647 : Int32)) % (6 : Int32)))), .val (.ref b293), .val (.int (1 : Int32))] [(.int (j0_2 p0 p1))])) t) => pre441 t (by
                      by_cases hc446 : (0 : Int32) = (j0_0 p0 p1)
                      · skip
                        show Steps p.tables e below (T439.setTop (mkF m 179 #[.val (.int p0), .val (.int p1), .val (.int p2), .val (.int p3), .val (.int ((p0 &&& (2147483647 : Int32)) % (6 : Int32))), .val (.int (j1g_0 ((p0 &&& (2147483647 : Int32)) % (6 : Int32)) ((p1 &&& (2147483647 : Int32)) % (6 : Int32)))), .val (.ref b293), .val (.int (1 : Int32))] [(.int (j0_0 p0 p1)), (.int (0 : Int32))])) _
                        refine XS.icmpNo X439.here hx rfl (hb hby at_179) rfl (teq hc446).2 ?_
                        show Steps p.tables e below (T439.setTop (mkF m 182 #[.val (.int p0), .val (.int p1), .val (.int p2), .val (.int p3), .val (.int ((p0 &&& (2147483647 : Int32)) % (6 : Int32))), .val (.int (j1g_0 ((p0 &&& (2147483647 : Int32)) % (6 : Int32)) ((p1 &&& (2147483647 : Int32)) % (6 : Int32)))), .val (.ref b293), .val (.int (1 : Int32))] [])) _
                        refine XS.iconst X439.here hx rfl (hb hby at_182) ?_
                        show Steps p.tables e below (T439.setTop (mkF m 183 #[.val (.int p0), .val (.int p1), .val (.int p2), .val (.int p3), .val (.int ((p0 &&& (2147483647 : Int32)) % (6 : Int32))), .val (.int (j1g_0 ((p0 &&& (2147483647 : Int32)) % (6 : Int32)) ((p1 &&& (2147483647 : Int32)) % (6 : Int32)))), .val (.ref b293), .val (.int (1 : Int32))] [(.int (1 : Int32))])) _
                        refine XS.goto X439.here hx rfl (pc0 := 183) (pc' := 187) rfl (hb hby at_183) (by decide) (by decide) ?_
                        have hj447 : (j0_2 p0 p1) = (1 : Int32) := by unfold j0_2; first | (rw [if_pos hc446]) | (simp only [if_pos hc446])
                        rw [hj447] at k
                        exact k
                      · skip
                        show Steps p.tables e below (T439.setTop (mkF m 179 #[.val (.int p0), .val (.int p1), .val (.int p2), .val (.int p3), .val (.int ((p0 &&& (2147483647 : Int32)) % (6 : Int32))), .val (.int (j1g_0 ((p0 &&& (2147483647 : Int32)) % (6 : Int32)) ((p1 &&& (2147483647 : Int32)) % (6 : Int32)))), .val (.ref b293), .val (.int (1 : Int32))] [(.int (j0_0 p0 p1)), (.int (0 : Int32))])) _
                        refine XS.icmpYes X439.here hx rfl (pc0 := 179) (pc' := 186) rfl (hb hby at_179) rfl (feq hc446).2 (by decide) (by decide) ?_
                        show Steps p.tables e below (T439.setTop (mkF m 186 #[.val (.int p0), .val (.int p1), .val (.int p2), .val (.int p3), .val (.int ((p0 &&& (2147483647 : Int32)) % (6 : Int32))), .val (.int (j1g_0 ((p0 &&& (2147483647 : Int32)) % (6 : Int32)) ((p1 &&& (2147483647 : Int32)) % (6 : Int32)))), .val (.ref b293), .val (.int (1 : Int32))] [])) _
                        refine XS.iconst X439.here hx rfl (hb hby at_186) ?_
                        have hj448 : (j0_2 p0 p1) = (0 : Int32) := by unfold j0_2; first | (rw [if_neg hc446]) | (simp only [if_neg hc446])
                        rw [hj448] at k
                        exact k)
                    obtain ⟨fs, hr, hrun, hended, hW, hsame⟩ := X439.leave (v := some (.int (nar .boolean (j0_2 p0 p1)))) (fun h => by rw [Bd.returns] at h; cases h)
                    refine ⟨_, _, pre445 _ ?_, hrun, hended, _, _, rfl, ?_, ⟨_, rfl⟩, hW, hsame.mono (by decide) (by decide)⟩
                    · skip
                      show Steps p.tables e below (T439.setTop (mkF m 187 #[.val (.int p0), .val (.int p1), .val (.int p2), .val (.int p3), .val (.int ((p0 &&& (2147483647 : Int32)) % (6 : Int32))), .val (.int (j1g_0 ((p0 &&& (2147483647 : Int32)) % (6 : Int32)) ((p1 &&& (2147483647 : Int32)) % (6 : Int32)))), .val (.ref b293), .val (.int (1 : Int32))] [(.int (j0_2 p0 p1))])) _
                      exact retN X439 hx (t := .boolean) Bd.returns (by simp) (hb hby at_187) hr
                    · show Q0 Z p0 p1 p2 p3 h0 n0 _ T439.heap _
                      rw [e439]
                      have hv : (nar .boolean (j0_2 p0 p1)) = (v0 p0 p1) := by unfold v0; first | (rw [if_pos hc307, if_pos hc318, if_pos hc329, if_pos hc340, if_pos hc351, if_pos hc364, if_pos hc375, if_pos hc386, if_neg hc397]) | (simp only [if_pos hc307, if_pos hc318, if_pos hc329, if_pos hc340, if_pos hc351, if_pos hc364, if_pos hc375, if_pos hc386, if_neg hc397])
                      exact ⟨(by rw [← hv]), N439⟩
                · skip
                  obtain ⟨cq449, kq449, q449a, q449b, q449c⟩ := isOf hZ e377 f378
                  obtain ⟨_, _, ⟨T449, L449, k449, n449⟩, -, X449, ⟨Lc449, hQ449, l449, y449, z449⟩, st449⟩ := X377.virtualBack hx (y := (⟨"com/example/subsumer/subsumer/classification/IntList", "isEmpty", "()Z"⟩ : MethodName)) (z := (⟨"com/example/subsumer/subsumer/classification/IntList", "isEmpty", "()Z"⟩ : MethodName)) hown (mvT hZ (hw _ (List.mem_of_getElem? (i := 17) rfl))) (mvT hZ (hw _ (List.mem_of_getElem? (i := 18) rfl))) (notFace_of_selects (args := #[]) (mvT hZ (hw _ (List.mem_of_getElem? (i := 20) rfl)))) (mvT hZ (hw _ (List.mem_of_getElem? (i := 20) rfl))) (mvT hZ (hw _ (List.mem_of_getElem? (i := 19) rfl))) (by decide) (backOf (W := 0) (rm4_3 l Z aw hw [] b293 h377 n0 Z377 f378 f379) hZ (hw _ (List.mem_of_getElem? (i := 21) rfl)) (hw _ (List.mem_of_getElem? (i := 7) rfl)) (by decide) (by decide)) q449a q449c (g := (mkF m 164 #[.val (.int p0), .val (.int p1), .val (.int p2), .val (.int p3), .val (.int ((p0 &&& (2147483647 : Int32)) % (6 : Int32))), .val (.int (j1g_0 ((p0 &&& (2147483647 : Int32)) % (6 : Int32)) ((p1 &&& (2147483647 : Int32)) % (6 : Int32)))), .val (.ref b293), .val (.int (1 : Int32))] [(.ref b293)])) rfl (by rw [hml]; rfl) (Steps.refl _) (argsL := []) (rest := []) (lenOf pd_5 rfl) rfl (by show 2 * 0 + _ ≤ _; exact Nat.le_of_eq rfl) (hb hby at_164) (fun _ _ => ⟨rfl, e377, (by decide : 3 + 0 ≤ _), (by decide : 14 + 0 ≤ _)⟩)
                  dsimp only [Pt.U, Pt.locs, Pt.cells, Pt.slots] at X449 l449 y449 z449 st449 hQ449
                  subst l449 y449 z449
                  obtain ⟨rfl, N449q, e449⟩ := hQ449
                  have N449 := Fr.app N377 N449q
                  have pre450 := fun (t : State) (k : Steps p.tables e below (T449.setTop (mkF m 171 #[.val (.int p0), .val (.int p1), .val (.int p2), .val (.int p3), .val (.int ((p0 &&& (2147483647 : Int32)) % (6 : Int32))), .val (.int (j1g_0 ((p0 &&& (2147483647 : Int32)) % (6 : Int32)) ((p1 &&& (2147483647 : Int32)) % (6 : Int32)))), .val (.ref b293), .val (.int (1 : Int32))] [(.int (j1g_0 ((p0 &&& (2147483647 : Int32)) % (6 : Int32)) ((p1 &&& (2147483647 : Int32)) % (6 : Int32)))), (.int ((p0 &&& (2147483647 : Int32)) % (6 : Int32))), (.int (0 : Int32))])) t) => pre387 t (by
                    show Steps p.tables e below (T377.setTop (mkF m 124 #[.val (.int p0), .val (.int p1), .val (.int p2), .val (.int p3), .val (.int ((p0 &&& (2147483647 : Int32)) % (6 : Int32))), .val (.int (j1g_0 ((p0 &&& (2147483647 : Int32)) % (6 : Int32)) ((p1 &&& (2147483647 : Int32)) % (6 : Int32)))), .val (.ref b293), .val (.int (1 : Int32))] [(.int (2 : Int32)), (.int (j1g_0 ((p0 &&& (2147483647 : Int32)) % (6 : Int32)) ((p1 &&& (2147483647 : Int32)) % (6 : Int32))))])) _
                    refine XS.icmpYes X377.here hx rfl (pc0 := 124) (pc' := 133) rfl (hb hby at_124) rfl (flt hc386).2.2.2 (by decide) (by decide) ?_
                    show Steps p.tables e below (T377.setTop (mkF m 133 #[.val (.int p0), .val (.int p1), .val (.int p2), .val (.int p3), .val (.int ((p0 &&& (2147483647 : Int32)) % (6 : Int32))), .val (.int (j1g_0 ((p0 &&& (2147483647 : Int32)) % (6 : Int32)) ((p1 &&& (2147483647 : Int32)) % (6 : Int32)))), .val (.ref b293), .val (.int (1 : Int32))] [])) _
                    refine XS.iload X377.here hx rfl (hb hby at_133) rfl ?_
                    show Steps p.tables e below (T377.setTop (mkF m 135 #[.val (.int p0), .val (.int p1), .val (.int p2), .val (.int p3), .val (.int ((p0 &&& (2147483647 : Int32)) % (6 : Int32))), .val (.int (j1g_0 ((p0 &&& (2147483647 : Int32)) % (6 : Int32)) ((p1 &&& (2147483647 : Int32)) % (6 : Int32)))), .val (.ref b293), .val (.int (1 : Int32))] [(.int (j1g_0 ((p0 &&& (2147483647 : Int32)) % (6 : Int32)) ((p1 &&& (2147483647 : Int32)) % (6 : Int32))))])) _
                    refine XS.iconst X377.here hx rfl (hb hby at_135) ?_
                    show Steps p.tables e below (T377.setTop (mkF m 136 #[.val (.int p0), .val (.int p1), .val (.int p2), .val (.int p3), .val (.int ((p0 &&& (2147483647 : Int32)) % (6 : Int32))), .val (.int (j1g_0 ((p0 &&& (2147483647 : Int32)) % (6 : Int32)) ((p1 &&& (2147483647 : Int32)) % (6 : Int32)))), .val (.ref b293), .val (.int (1 : Int32))] [(.int (3 : Int32)), (.int (j1g_0 ((p0 &&& (2147483647 : Int32)) % (6 : Int32)) ((p1 &&& (2147483647 : Int32)) % (6 : Int32))))])) _
                    refine XS.icmpYes X377.here hx rfl (pc0 := 136) (pc' := 145) rfl (hb hby at_136) rfl (flt (own_up hc386 (by decide))).2.2.2 (by decide) (by decide) ?_
                    show Steps p.tables e below (T377.setTop (mkF m 145 #[.val (.int p0), .val (.int p1), .val (.int p2), .val (.int p3), .val (.int ((p0 &&& (2147483647 : Int32)) % (6 : Int32))), .val (.int (j1g_0 ((p0 &&& (2147483647 : Int32)) % (6 : Int32)) ((p1 &&& (2147483647 : Int32)) % (6 : Int32)))), .val (.ref b293), .val (.int (1 : Int32))] [])) _
                    refine XS.iload X377.here hx rfl (hb hby at_145) rfl ?_
                    show Steps p.tables e below (T377.setTop (mkF m 147 #[.val (.int p0), .val (.int p1), .val (.int p2), .val (.int p3), .val (.int ((p0 &&& (2147483647 : Int32)) % (6 : Int32))), .val (.int (j1g_0 ((p0 &&& (2147483647 : Int32)) % (6 : Int32)) ((p1 &&& (2147483647 : Int32)) % (6 : Int32)))), .val (.ref b293), .val (.int (1 : Int32))] [(.int (j1g_0 ((p0 &&& (2147483647 : Int32)) % (6 : Int32)) ((p1 &&& (2147483647 : Int32)) % (6 : Int32))))])) _
                    refine XS.iconst X377.here hx rfl (hb hby at_147) ?_
                    show Steps p.tables e below (T377.setTop (mkF m 148 #[.val (.int p0), .val (.int p1), .val (.int p2), .val (.int p3), .val (.int ((p0 &&& (2147483647 : Int32)) % (6 : Int32))), .val (.int (j1g_0 ((p0 &&& (2147483647 : Int32)) % (6 : Int32)) ((p1 &&& (2147483647 : Int32)) % (6 : Int32)))), .val (.ref b293), .val (.int (1 : Int32))] [(.int (4 : Int32)), (.int (j1g_0 ((p0 &&& (2147483647 : Int32)) % (6 : Int32)) ((p1 &&& (2147483647 : Int32)) % (6 : Int32))))])) _
                    refine XS.icmpYes X377.here hx rfl (pc0 := 148) (pc' := 157) rfl (hb hby at_148) rfl (flt (own_up hc386 (by decide))).2.2.2 (by decide) (by decide) ?_
                    show Steps p.tables e below (T377.setTop (mkF m 157 #[.val (.int p0), .val (.int p1), .val (.int p2), .val (.int p3), .val (.int ((p0 &&& (2147483647 : Int32)) % (6 : Int32))), .val (.int (j1g_0 ((p0 &&& (2147483647 : Int32)) % (6 : Int32)) ((p1 &&& (2147483647 : Int32)) % (6 : Int32)))), .val (.ref b293), .val (.int (1 : Int32))] [])) _
                    refine XS.iload X377.here hx rfl (hb hby at_157) rfl ?_
                    show Steps p.tables e below (T377.setTop (mkF m 159 #[.val (.int p0), .val (.int p1), .val (.int p2), .val (.int p3), .val (.int ((p0 &&& (2147483647 : Int32)) % (6 : Int32))), .val (.int (j1g_0 ((p0 &&& (2147483647 : Int32)) % (6 : Int32)) ((p1 &&& (2147483647 : Int32)) % (6 : Int32)))), .val (.ref b293), .val (.int (1 : Int32))] [(.int (1 : Int32))])) _
                    refine XS.ifNo X377.here hx rfl (hb hby at_159) rfl ((if0 _ _).trans (feq (by decide : ¬ ((1 : Int32) = (0 : Int32)))).1) ?_
                    show Steps p.tables e below (T377.setTop (mkF m 162 #[.val (.int p0), .val (.int p1), .val (.int p2), .val (.int p3), .val (.int ((p0 &&& (2147483647 : Int32)) % (6 : Int32))), .val (.int (j1g_0 ((p0 &&& (2147483647 : Int32)) % (6 : Int32)) ((p1 &&& (2147483647 : Int32)) % (6 : Int32)))), .val (.ref b293), .val (.int (1 : Int32))] [])) _
                    refine XS.aload X377.here hx rfl (hb hby at_162) rfl rfl ?_
                    show Steps p.tables e below (T377.setTop (mkF m 164 #[.val (.int p0), .val (.int p1), .val (.int p2), .val (.int p3), .val (.int ((p0 &&& (2147483647 : Int32)) % (6 : Int32))), .val (.int (j1g_0 ((p0 &&& (2147483647 : Int32)) % (6 : Int32)) ((p1 &&& (2147483647 : Int32)) % (6 : Int32)))), .val (.ref b293), .val (.int (1 : Int32))] [(.ref b293)])) _
                    refine st449.trans ?_
                    show Steps p.tables e below (T449.setTop (mkF m 167 #[.val (.int p0), .val (.int p1), .val (.int p2), .val (.int p3), .val (.int ((p0 &&& (2147483647 : Int32)) % (6 : Int32))), .val (.int (j1g_0 ((p0 &&& (2147483647 : Int32)) % (6 : Int32)) ((p1 &&& (2147483647 : Int32)) % (6 : Int32)))), .val (.ref b293), .val (.int (1 : Int32))] [(.int (0 : Int32))])) _
                    refine XS.iload X449.here hx rfl (hb hby at_167) rfl ?_
                    show Steps p.tables e below (T449.setTop (mkF m 169 #[.val (.int p0), .val (.int p1), .val (.int p2), .val (.int p3), .val (.int ((p0 &&& (2147483647 : Int32)) % (6 : Int32))), .val (.int (j1g_0 ((p0 &&& (2147483647 : Int32)) % (6 : Int32)) ((p1 &&& (2147483647 : Int32)) % (6 : Int32)))), .val (.ref b293), .val (.int (1 : Int32))] [(.int ((p0 &&& (2147483647 : Int32)) % (6 : Int32))), (.int (0 : Int32))])) _
                    refine XS.iload X449.here hx rfl (hb hby at_169) rfl ?_
                    exact k)
                  have pre451 := fun (t : State) (k : Steps p.tables e below (T449.setTop (mkF m 179 #[.val (.int p0), .val (.int p1), .val (.int p2), .val (.int p3), .val (.int ((p0 &&& (2147483647 : Int32)) % (6 : Int32))), .val (.int (j1g_0 ((p0 &&& (2147483647 : Int32)) % (6 : Int32)) ((p1 &&& (2147483647 : Int32)) % (6 : Int32)))), .val (.ref b293), .val (.int (1 : Int32))] [(.int (j0_0 p0 p1)), (.int (0 : Int32))])) t) => pre450 t (by
                    by_cases hc452 : ((p0 &&& (2147483647 : Int32)) % (6 : Int32)) = (j1g_0 ((p0 &&& (2147483647 : Int32)) % (6 : Int32)) ((p1 &&& (2147483647 : Int32)) % (6 : Int32)))
                    · skip
                      show Steps p.tables e below (T449.setTop (mkF m 171 #[.val (.int p0), .val (.int p1), .val (.int p2), .val (.int p3), .val (.int ((p0 &&& (2147483647 : Int32)) % (6 : Int32))), .val (.int (j1g_0 ((p0 &&& (2147483647 : Int32)) % (6 : Int32)) ((p1 &&& (2147483647 : Int32)) % (6 : Int32)))), .val (.ref b293), .val (.int (1 : Int32))] [(.int (j1g_0 ((p0 &&& (2147483647 : Int32)) % (6 : Int32)) ((p1 &&& (2147483647 : Int32)) % (6 : Int32)))), (.int ((p0 &&& (2147483647 : Int32)) % (6 : Int32))), (.int (0 : Int32))])) _
                      refine XS.icmpNo X449.here hx rfl (hb hby at_171) rfl (teq hc452).2 ?_
                      show Steps p.tables e below (T449.setTop (mkF m 174 #[.val (.int p0), .val (.int p1), .val (.int p2), .val (.int p3), .val (.int ((p0 &&& (2147483647 : Int32)) % (6 : Int32))), .val (.int (j1g_0 ((p0 &&& (2147483647 : Int32)) % (6 : Int32)) ((p1 &&& (2147483647 : Int32)) % (6 : Int32)))), .val (.ref b293), .val (.int (1 : Int32))] [(.int (0 : Int32))])) _
                      refine XS.iconst X449.here hx rfl (hb hby at_174) ?_
                      show Steps p.tables e below (T449.setTop (mkF m 175 #[.val (.int p0), .val (.int p1), .val (.int p2), .val (.int p3), .val (.int ((p0 &&& (2147483647 : Int32)) % (6 : Int32))), .val (.int (j1g_0 ((p0 &&& (2147483647 : Int32)) % (6 : Int32)) ((p1 &&& (2147483647 : Int32)) % (6 : Int32)))), .val (.ref b293), .val (.int (1 : Int32))] [(.int (1 : Int32)), (.int (0 : Int32))])) _
                      refine XS.goto X449.here hx rfl (pc0 := 175) (pc' := 179) rfl (hb hby at_175) (by decide) (by decide) ?_
                      have hj453 : (j0_0 p0 p1) = (1 : Int32) := by unfold j0_0; first | (rw [if_pos hc452]) | (simp only [if_pos hc452])
                      rw [hj453] at k
                      exact k
                    · skip
                      show Steps p.tables e below (T449.setTop (mkF m 171 #[.val (.int p0), .val (.int p1), .val (.int p2), .val (.int p3), .val (.int ((p0 &&& (2147483647 : Int32)) % (6 : Int32))), .val (.int (j1g_0 ((p0 &&& (2147483647 : Int32)) % (6 : Int32)) ((p1 &&& (2147483647 : Int32)) % (6 : Int32)))), .val (.ref b293), .val (.int (1 : Int32))] [(.int (j1g_0 ((p0 &&& (2147483647 : Int32)) % (6 : Int32)) ((p1 &&& (2147483647 : Int32)) % (6 : Int32)))), (.int ((p0 &&& (2147483647 : Int32)) % (6 : Int32))), (.int (0 : Int32))])) _
                      refine XS.icmpYes X449.here hx rfl (pc0 := 171) (pc' := 178) rfl (hb hby at_171) rfl (feq hc452).2 (by decide) (by decide) ?_
                      show Steps p.tables e below (T449.setTop (mkF m 178 #[.val (.int p0), .val (.int p1), .val (.int p2), .val (.int p3), .val (.int ((p0 &&& (2147483647 : Int32)) % (6 : Int32))), .val (.int (j1g_0 ((p0 &&& (2147483647 : Int32)) % (6 : Int32)) ((p1 &&& (2147483647 : Int32)) % (6 : Int32)))), .val (.ref b293), .val (.int (1 : Int32))] [(.int (0 : Int32))])) _
                      refine XS.iconst X449.here hx rfl (hb hby at_178) ?_
                      have hj454 : (j0_0 p0 p1) = (0 : Int32) := by unfold j0_0; first | (rw [if_neg hc452]) | (simp only [if_neg hc452])
                      rw [hj454] at k
                      exact k)
                  have pre455 := fun (t : State) (k : Steps p.tables e below (T449.setTop (mkF m 187 #[.val (.int p0), .val (.int p1), .val (.int p2), .val (.int p3), .val (.int ((p0 &&& (2147483647 : Int32)) % (6 : Int32))), .val (.int (j1g_0 ((p0 &&& (2147483647 : Int32)) % (6 : Int32)) ((p1 &&& (2147483647 : Int32)) % (6 : Int32)))), .val (.ref b293), .val (.int (1 : Int32))] [(.int (j0_2 p0 p1))])) t) => pre451 t (by
                    by_cases hc456 : (0 : Int32) = (j0_0 p0 p1)
                    · skip
                      show Steps p.tables e below (T449.setTop (mkF m 179 #[.val (.int p0), .val (.int p1), .val (.int p2), .val (.int p3), .val (.int ((p0 &&& (2147483647 : Int32)) % (6 : Int32))), .val (.int (j1g_0 ((p0 &&& (2147483647 : Int32)) % (6 : Int32)) ((p1 &&& (2147483647 : Int32)) % (6 : Int32)))), .val (.ref b293), .val (.int (1 : Int32))] [(.int (j0_0 p0 p1)), (.int (0 : Int32))])) _
                      refine XS.icmpNo X449.here hx rfl (hb hby at_179) rfl (teq hc456).2 ?_
                      show Steps p.tables e below (T449.setTop (mkF m 182 #[.val (.int p0), .val (.int p1), .val (.int p2), .val (.int p3), .val (.int ((p0 &&& (2147483647 : Int32)) % (6 : Int32))), .val (.int (j1g_0 ((p0 &&& (2147483647 : Int32)) % (6 : Int32)) ((p1 &&& (2147483647 : Int32)) % (6 : Int32)))), .val (.ref b293), .val (.int (1 : Int32))] [])) _
                      refine XS.iconst X449.here hx rfl (hb hby at_182) ?_
                      show Steps p.tables e below (T449.setTop (mkF m 183 #[.val (.int p0), .val (.int p1), .val (.int p2), .val (.int p3), .val (.int ((p0 &&& (2147483647 : Int32)) % (6 : Int32))), .val (.int (j1g_0 ((p0 &&& (2147483647 : Int32)) % (6 : Int32)) ((p1 &&& (2147483647 : Int32)) % (6 : Int32)))), .val (.ref b293), .val (.int (1 : Int32))] [(.int (1 : Int32))])) _
                      refine XS.goto X449.here hx rfl (pc0 := 183) (pc' := 187) rfl (hb hby at_183) (by decide) (by decide) ?_
                      have hj457 : (j0_2 p0 p1) = (1 : Int32) := by unfold j0_2; first | (rw [if_pos hc456]) | (simp only [if_pos hc456])
                      rw [hj457] at k
                      exact k
                    · skip
                      show Steps p.tables e below (T449.setTop (mkF m 179 #[.val (.int p0), .val (.int p1), .val (.int p2), .val (.int p3), .val (.int ((p0 &&& (2147483647 : Int32)) % (6 : Int32))), .val (.int (j1g_0 ((p0 &&& (2147483647 : Int32)) % (6 : Int32)) ((p1 &&& (2147483647 : Int32)) % (6 : Int32)))), .val (.ref b293), .val (.int (1 : Int32))] [(.int (j0_0 p0 p1)), (.int (0 : Int32))])) _
                      refine XS.icmpYes X449.here hx rfl (pc0 := 179) (pc' := 186) rfl (hb hby at_179) rfl (feq hc456).2 (by decide) (by decide) ?_
                      show Steps p.tables e below (T449.setTop (mkF m 186 #[.val (.int p0), .val (.int p1), .val (.int p2), .val (.int p3), .val (.int ((p0 &&& (2147483647 : Int32)) % (6 : Int32))), .val (.int (j1g_0 ((p0 &&& (2147483647 : Int32)) % (6 : Int32)) ((p1 &&& (2147483647 : Int32)) % (6 : Int32)))), .val (.ref b293), .val (.int (1 : Int32))] [])) _
                      refine XS.iconst X449.here hx rfl (hb hby at_186) ?_
                      have hj458 : (j0_2 p0 p1) = (0 : Int32) := by unfold j0_2; first | (rw [if_neg hc456]) | (simp only [if_neg hc456])
                      rw [hj458] at k
                      exact k)
                  obtain ⟨fs, hr, hrun, hended, hW, hsame⟩ := X449.leave (v := some (.int (nar .boolean (j0_2 p0 p1)))) (fun h => by rw [Bd.returns] at h; cases h)
                  refine ⟨_, _, pre455 _ ?_, hrun, hended, _, _, rfl, ?_, ⟨_, rfl⟩, hW, hsame.mono (by decide) (by decide)⟩
                  · skip
                    show Steps p.tables e below (T449.setTop (mkF m 187 #[.val (.int p0), .val (.int p1), .val (.int p2), .val (.int p3), .val (.int ((p0 &&& (2147483647 : Int32)) % (6 : Int32))), .val (.int (j1g_0 ((p0 &&& (2147483647 : Int32)) % (6 : Int32)) ((p1 &&& (2147483647 : Int32)) % (6 : Int32)))), .val (.ref b293), .val (.int (1 : Int32))] [(.int (j0_2 p0 p1))])) _
                    exact retN X449 hx (t := .boolean) Bd.returns (by simp) (hb hby at_187) hr
                  · show Q0 Z p0 p1 p2 p3 h0 n0 _ T449.heap _
                    rw [e449]
                    have hv : (nar .boolean (j0_2 p0 p1)) = (v0 p0 p1) := by unfold v0; first | (rw [if_pos hc307, if_pos hc318, if_pos hc329, if_pos hc340, if_pos hc351, if_pos hc364, if_pos hc375, if_neg hc386]) | (simp only [if_pos hc307, if_pos hc318, if_pos hc329, if_pos hc340, if_pos hc351, if_pos hc364, if_pos hc375, if_neg hc386])
                    exact ⟨(by rw [← hv]), N449⟩
              · skip
                obtain ⟨cq459, kq459, q459a, q459b, q459c⟩ := isOf hZ e366 f367
                obtain ⟨_, _, ⟨T459, L459, k459, n459⟩, -, X459, ⟨Lc459, hQ459, l459, y459, z459⟩, st459⟩ := X366.virtualBack hx (y := (⟨"com/example/subsumer/subsumer/classification/IntList", "isEmpty", "()Z"⟩ : MethodName)) (z := (⟨"com/example/subsumer/subsumer/classification/IntList", "isEmpty", "()Z"⟩ : MethodName)) hown (mvT hZ (hw _ (List.mem_of_getElem? (i := 17) rfl))) (mvT hZ (hw _ (List.mem_of_getElem? (i := 18) rfl))) (notFace_of_selects (args := #[]) (mvT hZ (hw _ (List.mem_of_getElem? (i := 20) rfl)))) (mvT hZ (hw _ (List.mem_of_getElem? (i := 20) rfl))) (mvT hZ (hw _ (List.mem_of_getElem? (i := 19) rfl))) (by decide) (backOf (W := 0) (rm4_4 l Z aw hw [] b293 h366 n0 Z366 f367 f368) hZ (hw _ (List.mem_of_getElem? (i := 21) rfl)) (hw _ (List.mem_of_getElem? (i := 7) rfl)) (by decide) (by decide)) q459a q459c (g := (mkF m 164 #[.val (.int p0), .val (.int p1), .val (.int p2), .val (.int p3), .val (.int ((p0 &&& (2147483647 : Int32)) % (6 : Int32))), .val (.int (j1g_0 ((p0 &&& (2147483647 : Int32)) % (6 : Int32)) ((p1 &&& (2147483647 : Int32)) % (6 : Int32)))), .val (.ref b293), .val (.int (1 : Int32))] [(.ref b293)])) rfl (by rw [hml]; rfl) (Steps.refl _) (argsL := []) (rest := []) (lenOf pd_5 rfl) rfl (by show 2 * 0 + _ ≤ _; exact Nat.le_of_eq rfl) (hb hby at_164) (fun _ _ => ⟨rfl, e366, (by decide : 3 + 0 ≤ _), (by decide : 14 + 0 ≤ _)⟩)
                dsimp only [Pt.U, Pt.locs, Pt.cells, Pt.slots] at X459 l459 y459 z459 st459 hQ459
                subst l459 y459 z459
                obtain ⟨rfl, N459q, e459⟩ := hQ459
                have N459 := Fr.app N366 N459q
                have pre460 := fun (t : State) (k : Steps p.tables e below (T459.setTop (mkF m 171 #[.val (.int p0), .val (.int p1), .val (.int p2), .val (.int p3), .val (.int ((p0 &&& (2147483647 : Int32)) % (6 : Int32))), .val (.int (j1g_0 ((p0 &&& (2147483647 : Int32)) % (6 : Int32)) ((p1 &&& (2147483647 : Int32)) % (6 : Int32)))), .val (.ref b293), .val (.int (1 : Int32))] [(.int (j1g_0 ((p0 &&& (2147483647 : Int32)) % (6 : Int32)) ((p1 &&& (2147483647 : Int32)) % (6 : Int32)))), (.int ((p0 &&& (2147483647 : Int32)) % (6 : Int32))), (.int (0 : Int32))])) t) => pre376 t (by
                  show Steps p.tables e below (T366.setTop (mkF m 112 #[.val (.int p0), .val (.int p1), .val (.int p2), .val (.int p3), .val (.int ((p0 &&& (2147483647 : Int32)) % (6 : Int32))), .val (.int (j1g_0 ((p0 &&& (2147483647 : Int32)) % (6 : Int32)) ((p1 &&& (2147483647 : Int32)) % (6 : Int32)))), .val (.ref b293), .val (.int (1 : Int32))] [(.int (1 : Int32)), (.int (j1g_0 ((p0 &&& (2147483647 : Int32)) % (6 : Int32)) ((p1 &&& (2147483647 : Int32)) % (6 : Int32))))])) _
                  refine XS.icmpYes X366.here hx rfl (pc0 := 112) (pc' := 121) rfl (hb hby at_112) rfl (flt hc375).2.2.2 (by decide) (by decide) ?_
                  show Steps p.tables e below (T366.setTop (mkF m 121 #[.val (.int p0), .val (.int p1), .val (.int p2), .val (.int p3), .val (.int ((p0 &&& (2147483647 : Int32)) % (6 : Int32))), .val (.int (j1g_0 ((p0 &&& (2147483647 : Int32)) % (6 : Int32)) ((p1 &&& (2147483647 : Int32)) % (6 : Int32)))), .val (.ref b293), .val (.int (1 : Int32))] [])) _
                  refine XS.iload X366.here hx rfl (hb hby at_121) rfl ?_
                  show Steps p.tables e below (T366.setTop (mkF m 123 #[.val (.int p0), .val (.int p1), .val (.int p2), .val (.int p3), .val (.int ((p0 &&& (2147483647 : Int32)) % (6 : Int32))), .val (.int (j1g_0 ((p0 &&& (2147483647 : Int32)) % (6 : Int32)) ((p1 &&& (2147483647 : Int32)) % (6 : Int32)))), .val (.ref b293), .val (.int (1 : Int32))] [(.int (j1g_0 ((p0 &&& (2147483647 : Int32)) % (6 : Int32)) ((p1 &&& (2147483647 : Int32)) % (6 : Int32))))])) _
                  refine XS.iconst X366.here hx rfl (hb hby at_123) ?_
                  show Steps p.tables e below (T366.setTop (mkF m 124 #[.val (.int p0), .val (.int p1), .val (.int p2), .val (.int p3), .val (.int ((p0 &&& (2147483647 : Int32)) % (6 : Int32))), .val (.int (j1g_0 ((p0 &&& (2147483647 : Int32)) % (6 : Int32)) ((p1 &&& (2147483647 : Int32)) % (6 : Int32)))), .val (.ref b293), .val (.int (1 : Int32))] [(.int (2 : Int32)), (.int (j1g_0 ((p0 &&& (2147483647 : Int32)) % (6 : Int32)) ((p1 &&& (2147483647 : Int32)) % (6 : Int32))))])) _
                  refine XS.icmpYes X366.here hx rfl (pc0 := 124) (pc' := 133) rfl (hb hby at_124) rfl (flt (own_up hc375 (by decide))).2.2.2 (by decide) (by decide) ?_
                  show Steps p.tables e below (T366.setTop (mkF m 133 #[.val (.int p0), .val (.int p1), .val (.int p2), .val (.int p3), .val (.int ((p0 &&& (2147483647 : Int32)) % (6 : Int32))), .val (.int (j1g_0 ((p0 &&& (2147483647 : Int32)) % (6 : Int32)) ((p1 &&& (2147483647 : Int32)) % (6 : Int32)))), .val (.ref b293), .val (.int (1 : Int32))] [])) _
                  refine XS.iload X366.here hx rfl (hb hby at_133) rfl ?_
                  show Steps p.tables e below (T366.setTop (mkF m 135 #[.val (.int p0), .val (.int p1), .val (.int p2), .val (.int p3), .val (.int ((p0 &&& (2147483647 : Int32)) % (6 : Int32))), .val (.int (j1g_0 ((p0 &&& (2147483647 : Int32)) % (6 : Int32)) ((p1 &&& (2147483647 : Int32)) % (6 : Int32)))), .val (.ref b293), .val (.int (1 : Int32))] [(.int (j1g_0 ((p0 &&& (2147483647 : Int32)) % (6 : Int32)) ((p1 &&& (2147483647 : Int32)) % (6 : Int32))))])) _
                  refine XS.iconst X366.here hx rfl (hb hby at_135) ?_
                  show Steps p.tables e below (T366.setTop (mkF m 136 #[.val (.int p0), .val (.int p1), .val (.int p2), .val (.int p3), .val (.int ((p0 &&& (2147483647 : Int32)) % (6 : Int32))), .val (.int (j1g_0 ((p0 &&& (2147483647 : Int32)) % (6 : Int32)) ((p1 &&& (2147483647 : Int32)) % (6 : Int32)))), .val (.ref b293), .val (.int (1 : Int32))] [(.int (3 : Int32)), (.int (j1g_0 ((p0 &&& (2147483647 : Int32)) % (6 : Int32)) ((p1 &&& (2147483647 : Int32)) % (6 : Int32))))])) _
                  refine XS.icmpYes X366.here hx rfl (pc0 := 136) (pc' := 145) rfl (hb hby at_136) rfl (flt (own_up hc375 (by decide))).2.2.2 (by decide) (by decide) ?_
                  show Steps p.tables e below (T366.setTop (mkF m 145 #[.val (.int p0), .val (.int p1), .val (.int p2), .val (.int p3), .val (.int ((p0 &&& (2147483647 : Int32)) % (6 : Int32))), .val (.int (j1g_0 ((p0 &&& (2147483647 : Int32)) % (6 : Int32)) ((p1 &&& (2147483647 : Int32)) % (6 : Int32)))), .val (.ref b293), .val (.int (1 : Int32))] [])) _
                  refine XS.iload X366.here hx rfl (hb hby at_145) rfl ?_
                  show Steps p.tables e below (T366.setTop (mkF m 147 #[.val (.int p0), .val (.int p1), .val (.int p2), .val (.int p3), .val (.int ((p0 &&& (2147483647 : Int32)) % (6 : Int32))), .val (.int (j1g_0 ((p0 &&& (2147483647 : Int32)) % (6 : Int32)) ((p1 &&& (2147483647 : Int32)) % (6 : Int32)))), .val (.ref b293), .val (.int (1 : Int32))] [(.int (j1g_0 ((p0 &&& (2147483647 : Int32)) % (6 : Int32)) ((p1 &&& (2147483647 : Int32)) % (6 : Int32))))])) _
                  refine XS.iconst X366.here hx rfl (hb hby at_147) ?_
                  show Steps p.tables e below (T366.setTop (mkF m 148 #[.val (.int p0), .val (.int p1), .val (.int p2), .val (.int p3), .val (.int ((p0 &&& (2147483647 : Int32)) % (6 : Int32))), .val (.int (j1g_0 ((p0 &&& (2147483647 : Int32)) % (6 : Int32)) ((p1 &&& (2147483647 : Int32)) % (6 : Int32)))), .val (.ref b293), .val (.int (1 : Int32))] [(.int (4 : Int32)), (.int (j1g_0 ((p0 &&& (2147483647 : Int32)) % (6 : Int32)) ((p1 &&& (2147483647 : Int32)) % (6 : Int32))))])) _
                  refine XS.icmpYes X366.here hx rfl (pc0 := 148) (pc' := 157) rfl (hb hby at_148) rfl (flt (own_up hc375 (by decide))).2.2.2 (by decide) (by decide) ?_
                  show Steps p.tables e below (T366.setTop (mkF m 157 #[.val (.int p0), .val (.int p1), .val (.int p2), .val (.int p3), .val (.int ((p0 &&& (2147483647 : Int32)) % (6 : Int32))), .val (.int (j1g_0 ((p0 &&& (2147483647 : Int32)) % (6 : Int32)) ((p1 &&& (2147483647 : Int32)) % (6 : Int32)))), .val (.ref b293), .val (.int (1 : Int32))] [])) _
                  refine XS.iload X366.here hx rfl (hb hby at_157) rfl ?_
                  show Steps p.tables e below (T366.setTop (mkF m 159 #[.val (.int p0), .val (.int p1), .val (.int p2), .val (.int p3), .val (.int ((p0 &&& (2147483647 : Int32)) % (6 : Int32))), .val (.int (j1g_0 ((p0 &&& (2147483647 : Int32)) % (6 : Int32)) ((p1 &&& (2147483647 : Int32)) % (6 : Int32)))), .val (.ref b293), .val (.int (1 : Int32))] [(.int (1 : Int32))])) _
                  refine XS.ifNo X366.here hx rfl (hb hby at_159) rfl ((if0 _ _).trans (feq (by decide : ¬ ((1 : Int32) = (0 : Int32)))).1) ?_
                  show Steps p.tables e below (T366.setTop (mkF m 162 #[.val (.int p0), .val (.int p1), .val (.int p2), .val (.int p3), .val (.int ((p0 &&& (2147483647 : Int32)) % (6 : Int32))), .val (.int (j1g_0 ((p0 &&& (2147483647 : Int32)) % (6 : Int32)) ((p1 &&& (2147483647 : Int32)) % (6 : Int32)))), .val (.ref b293), .val (.int (1 : Int32))] [])) _
                  refine XS.aload X366.here hx rfl (hb hby at_162) rfl rfl ?_
                  show Steps p.tables e below (T366.setTop (mkF m 164 #[.val (.int p0), .val (.int p1), .val (.int p2), .val (.int p3), .val (.int ((p0 &&& (2147483647 : Int32)) % (6 : Int32))), .val (.int (j1g_0 ((p0 &&& (2147483647 : Int32)) % (6 : Int32)) ((p1 &&& (2147483647 : Int32)) % (6 : Int32)))), .val (.ref b293), .val (.int (1 : Int32))] [(.ref b293)])) _
                  refine st459.trans ?_
                  show Steps p.tables e below (T459.setTop (mkF m 167 #[.val (.int p0), .val (.int p1), .val (.int p2), .val (.int p3), .val (.int ((p0 &&& (2147483647 : Int32)) % (6 : Int32))), .val (.int (j1g_0 ((p0 &&& (2147483647 : Int32)) % (6 : Int32)) ((p1 &&& (2147483647 : Int32)) % (6 : Int32)))), .val (.ref b293), .val (.int (1 : Int32))] [(.int (0 : Int32))])) _
                  refine XS.iload X459.here hx rfl (hb hby at_167) rfl ?_
                  show Steps p.tables e below (T459.setTop (mkF m 169 #[.val (.int p0), .val (.int p1), .val (.int p2), .val (.int p3), .val (.int ((p0 &&& (2147483647 : Int32)) % (6 : Int32))), .val (.int (j1g_0 ((p0 &&& (2147483647 : Int32)) % (6 : Int32)) ((p1 &&& (2147483647 : Int32)) % (6 : Int32)))), .val (.ref b293), .val (.int (1 : Int32))] [(.int ((p0 &&& (2147483647 : Int32)) % (6 : Int32))), (.int (0 : Int32))])) _
                  refine XS.iload X459.here hx rfl (hb hby at_169) rfl ?_
                  exact k)
                have pre461 := fun (t : State) (k : Steps p.tables e below (T459.setTop (mkF m 179 #[.val (.int p0), .val (.int p1), .val (.int p2), .val (.int p3), .val (.int ((p0 &&& (2147483647 : Int32)) % (6 : Int32))), .val (.int (j1g_0 ((p0 &&& (2147483647 : Int32)) % (6 : Int32)) ((p1 &&& (2147483647 : Int32)) % (6 : Int32)))), .val (.ref b293), .val (.int (1 : Int32))] [(.int (j0_0 p0 p1)), (.int (0 : Int32))])) t) => pre460 t (by
                  by_cases hc462 : ((p0 &&& (2147483647 : Int32)) % (6 : Int32)) = (j1g_0 ((p0 &&& (2147483647 : Int32)) % (6 : Int32)) ((p1 &&& (2147483647 : Int32)) % (6 : Int32)))
                  · skip
                    show Steps p.tables e below (T459.setTop (mkF m 171 #[.val (.int p0), .val (.int p1), .val (.int p2), .val (.int p3), .val (.int ((p0 &&& (2147483647 : Int32)) % (6 : Int32))), .val (.int (j1g_0 ((p0 &&& (2147483647 : Int32)) % (6 : Int32)) ((p1 &&& (2147483647 : Int32)) % (6 : Int32)))), .val (.ref b293), .val (.int (1 : Int32))] [(.int (j1g_0 ((p0 &&& (2147483647 : Int32)) % (6 : Int32)) ((p1 &&& (2147483647 : Int32)) % (6 : Int32)))), (.int ((p0 &&& (2147483647 : Int32)) % (6 : Int32))), (.int (0 : Int32))])) _
                    refine XS.icmpNo X459.here hx rfl (hb hby at_171) rfl (teq hc462).2 ?_
                    show Steps p.tables e below (T459.setTop (mkF m 174 #[.val (.int p0), .val (.int p1), .val (.int p2), .val (.int p3), .val (.int ((p0 &&& (2147483647 : Int32)) % (6 : Int32))), .val (.int (j1g_0 ((p0 &&& (2147483647 : Int32)) % (6 : Int32)) ((p1 &&& (2147483647 : Int32)) % (6 : Int32)))), .val (.ref b293), .val (.int (1 : Int32))] [(.int (0 : Int32))])) _
                    refine XS.iconst X459.here hx rfl (hb hby at_174) ?_
                    show Steps p.tables e below (T459.setTop (mkF m 175 #[.val (.int p0), .val (.int p1), .val (.int p2), .val (.int p3), .val (.int ((p0 &&& (2147483647 : Int32)) % (6 : Int32))), .val (.int (j1g_0 ((p0 &&& (2147483647 : Int32)) % (6 : Int32)) ((p1 &&& (2147483647 : Int32)) % (6 : Int32)))), .val (.ref b293), .val (.int (1 : Int32))] [(.int (1 : Int32)), (.int (0 : Int32))])) _
                    refine XS.goto X459.here hx rfl (pc0 := 175) (pc' := 179) rfl (hb hby at_175) (by decide) (by decide) ?_
                    have hj463 : (j0_0 p0 p1) = (1 : Int32) := by unfold j0_0; first | (rw [if_pos hc462]) | (simp only [if_pos hc462])
                    rw [hj463] at k
                    exact k
                  · skip
                    show Steps p.tables e below (T459.setTop (mkF m 171 #[.val (.int p0), .val (.int p1), .val (.int p2), .val (.int p3), .val (.int ((p0 &&& (2147483647 : Int32)) % (6 : Int32))), .val (.int (j1g_0 ((p0 &&& (2147483647 : Int32)) % (6 : Int32)) ((p1 &&& (2147483647 : Int32)) % (6 : Int32)))), .val (.ref b293), .val (.int (1 : Int32))] [(.int (j1g_0 ((p0 &&& (2147483647 : Int32)) % (6 : Int32)) ((p1 &&& (2147483647 : Int32)) % (6 : Int32)))), (.int ((p0 &&& (2147483647 : Int32)) % (6 : Int32))), (.int (0 : Int32))])) _
                    refine XS.icmpYes X459.here hx rfl (pc0 := 171) (pc' := 178) rfl (hb hby at_171) rfl (feq hc462).2 (by decide) (by decide) ?_
                    show Steps p.tables e below (T459.setTop (mkF m 178 #[.val (.int p0), .val (.int p1), .val (.int p2), .val (.int p3), .val (.int ((p0 &&& (2147483647 : Int32)) % (6 : Int32))), .val (.int (j1g_0 ((p0 &&& (2147483647 : Int32)) % (6 : Int32)) ((p1 &&& (2147483647 : Int32)) % (6 : Int32)))), .val (.ref b293), .val (.int (1 : Int32))] [(.int (0 : Int32))])) _
                    refine XS.iconst X459.here hx rfl (hb hby at_178) ?_
                    have hj464 : (j0_0 p0 p1) = (0 : Int32) := by unfold j0_0; first | (rw [if_neg hc462]) | (simp only [if_neg hc462])
                    rw [hj464] at k
                    exact k)
                have pre465 := fun (t : State) (k : Steps p.tables e below (T459.setTop (mkF m 187 #[.val (.int p0), .val (.int p1), .val (.int p2), .val (.int p3), .val (.int ((p0 &&& (2147483647 : Int32)) % (6 : Int32))), .val (.int (j1g_0 ((p0 &&& (2147483647 : Int32)) % (6 : Int32)) ((p1 &&& (2147483647 : Int32)) % (6 : Int32)))), .val (.ref b293), .val (.int (1 : Int32))] [(.int (j0_2 p0 p1))])) t) => pre461 t (by
                  by_cases hc466 : (0 : Int32) = (j0_0 p0 p1)
                  · skip
                    show Steps p.tables e below (T459.setTop (mkF m 179 #[.val (.int p0), .val (.int p1), .val (.int p2), .val (.int p3), .val (.int ((p0 &&& (2147483647 : Int32)) % (6 : Int32))), .val (.int (j1g_0 ((p0 &&& (2147483647 : Int32)) % (6 : Int32)) ((p1 &&& (2147483647 : Int32)) % (6 : Int32)))), .val (.ref b293), .val (.int (1 : Int32))] [(.int (j0_0 p0 p1)), (.int (0 : Int32))])) _
                    refine XS.icmpNo X459.here hx rfl (hb hby at_179) rfl (teq hc466).2 ?_
                    show Steps p.tables e below (T459.setTop (mkF m 182 #[.val (.int p0), .val (.int p1), .val (.int p2), .val (.int p3), .val (.int ((p0 &&& (2147483647 : Int32)) % (6 : Int32))), .val (.int (j1g_0 ((p0 &&& (2147483647 : Int32)) % (6 : Int32)) ((p1 &&& (2147483647 : Int32)) % (6 : Int32)))), .val (.ref b293), .val (.int (1 : Int32))] [])) _
                    refine XS.iconst X459.here hx rfl (hb hby at_182) ?_
                    show Steps p.tables e below (T459.setTop (mkF m 183 #[.val (.int p0), .val (.int p1), .val (.int p2), .val (.int p3), .val (.int ((p0 &&& (2147483647 : Int32)) % (6 : Int32))), .val (.int (j1g_0 ((p0 &&& (2147483647 : Int32)) % (6 : Int32)) ((p1 &&& (2147483647 : Int32)) % (6 : Int32)))), .val (.ref b293), .val (.int (1 : Int32))] [(.int (1 : Int32))])) _
                    refine XS.goto X459.here hx rfl (pc0 := 183) (pc' := 187) rfl (hb hby at_183) (by decide) (by decide) ?_
                    have hj467 : (j0_2 p0 p1) = (1 : Int32) := by unfold j0_2; first | (rw [if_pos hc466]) | (simp only [if_pos hc466])
                    rw [hj467] at k
                    exact k
                  · skip
                    show Steps p.tables e below (T459.setTop (mkF m 179 #[.val (.int p0), .val (.int p1), .val (.int p2), .val (.int p3), .val (.int ((p0 &&& (2147483647 : Int32)) % (6 : Int32))), .val (.int (j1g_0 ((p0 &&& (2147483647 : Int32)) % (6 : Int32)) ((p1 &&& (2147483647 : Int32)) % (6 : Int32)))), .val (.ref b293), .val (.int (1 : Int32))] [(.int (j0_0 p0 p1)), (.int (0 : Int32))])) _
                    refine XS.icmpYes X459.here hx rfl (pc0 := 179) (pc' := 186) rfl (hb hby at_179) rfl (feq hc466).2 (by decide) (by decide) ?_
                    show Steps p.tables e below (T459.setTop (mkF m 186 #[.val (.int p0), .val (.int p1), .val (.int p2), .val (.int p3), .val (.int ((p0 &&& (2147483647 : Int32)) % (6 : Int32))), .val (.int (j1g_0 ((p0 &&& (2147483647 : Int32)) % (6 : Int32)) ((p1 &&& (2147483647 : Int32)) % (6 : Int32)))), .val (.ref b293), .val (.int (1 : Int32))] [])) _
                    refine XS.iconst X459.here hx rfl (hb hby at_186) ?_
                    have hj468 : (j0_2 p0 p1) = (0 : Int32) := by unfold j0_2; first | (rw [if_neg hc466]) | (simp only [if_neg hc466])
                    rw [hj468] at k
                    exact k)
                obtain ⟨fs, hr, hrun, hended, hW, hsame⟩ := X459.leave (v := some (.int (nar .boolean (j0_2 p0 p1)))) (fun h => by rw [Bd.returns] at h; cases h)
                refine ⟨_, _, pre465 _ ?_, hrun, hended, _, _, rfl, ?_, ⟨_, rfl⟩, hW, hsame.mono (by decide) (by decide)⟩
                · skip
                  show Steps p.tables e below (T459.setTop (mkF m 187 #[.val (.int p0), .val (.int p1), .val (.int p2), .val (.int p3), .val (.int ((p0 &&& (2147483647 : Int32)) % (6 : Int32))), .val (.int (j1g_0 ((p0 &&& (2147483647 : Int32)) % (6 : Int32)) ((p1 &&& (2147483647 : Int32)) % (6 : Int32)))), .val (.ref b293), .val (.int (1 : Int32))] [(.int (j0_2 p0 p1))])) _
                  exact retN X459 hx (t := .boolean) Bd.returns (by simp) (hb hby at_187) hr
                · show Q0 Z p0 p1 p2 p3 h0 n0 _ T459.heap _
                  rw [e459]
                  have hv : (nar .boolean (j0_2 p0 p1)) = (v0 p0 p1) := by unfold v0; first | (rw [if_pos hc307, if_pos hc318, if_pos hc329, if_pos hc340, if_pos hc351, if_pos hc364, if_neg hc375]) | (simp only [if_pos hc307, if_pos hc318, if_pos hc329, if_pos hc340, if_pos hc351, if_pos hc364, if_neg hc375])
                  exact ⟨(by rw [← hv]), N459⟩
            · skip
              obtain ⟨cq469, kq469, q469a, q469b, q469c⟩ := isOf hZ e353 f354
              obtain ⟨_, _, ⟨T469, L469, k469, n469⟩, -, X469, ⟨Lc469, hQ469, l469, y469, z469⟩, st469⟩ := X353.virtualBack hx (y := (⟨"com/example/subsumer/subsumer/classification/IntList", "isEmpty", "()Z"⟩ : MethodName)) (z := (⟨"com/example/subsumer/subsumer/classification/IntList", "isEmpty", "()Z"⟩ : MethodName)) hown (mvT hZ (hw _ (List.mem_of_getElem? (i := 17) rfl))) (mvT hZ (hw _ (List.mem_of_getElem? (i := 18) rfl))) (notFace_of_selects (args := #[]) (mvT hZ (hw _ (List.mem_of_getElem? (i := 20) rfl)))) (mvT hZ (hw _ (List.mem_of_getElem? (i := 20) rfl))) (mvT hZ (hw _ (List.mem_of_getElem? (i := 19) rfl))) (by decide) (backOf (W := 0) (rm4_5 l Z aw hw [] b293 h353 n0 Z353 f354 f355) hZ (hw _ (List.mem_of_getElem? (i := 21) rfl)) (hw _ (List.mem_of_getElem? (i := 7) rfl)) (by decide) (by decide)) q469a q469c (g := (mkF m 164 #[.val (.int p0), .val (.int p1), .val (.int p2), .val (.int p3), .val (.int ((p0 &&& (2147483647 : Int32)) % (6 : Int32))), .val (.int (j1g_0 ((p0 &&& (2147483647 : Int32)) % (6 : Int32)) ((p1 &&& (2147483647 : Int32)) % (6 : Int32)))), .val (.ref b293), .val (.int (1 : Int32))] [(.ref b293)])) rfl (by rw [hml]; rfl) (Steps.refl _) (argsL := []) (rest := []) (lenOf pd_5 rfl) rfl (by show 2 * 0 + _ ≤ _; exact Nat.le_of_eq rfl) (hb hby at_164) (fun _ _ => ⟨rfl, e353, (by decide : 3 + 0 ≤ _), (by decide : 14 + 0 ≤ _)⟩)
              dsimp only [Pt.U, Pt.locs, Pt.cells, Pt.slots] at X469 l469 y469 z469 st469 hQ469
              subst l469 y469 z469
              obtain ⟨rfl, N469q, e469⟩ := hQ469
              have N469 := Fr.app N353 N469q
              have pre470 := fun (t : State) (k : Steps p.tables e below (T469.setTop (mkF m 171 #[.val (.int p0), .val (.int p1), .val (.int p2), .val (.int p3), .val (.int ((p0 &&& (2147483647 : Int32)) % (6 : Int32))), .val (.int (j1g_0 ((p0 &&& (2147483647 : Int32)) % (6 : Int32)) ((p1 &&& (2147483647 : Int32)) % (6 : Int32)))), .val (.ref b293), .val (.int (1 : Int32))] [(.int (j1g_0 ((p0 &&& (2147483647 : Int32)) % (6 : Int32)) ((p1 &&& (2147483647 : Int32)) % (6 : Int32)))), (.int ((p0 &&& (2147483647 : Int32)) % (6 : Int32))), (.int (0 : Int32))])) t) => pre365 t (by
                show Steps p.tables e below (T353.setTop (mkF m 100 #[.val (.int p0), .val (.int p1), .val (.int p2), .val (.int p3), .val (.int ((p0 &&& (2147483647 : Int32)) % (6 : Int32))), .val (.int (j1g_0 ((p0 &&& (2147483647 : Int32)) % (6 : Int32)) ((p1 &&& (2147483647 : Int32)) % (6 : Int32)))), .val (.ref b293), .val (.int (1 : Int32))] [(.int (j1g_0 ((p0 &&& (2147483647 : Int32)) % (6 : Int32)) ((p1 &&& (2147483647 : Int32)) % (6 : Int32))))])) _
                refine XS.ifYes X353.here hx rfl (pc0 := 100) (pc' := 109) rfl (hb hby at_100) rfl ((if0 _ _).trans (flt hc364).2.2.2) (by decide) (by decide) ?_
                show Steps p.tables e below (T353.setTop (mkF m 109 #[.val (.int p0), .val (.int p1), .val (.int p2), .val (.int p3), .val (.int ((p0 &&& (2147483647 : Int32)) % (6 : Int32))), .val (.int (j1g_0 ((p0 &&& (2147483647 : Int32)) % (6 : Int32)) ((p1 &&& (2147483647 : Int32)) % (6 : Int32)))), .val (.ref b293), .val (.int (1 : Int32))] [])) _
                refine XS.iload X353.here hx rfl (hb hby at_109) rfl ?_
                show Steps p.tables e below (T353.setTop (mkF m 111 #[.val (.int p0), .val (.int p1), .val (.int p2), .val (.int p3), .val (.int ((p0 &&& (2147483647 : Int32)) % (6 : Int32))), .val (.int (j1g_0 ((p0 &&& (2147483647 : Int32)) % (6 : Int32)) ((p1 &&& (2147483647 : Int32)) % (6 : Int32)))), .val (.ref b293), .val (.int (1 : Int32))] [(.int (j1g_0 ((p0 &&& (2147483647 : Int32)) % (6 : Int32)) ((p1 &&& (2147483647 : Int32)) % (6 : Int32))))])) _
                refine XS.iconst X353.here hx rfl (hb hby at_111) ?_
                show Steps p.tables e below (T353.setTop (mkF m 112 #[.val (.int p0), .val (.int p1), .val (.int p2), .val (.int p3), .val (.int ((p0 &&& (2147483647 : Int32)) % (6 : Int32))), .val (.int (j1g_0 ((p0 &&& (2147483647 : Int32)) % (6 : Int32)) ((p1 &&& (2147483647 : Int32)) % (6 : Int32)))), .val (.ref b293), .val (.int (1 : Int32))] [(.int (1 : Int32)), (.int (j1g_0 ((p0 &&& (2147483647 : Int32)) % (6 : Int32)) ((p1 &&& (2147483647 : Int32)) % (6 : Int32))))])) _
                refine XS.icmpYes X353.here hx rfl (pc0 := 112) (pc' := 121) rfl (hb hby at_112) rfl (flt (own_up hc364 (by decide))).2.2.2 (by decide) (by decide) ?_
                show Steps p.tables e below (T353.setTop (mkF m 121 #[.val (.int p0), .val (.int p1), .val (.int p2), .val (.int p3), .val (.int ((p0 &&& (2147483647 : Int32)) % (6 : Int32))), .val (.int (j1g_0 ((p0 &&& (2147483647 : Int32)) % (6 : Int32)) ((p1 &&& (2147483647 : Int32)) % (6 : Int32)))), .val (.ref b293), .val (.int (1 : Int32))] [])) _
                refine XS.iload X353.here hx rfl (hb hby at_121) rfl ?_
                show Steps p.tables e below (T353.setTop (mkF m 123 #[.val (.int p0), .val (.int p1), .val (.int p2), .val (.int p3), .val (.int ((p0 &&& (2147483647 : Int32)) % (6 : Int32))), .val (.int (j1g_0 ((p0 &&& (2147483647 : Int32)) % (6 : Int32)) ((p1 &&& (2147483647 : Int32)) % (6 : Int32)))), .val (.ref b293), .val (.int (1 : Int32))] [(.int (j1g_0 ((p0 &&& (2147483647 : Int32)) % (6 : Int32)) ((p1 &&& (2147483647 : Int32)) % (6 : Int32))))])) _
                refine XS.iconst X353.here hx rfl (hb hby at_123) ?_
                show Steps p.tables e below (T353.setTop (mkF m 124 #[.val (.int p0), .val (.int p1), .val (.int p2), .val (.int p3), .val (.int ((p0 &&& (2147483647 : Int32)) % (6 : Int32))), .val (.int (j1g_0 ((p0 &&& (2147483647 : Int32)) % (6 : Int32)) ((p1 &&& (2147483647 : Int32)) % (6 : Int32)))), .val (.ref b293), .val (.int (1 : Int32))] [(.int (2 : Int32)), (.int (j1g_0 ((p0 &&& (2147483647 : Int32)) % (6 : Int32)) ((p1 &&& (2147483647 : Int32)) % (6 : Int32))))])) _
                refine XS.icmpYes X353.here hx rfl (pc0 := 124) (pc' := 133) rfl (hb hby at_124) rfl (flt (own_up hc364 (by decide))).2.2.2 (by decide) (by decide) ?_
                show Steps p.tables e below (T353.setTop (mkF m 133 #[.val (.int p0), .val (.int p1), .val (.int p2), .val (.int p3), .val (.int ((p0 &&& (2147483647 : Int32)) % (6 : Int32))), .val (.int (j1g_0 ((p0 &&& (2147483647 : Int32)) % (6 : Int32)) ((p1 &&& (2147483647 : Int32)) % (6 : Int32)))), .val (.ref b293), .val (.int (1 : Int32))] [])) _
                refine XS.iload X353.here hx rfl (hb hby at_133) rfl ?_
                show Steps p.tables e below (T353.setTop (mkF m 135 #[.val (.int p0), .val (.int p1), .val (.int p2), .val (.int p3), .val (.int ((p0 &&& (2147483647 : Int32)) % (6 : Int32))), .val (.int (j1g_0 ((p0 &&& (2147483647 : Int32)) % (6 : Int32)) ((p1 &&& (2147483647 : Int32)) % (6 : Int32)))), .val (.ref b293), .val (.int (1 : Int32))] [(.int (j1g_0 ((p0 &&& (2147483647 : Int32)) % (6 : Int32)) ((p1 &&& (2147483647 : Int32)) % (6 : Int32))))])) _
                refine XS.iconst X353.here hx rfl (hb hby at_135) ?_
                show Steps p.tables e below (T353.setTop (mkF m 136 #[.val (.int p0), .val (.int p1), .val (.int p2), .val (.int p3), .val (.int ((p0 &&& (2147483647 : Int32)) % (6 : Int32))), .val (.int (j1g_0 ((p0 &&& (2147483647 : Int32)) % (6 : Int32)) ((p1 &&& (2147483647 : Int32)) % (6 : Int32)))), .val (.ref b293), .val (.int (1 : Int32))] [(.int (3 : Int32)), (.int (j1g_0 ((p0 &&& (2147483647 : Int32)) % (6 : Int32)) ((p1 &&& (2147483647 : Int32)) % (6 : Int32))))])) _
                refine XS.icmpYes X353.here hx rfl (pc0 := 136) (pc' := 145) rfl (hb hby at_136) rfl (flt (own_up hc364 (by decide))).2.2.2 (by decide) (by decide) ?_
                show Steps p.tables e below (T353.setTop (mkF m 145 #[.val (.int p0), .val (.int p1), .val (.int p2), .val (.int p3), .val (.int ((p0 &&& (2147483647 : Int32)) % (6 : Int32))), .val (.int (j1g_0 ((p0 &&& (2147483647 : Int32)) % (6 : Int32)) ((p1 &&& (2147483647 : Int32)) % (6 : Int32)))), .val (.ref b293), .val (.int (1 : Int32))] [])) _
                refine XS.iload X353.here hx rfl (hb hby at_145) rfl ?_
                show Steps p.tables e below (T353.setTop (mkF m 147 #[.val (.int p0), .val (.int p1), .val (.int p2), .val (.int p3), .val (.int ((p0 &&& (2147483647 : Int32)) % (6 : Int32))), .val (.int (j1g_0 ((p0 &&& (2147483647 : Int32)) % (6 : Int32)) ((p1 &&& (2147483647 : Int32)) % (6 : Int32)))), .val (.ref b293), .val (.int (1 : Int32))] [(.int (j1g_0 ((p0 &&& (2147483647 : Int32)) % (6 : Int32)) ((p1 &&& (2147483647 : Int32)) % (6 : Int32))))])) _
                refine XS.iconst X353.here hx rfl (hb hby at_147) ?_
                show Steps p.tables e below (T353.setTop (mkF m 148 #[.val (.int p0), .val (.int p1), .val (.int p2), .val (.int p3), .val (.int ((p0 &&& (2147483647 : Int32)) % (6 : Int32))), .val (.int (j1g_0 ((p0 &&& (2147483647 : Int32)) % (6 : Int32)) ((p1 &&& (2147483647 : Int32)) % (6 : Int32)))), .val (.ref b293), .val (.int (1 : Int32))] [(.int (4 : Int32)), (.int (j1g_0 ((p0 &&& (2147483647 : Int32)) % (6 : Int32)) ((p1 &&& (2147483647 : Int32)) % (6 : Int32))))])) _
                refine XS.icmpYes X353.here hx rfl (pc0 := 148) (pc' := 157) rfl (hb hby at_148) rfl (flt (own_up hc364 (by decide))).2.2.2 (by decide) (by decide) ?_
                show Steps p.tables e below (T353.setTop (mkF m 157 #[.val (.int p0), .val (.int p1), .val (.int p2), .val (.int p3), .val (.int ((p0 &&& (2147483647 : Int32)) % (6 : Int32))), .val (.int (j1g_0 ((p0 &&& (2147483647 : Int32)) % (6 : Int32)) ((p1 &&& (2147483647 : Int32)) % (6 : Int32)))), .val (.ref b293), .val (.int (1 : Int32))] [])) _
                refine XS.iload X353.here hx rfl (hb hby at_157) rfl ?_
                show Steps p.tables e below (T353.setTop (mkF m 159 #[.val (.int p0), .val (.int p1), .val (.int p2), .val (.int p3), .val (.int ((p0 &&& (2147483647 : Int32)) % (6 : Int32))), .val (.int (j1g_0 ((p0 &&& (2147483647 : Int32)) % (6 : Int32)) ((p1 &&& (2147483647 : Int32)) % (6 : Int32)))), .val (.ref b293), .val (.int (1 : Int32))] [(.int (1 : Int32))])) _
                refine XS.ifNo X353.here hx rfl (hb hby at_159) rfl ((if0 _ _).trans (feq (by decide : ¬ ((1 : Int32) = (0 : Int32)))).1) ?_
                show Steps p.tables e below (T353.setTop (mkF m 162 #[.val (.int p0), .val (.int p1), .val (.int p2), .val (.int p3), .val (.int ((p0 &&& (2147483647 : Int32)) % (6 : Int32))), .val (.int (j1g_0 ((p0 &&& (2147483647 : Int32)) % (6 : Int32)) ((p1 &&& (2147483647 : Int32)) % (6 : Int32)))), .val (.ref b293), .val (.int (1 : Int32))] [])) _
                refine XS.aload X353.here hx rfl (hb hby at_162) rfl rfl ?_
                show Steps p.tables e below (T353.setTop (mkF m 164 #[.val (.int p0), .val (.int p1), .val (.int p2), .val (.int p3), .val (.int ((p0 &&& (2147483647 : Int32)) % (6 : Int32))), .val (.int (j1g_0 ((p0 &&& (2147483647 : Int32)) % (6 : Int32)) ((p1 &&& (2147483647 : Int32)) % (6 : Int32)))), .val (.ref b293), .val (.int (1 : Int32))] [(.ref b293)])) _
                refine st469.trans ?_
                show Steps p.tables e below (T469.setTop (mkF m 167 #[.val (.int p0), .val (.int p1), .val (.int p2), .val (.int p3), .val (.int ((p0 &&& (2147483647 : Int32)) % (6 : Int32))), .val (.int (j1g_0 ((p0 &&& (2147483647 : Int32)) % (6 : Int32)) ((p1 &&& (2147483647 : Int32)) % (6 : Int32)))), .val (.ref b293), .val (.int (1 : Int32))] [(.int (0 : Int32))])) _
                refine XS.iload X469.here hx rfl (hb hby at_167) rfl ?_
                show Steps p.tables e below (T469.setTop (mkF m 169 #[.val (.int p0), .val (.int p1), .val (.int p2), .val (.int p3), .val (.int ((p0 &&& (2147483647 : Int32)) % (6 : Int32))), .val (.int (j1g_0 ((p0 &&& (2147483647 : Int32)) % (6 : Int32)) ((p1 &&& (2147483647 : Int32)) % (6 : Int32)))), .val (.ref b293), .val (.int (1 : Int32))] [(.int ((p0 &&& (2147483647 : Int32)) % (6 : Int32))), (.int (0 : Int32))])) _
                refine XS.iload X469.here hx rfl (hb hby at_169) rfl ?_
                exact k)
              have pre471 := fun (t : State) (k : Steps p.tables e below (T469.setTop (mkF m 179 #[.val (.int p0), .val (.int p1), .val (.int p2), .val (.int p3), .val (.int ((p0 &&& (2147483647 : Int32)) % (6 : Int32))), .val (.int (j1g_0 ((p0 &&& (2147483647 : Int32)) % (6 : Int32)) ((p1 &&& (2147483647 : Int32)) % (6 : Int32)))), .val (.ref b293), .val (.int (1 : Int32))] [(.int (j0_0 p0 p1)), (.int (0 : Int32))])) t) => pre470 t (by
                by_cases hc472 : ((p0 &&& (2147483647 : Int32)) % (6 : Int32)) = (j1g_0 ((p0 &&& (2147483647 : Int32)) % (6 : Int32)) ((p1 &&& (2147483647 : Int32)) % (6 : Int32)))
                · skip
                  show Steps p.tables e below (T469.setTop (mkF m 171 #[.val (.int p0), .val (.int p1), .val (.int p2), .val (.int p3), .val (.int ((p0 &&& (2147483647 : Int32)) % (6 : Int32))), .val (.int (j1g_0 ((p0 &&& (2147483647 : Int32)) % (6 : Int32)) ((p1 &&& (2147483647 : Int32)) % (6 : Int32)))), .val (.ref b293), .val (.int (1 : Int32))] [(.int (j1g_0 ((p0 &&& (2147483647 : Int32)) % (6 : Int32)) ((p1 &&& (2147483647 : Int32)) % (6 : Int32)))), (.int ((p0 &&& (2147483647 : Int32)) % (6 : Int32))), (.int (0 : Int32))])) _
                  refine XS.icmpNo X469.here hx rfl (hb hby at_171) rfl (teq hc472).2 ?_
                  show Steps p.tables e below (T469.setTop (mkF m 174 #[.val (.int p0), .val (.int p1), .val (.int p2), .val (.int p3), .val (.int ((p0 &&& (2147483647 : Int32)) % (6 : Int32))), .val (.int (j1g_0 ((p0 &&& (2147483647 : Int32)) % (6 : Int32)) ((p1 &&& (2147483647 : Int32)) % (6 : Int32)))), .val (.ref b293), .val (.int (1 : Int32))] [(.int (0 : Int32))])) _
                  refine XS.iconst X469.here hx rfl (hb hby at_174) ?_
                  show Steps p.tables e below (T469.setTop (mkF m 175 #[.val (.int p0), .val (.int p1), .val (.int p2), .val (.int p3), .val (.int ((p0 &&& (2147483647 : Int32)) % (6 : Int32))), .val (.int (j1g_0 ((p0 &&& (2147483647 : Int32)) % (6 : Int32)) ((p1 &&& (2147483647 : Int32)) % (6 : Int32)))), .val (.ref b293), .val (.int (1 : Int32))] [(.int (1 : Int32)), (.int (0 : Int32))])) _
                  refine XS.goto X469.here hx rfl (pc0 := 175) (pc' := 179) rfl (hb hby at_175) (by decide) (by decide) ?_
                  have hj473 : (j0_0 p0 p1) = (1 : Int32) := by unfold j0_0; first | (rw [if_pos hc472]) | (simp only [if_pos hc472])
                  rw [hj473] at k
                  exact k
                · skip
                  show Steps p.tables e below (T469.setTop (mkF m 171 #[.val (.int p0), .val (.int p1), .val (.int p2), .val (.int p3), .val (.int ((p0 &&& (2147483647 : Int32)) % (6 : Int32))), .val (.int (j1g_0 ((p0 &&& (2147483647 : Int32)) % (6 : Int32)) ((p1 &&& (2147483647 : Int32)) % (6 : Int32)))), .val (.ref b293), .val (.int (1 : Int32))] [(.int (j1g_0 ((p0 &&& (2147483647 : Int32)) % (6 : Int32)) ((p1 &&& (2147483647 : Int32)) % (6 : Int32)))), (.int ((p0 &&& (2147483647 : Int32)) % (6 : Int32))), (.int (0 : Int32))])) _
                  refine XS.icmpYes X469.here hx rfl (pc0 := 171) (pc' := 178) rfl (hb hby at_171) rfl (feq hc472).2 (by decide) (by decide) ?_
                  show Steps p.tables e below (T469.setTop (mkF m 178 #[.val (.int p0), .val (.int p1), .val (.int p2), .val (.int p3), .val (.int ((p0 &&& (2147483647 : Int32)) % (6 : Int32))), .val (.int (j1g_0 ((p0 &&& (2147483647 : Int32)) % (6 : Int32)) ((p1 &&& (2147483647 : Int32)) % (6 : Int32)))), .val (.ref b293), .val (.int (1 : Int32))] [(.int (0 : Int32))])) _
                  refine XS.iconst X469.here hx rfl (hb hby at_178) ?_
                  have hj474 : (j0_0 p0 p1) = (0 : Int32) := by unfold j0_0; first | (rw [if_neg hc472]) | (simp only [if_neg hc472])
                  rw [hj474] at k
                  exact k)
              have pre475 := fun (t : State) (k : Steps p.tables e below (T469.setTop (mkF m 187 #[.val (.int p0), .val (.int p1), .val (.int p2), .val (.int p3), .val (.int ((p0 &&& (2147483647 : Int32)) % (6 : Int32))), .val (.int (j1g_0 ((p0 &&& (2147483647 : Int32)) % (6 : Int32)) ((p1 &&& (2147483647 : Int32)) % (6 : Int32)))), .val (.ref b293), .val (.int (1 : Int32))] [(.int (j0_2 p0 p1))])) t) => pre471 t (by
                by_cases hc476 : (0 : Int32) = (j0_0 p0 p1)
                · skip
                  show Steps p.tables e below (T469.setTop (mkF m 179 #[.val (.int p0), .val (.int p1), .val (.int p2), .val (.int p3), .val (.int ((p0 &&& (2147483647 : Int32)) % (6 : Int32))), .val (.int (j1g_0 ((p0 &&& (2147483647 : Int32)) % (6 : Int32)) ((p1 &&& (2147483647 : Int32)) % (6 : Int32)))), .val (.ref b293), .val (.int (1 : Int32))] [(.int (j0_0 p0 p1)), (.int (0 : Int32))])) _
                  refine XS.icmpNo X469.here hx rfl (hb hby at_179) rfl (teq hc476).2 ?_
                  show Steps p.tables e below (T469.setTop (mkF m 182 #[.val (.int p0), .val (.int p1), .val (.int p2), .val (.int p3), .val (.int ((p0 &&& (2147483647 : Int32)) % (6 : Int32))), .val (.int (j1g_0 ((p0 &&& (2147483647 : Int32)) % (6 : Int32)) ((p1 &&& (2147483647 : Int32)) % (6 : Int32)))), .val (.ref b293), .val (.int (1 : Int32))] [])) _
                  refine XS.iconst X469.here hx rfl (hb hby at_182) ?_
                  show Steps p.tables e below (T469.setTop (mkF m 183 #[.val (.int p0), .val (.int p1), .val (.int p2), .val (.int p3), .val (.int ((p0 &&& (2147483647 : Int32)) % (6 : Int32))), .val (.int (j1g_0 ((p0 &&& (2147483647 : Int32)) % (6 : Int32)) ((p1 &&& (2147483647 : Int32)) % (6 : Int32)))), .val (.ref b293), .val (.int (1 : Int32))] [(.int (1 : Int32))])) _
                  refine XS.goto X469.here hx rfl (pc0 := 183) (pc' := 187) rfl (hb hby at_183) (by decide) (by decide) ?_
                  have hj477 : (j0_2 p0 p1) = (1 : Int32) := by unfold j0_2; first | (rw [if_pos hc476]) | (simp only [if_pos hc476])
                  rw [hj477] at k
                  exact k
                · skip
                  show Steps p.tables e below (T469.setTop (mkF m 179 #[.val (.int p0), .val (.int p1), .val (.int p2), .val (.int p3), .val (.int ((p0 &&& (2147483647 : Int32)) % (6 : Int32))), .val (.int (j1g_0 ((p0 &&& (2147483647 : Int32)) % (6 : Int32)) ((p1 &&& (2147483647 : Int32)) % (6 : Int32)))), .val (.ref b293), .val (.int (1 : Int32))] [(.int (j0_0 p0 p1)), (.int (0 : Int32))])) _
                  refine XS.icmpYes X469.here hx rfl (pc0 := 179) (pc' := 186) rfl (hb hby at_179) rfl (feq hc476).2 (by decide) (by decide) ?_
                  show Steps p.tables e below (T469.setTop (mkF m 186 #[.val (.int p0), .val (.int p1), .val (.int p2), .val (.int p3), .val (.int ((p0 &&& (2147483647 : Int32)) % (6 : Int32))), .val (.int (j1g_0 ((p0 &&& (2147483647 : Int32)) % (6 : Int32)) ((p1 &&& (2147483647 : Int32)) % (6 : Int32)))), .val (.ref b293), .val (.int (1 : Int32))] [])) _
                  refine XS.iconst X469.here hx rfl (hb hby at_186) ?_
                  have hj478 : (j0_2 p0 p1) = (0 : Int32) := by unfold j0_2; first | (rw [if_neg hc476]) | (simp only [if_neg hc476])
                  rw [hj478] at k
                  exact k)
              obtain ⟨fs, hr, hrun, hended, hW, hsame⟩ := X469.leave (v := some (.int (nar .boolean (j0_2 p0 p1)))) (fun h => by rw [Bd.returns] at h; cases h)
              refine ⟨_, _, pre475 _ ?_, hrun, hended, _, _, rfl, ?_, ⟨_, rfl⟩, hW, hsame.mono (by decide) (by decide)⟩
              · skip
                show Steps p.tables e below (T469.setTop (mkF m 187 #[.val (.int p0), .val (.int p1), .val (.int p2), .val (.int p3), .val (.int ((p0 &&& (2147483647 : Int32)) % (6 : Int32))), .val (.int (j1g_0 ((p0 &&& (2147483647 : Int32)) % (6 : Int32)) ((p1 &&& (2147483647 : Int32)) % (6 : Int32)))), .val (.ref b293), .val (.int (1 : Int32))] [(.int (j0_2 p0 p1))])) _
                exact retN X469 hx (t := .boolean) Bd.returns (by simp) (hb hby at_187) hr
              · show Q0 Z p0 p1 p2 p3 h0 n0 _ T469.heap _
                rw [e469]
                have hv : (nar .boolean (j0_2 p0 p1)) = (v0 p0 p1) := by unfold v0; first | (rw [if_pos hc307, if_pos hc318, if_pos hc329, if_pos hc340, if_pos hc351, if_neg hc364]) | (simp only [if_pos hc307, if_pos hc318, if_pos hc329, if_pos hc340, if_pos hc351, if_neg hc364])
                exact ⟨(by rw [← hv]), N469⟩
          · skip
            have pre480 := fun (t : State) (k : Steps p.tables e below (T342.setTop (mkF m 100 #[.val (.int p0), .val (.int p1), .val (.int p2), .val (.int p3), .val (.int ((p0 &&& (2147483647 : Int32)) % (6 : Int32))), .val (.int (j1g_0 ((p0 &&& (2147483647 : Int32)) % (6 : Int32)) ((p1 &&& (2147483647 : Int32)) % (6 : Int32)))), .val (.ref b293), .val (.int (1 : Int32))] [(.int (j1g_0 ((p0 &&& (2147483647 : Int32)) % (6 : Int32)) ((p1 &&& (2147483647 : Int32)) % (6 : Int32))))])) t) => pre352 t (by
              show Steps p.tables e below (T342.setTop (mkF m 89 #[.val (.int p0), .val (.int p1), .val (.int p2), .val (.int p3), .val (.int ((p0 &&& (2147483647 : Int32)) % (6 : Int32))), .val (.int (j1g_0 ((p0 &&& (2147483647 : Int32)) % (6 : Int32)) ((p1 &&& (2147483647 : Int32)) % (6 : Int32)))), .val (.ref b293), .val (.int (1 : Int32))] [(.int (4 : Int32)), (.int ((p0 &&& (2147483647 : Int32)) % (6 : Int32)))])) _
              refine XS.icmpYes X342.here hx rfl (pc0 := 89) (pc' := 98) rfl (hb hby at_89) rfl (flt hc351).2.2.2 (by decide) (by decide) ?_
              show Steps p.tables e below (T342.setTop (mkF m 98 #[.val (.int p0), .val (.int p1), .val (.int p2), .val (.int p3), .val (.int ((p0 &&& (2147483647 : Int32)) % (6 : Int32))), .val (.int (j1g_0 ((p0 &&& (2147483647 : Int32)) % (6 : Int32)) ((p1 &&& (2147483647 : Int32)) % (6 : Int32)))), .val (.ref b293), .val (.int (1 : Int32))] [])) _
              refine XS.iload X342.here hx rfl (hb hby at_98) rfl ?_
              exact k)
            by_cases hc479 : (0 : Int32) < (j1g_0 ((p0 &&& (2147483647 : Int32)) % (6 : Int32)) ((p1 &&& (2147483647 : Int32)) % (6 : Int32)))
            · skip
              obtain ⟨cq481, kq481, q481a, q481b, q481c⟩ := isOf hZ e342 f343
              obtain ⟨_, _, ⟨T481, L481, k481, n481⟩, -, X481, ⟨Lc481, hQ481, l481, y481, z481⟩, st481⟩ := X342.virtualBack hx (y := (⟨"com/example/subsumer/subsumer/classification/IntList", "pop", "()I"⟩ : MethodName)) (z := (⟨"com/example/subsumer/subsumer/classification/IntList", "pop", "()I"⟩ : MethodName)) hown (mvT hZ (hw _ (List.mem_of_getElem? (i := 29) rfl))) (mvT hZ (hw _ (List.mem_of_getElem? (i := 30) rfl))) (notFace_of_selects (args := #[]) (mvT hZ (hw _ (List.mem_of_getElem? (i := 32) rfl)))) (mvT hZ (hw _ (List.mem_of_getElem? (i := 32) rfl))) (mvT hZ (hw _ (List.mem_of_getElem? (i := 31) rfl))) (by decide) (backOf (W := 0) (rm6_4_4 l Z aw hw [] b293 cx0297 p2 p3 p2 p3 cy0297 h342 n0 Z342 f343 f345 f344 f346 g_b293 ne305) hZ (hw _ (List.mem_of_getElem? (i := 33) rfl)) (hw _ (List.mem_of_getElem? (i := 7) rfl)) (by decide) (by decide)) q481a q481c (g := (mkF m 105 #[.val (.int p0), .val (.int p1), .val (.int p2), .val (.int p3), .val (.int ((p0 &&& (2147483647 : Int32)) % (6 : Int32))), .val (.int (j1g_0 ((p0 &&& (2147483647 : Int32)) % (6 : Int32)) ((p1 &&& (2147483647 : Int32)) % (6 : Int32)))), .val (.ref b293), .val (.int (1 : Int32))] [(.ref b293)])) rfl (by rw [hml]; rfl) (Steps.refl _) (argsL := []) (rest := []) (lenOf pd_7 rfl) rfl (by show 2 * 0 + _ ≤ _; exact Nat.le_of_eq rfl) (hb hby at_105) (fun _ _ => ⟨rfl, e342, (by decide : 2 + 0 ≤ _), (by decide : 6 + 0 ≤ _)⟩)
              dsimp only [Pt.U, Pt.locs, Pt.cells, Pt.slots] at X481 l481 y481 z481 st481 hQ481
              subst l481 y481 z481
              obtain ⟨h481, e481⟩ : ∃ z, T481.heap = z := ⟨_, rfl⟩
              rw [e481] at hQ481
              obtain ⟨rfl, N481q, K481q, f482, f483, f484⟩ := hQ481
              have f485 := f343.keep K481q
              have f488 := f346.keep K481q (ninS (Ne.symm ne305) nin0)
              have Z481 := Nat.le_trans Z342 K481q.1
              have N481 := Fr.app N342 N481q
              have pre490 := fun (t : State) (k : Steps p.tables e below (T481.setTop (mkF m 112 #[.val (.int p0), .val (.int p1), .val (.int p2), .val (.int p3), .val (.int ((p0 &&& (2147483647 : Int32)) % (6 : Int32))), .val (.int (j1g_0 ((p0 &&& (2147483647 : Int32)) % (6 : Int32)) ((p1 &&& (2147483647 : Int32)) % (6 : Int32)))), .val (.ref b293), .val (.int (1 : Int32))] [(.int (1 : Int32)), (.int (j1g_0 ((p0 &&& (2147483647 : Int32)) % (6 : Int32)) ((p1 &&& (2147483647 : Int32)) % (6 : Int32))))])) t) => pre480 t (by
                show Steps p.tables e below (T342.setTop (mkF m 100 #[.val (.int p0), .val (.int p1), .val (.int p2), .val (.int p3), .val (.int ((p0 &&& (2147483647 : Int32)) % (6 : Int32))), .val (.int (j1g_0 ((p0 &&& (2147483647 : Int32)) % (6 : Int32)) ((p1 &&& (2147483647 : Int32)) % (6 : Int32)))), .val (.ref b293), .val (.int (1 : Int32))] [(.int (j1g_0 ((p0 &&& (2147483647 : Int32)) % (6 : Int32)) ((p1 &&& (2147483647 : Int32)) % (6 : Int32))))])) _
                refine XS.ifNo X342.here hx rfl (hb hby at_100) rfl ((if0 _ _).trans (tlt hc479).2.2.2) ?_
                show Steps p.tables e below (T342.setTop (mkF m 103 #[.val (.int p0), .val (.int p1), .val (.int p2), .val (.int p3), .val (.int ((p0 &&& (2147483647 : Int32)) % (6 : Int32))), .val (.int (j1g_0 ((p0 &&& (2147483647 : Int32)) % (6 : Int32)) ((p1 &&& (2147483647 : Int32)) % (6 : Int32)))), .val (.ref b293), .val (.int (1 : Int32))] [])) _
                refine XS.aload X342.here hx rfl (hb hby at_103) rfl rfl ?_
                show Steps p.tables e below (T342.setTop (mkF m 105 #[.val (.int p0), .val (.int p1), .val (.int p2), .val (.int p3), .val (.int ((p0 &&& (2147483647 : Int32)) % (6 : Int32))), .val (.int (j1g_0 ((p0 &&& (2147483647 : Int32)) % (6 : Int32)) ((p1 &&& (2147483647 : Int32)) % (6 : Int32)))), .val (.ref b293), .val (.int (1 : Int32))] [(.ref b293)])) _
                refine st481.trans ?_
                show Steps p.tables e below (T481.setTop (mkF m 108 #[.val (.int p0), .val (.int p1), .val (.int p2), .val (.int p3), .val (.int ((p0 &&& (2147483647 : Int32)) % (6 : Int32))), .val (.int (j1g_0 ((p0 &&& (2147483647 : Int32)) % (6 : Int32)) ((p1 &&& (2147483647 : Int32)) % (6 : Int32)))), .val (.ref b293), .val (.int (1 : Int32))] [(.int p3)])) _
                refine XS.pop X481.here hx rfl (hb hby at_108) rfl rfl ?_
                show Steps p.tables e below (T481.setTop (mkF m 109 #[.val (.int p0), .val (.int p1), .val (.int p2), .val (.int p3), .val (.int ((p0 &&& (2147483647 : Int32)) % (6 : Int32))), .val (.int (j1g_0 ((p0 &&& (2147483647 : Int32)) % (6 : Int32)) ((p1 &&& (2147483647 : Int32)) % (6 : Int32)))), .val (.ref b293), .val (.int (1 : Int32))] [])) _
                refine XS.iload X481.here hx rfl (hb hby at_109) rfl ?_
                show Steps p.tables e below (T481.setTop (mkF m 111 #[.val (.int p0), .val (.int p1), .val (.int p2), .val (.int p3), .val (.int ((p0 &&& (2147483647 : Int32)) % (6 : Int32))), .val (.int (j1g_0 ((p0 &&& (2147483647 : Int32)) % (6 : Int32)) ((p1 &&& (2147483647 : Int32)) % (6 : Int32)))), .val (.ref b293), .val (.int (1 : Int32))] [(.int (j1g_0 ((p0 &&& (2147483647 : Int32)) % (6 : Int32)) ((p1 &&& (2147483647 : Int32)) % (6 : Int32))))])) _
                refine XS.iconst X481.here hx rfl (hb hby at_111) ?_
                exact k)
              by_cases hc489 : (1 : Int32) < (j1g_0 ((p0 &&& (2147483647 : Int32)) % (6 : Int32)) ((p1 &&& (2147483647 : Int32)) % (6 : Int32)))
              · skip
                obtain ⟨cq491, kq491, q491a, q491b, q491c⟩ := isOf hZ e481 f482
                obtain ⟨_, _, ⟨T491, L491, k491, n491⟩, -, X491, ⟨Lc491, hQ491, l491, y491, z491⟩, st491⟩ := X481.virtualBack hx (y := (⟨"com/example/subsumer/subsumer/classification/IntList", "pop", "()I"⟩ : MethodName)) (z := (⟨"com/example/subsumer/subsumer/classification/IntList", "pop", "()I"⟩ : MethodName)) hown (mvT hZ (hw _ (List.mem_of_getElem? (i := 29) rfl))) (mvT hZ (hw _ (List.mem_of_getElem? (i := 30) rfl))) (notFace_of_selects (args := #[]) (mvT hZ (hw _ (List.mem_of_getElem? (i := 32) rfl)))) (mvT hZ (hw _ (List.mem_of_getElem? (i := 32) rfl))) (mvT hZ (hw _ (List.mem_of_getElem? (i := 31) rfl))) (by decide) (backOf (W := 0) (rm6_4_3 l Z aw hw [] b293 cx0297 p2 p3 p2 p3 cy0297 h481 n0 Z481 f482 f484 f483 f488 g_b293 ne305) hZ (hw _ (List.mem_of_getElem? (i := 33) rfl)) (hw _ (List.mem_of_getElem? (i := 7) rfl)) (by decide) (by decide)) q491a q491c (g := (mkF m 117 #[.val (.int p0), .val (.int p1), .val (.int p2), .val (.int p3), .val (.int ((p0 &&& (2147483647 : Int32)) % (6 : Int32))), .val (.int (j1g_0 ((p0 &&& (2147483647 : Int32)) % (6 : Int32)) ((p1 &&& (2147483647 : Int32)) % (6 : Int32)))), .val (.ref b293), .val (.int (1 : Int32))] [(.ref b293)])) rfl (by rw [hml]; rfl) (Steps.refl _) (argsL := []) (rest := []) (lenOf pd_7 rfl) rfl (by show 2 * 0 + _ ≤ _; exact Nat.le_of_eq rfl) (hb hby at_117) (fun _ _ => ⟨rfl, e481, (by decide : 2 + 0 ≤ _), (by decide : 6 + 0 ≤ _)⟩)
                dsimp only [Pt.U, Pt.locs, Pt.cells, Pt.slots] at X491 l491 y491 z491 st491 hQ491
                subst l491 y491 z491
                obtain ⟨h491, e491⟩ : ∃ z, T491.heap = z := ⟨_, rfl⟩
                rw [e491] at hQ491
                obtain ⟨rfl, N491q, K491q, f492, f493, f494⟩ := hQ491
                have f495 := f482.keep K491q
                have f496 := f488.keep K491q (ninS (Ne.symm ne305) nin0)
                have Z491 := Nat.le_trans Z481 K491q.1
                have N491 := Fr.app N481 N491q
                have pre500 := fun (t : State) (k : Steps p.tables e below (T491.setTop (mkF m 124 #[.val (.int p0), .val (.int p1), .val (.int p2), .val (.int p3), .val (.int ((p0 &&& (2147483647 : Int32)) % (6 : Int32))), .val (.int (j1g_0 ((p0 &&& (2147483647 : Int32)) % (6 : Int32)) ((p1 &&& (2147483647 : Int32)) % (6 : Int32)))), .val (.ref b293), .val (.int (1 : Int32))] [(.int (2 : Int32)), (.int (j1g_0 ((p0 &&& (2147483647 : Int32)) % (6 : Int32)) ((p1 &&& (2147483647 : Int32)) % (6 : Int32))))])) t) => pre490 t (by
                  show Steps p.tables e below (T481.setTop (mkF m 112 #[.val (.int p0), .val (.int p1), .val (.int p2), .val (.int p3), .val (.int ((p0 &&& (2147483647 : Int32)) % (6 : Int32))), .val (.int (j1g_0 ((p0 &&& (2147483647 : Int32)) % (6 : Int32)) ((p1 &&& (2147483647 : Int32)) % (6 : Int32)))), .val (.ref b293), .val (.int (1 : Int32))] [(.int (1 : Int32)), (.int (j1g_0 ((p0 &&& (2147483647 : Int32)) % (6 : Int32)) ((p1 &&& (2147483647 : Int32)) % (6 : Int32))))])) _
                  refine XS.icmpNo X481.here hx rfl (hb hby at_112) rfl (tlt hc489).2.2.2 ?_
                  show Steps p.tables e below (T481.setTop (mkF m 115 #[.val (.int p0), .val (.int p1), .val (.int p2), .val (.int p3), .val (.int ((p0 &&& (2147483647 : Int32)) % (6 : Int32))), .val (.int (j1g_0 ((p0 &&& (2147483647 : Int32)) % (6 : Int32)) ((p1 &&& (2147483647 : Int32)) % (6 : Int32)))), .val (.ref b293), .val (.int (1 : Int32))] [])) _
                  refine XS.aload X481.here hx rfl (hb hby at_115) rfl rfl ?_
                  show Steps p.tables e below (T481.setTop (mkF m 117 #[.val (.int p0), .val (.int p1), .val (.int p2), .val (.int p3), .val (.int ((p0 &&& (2147483647 : Int32)) % (6 : Int32))), .val (.int (j1g_0 ((p0 &&& (2147483647 : Int32)) % (6 : Int32)) ((p1 &&& (2147483647 : Int32)) % (6 : Int32)))), .val (.ref b293), .val (.int (1 : Int32))] [(.ref b293)])) _
                  refine st491.trans ?_
                  show Steps p.tables e below (T491.setTop (mkF m 120 #[.val (.int p0), .val (.int p1), .val (.int p2), .val (.int p3), .val (.int ((p0 &&& (2147483647 : Int32)) % (6 : Int32))), .val (.int (j1g_0 ((p0 &&& (2147483647 : Int32)) % (6 : Int32)) ((p1 &&& (2147483647 : Int32)) % (6 : Int32)))), .val (.ref b293), .val (.int (1 : Int32))] [(.int p2)])) _
                  refine XS.pop X491.here hx rfl (hb hby at_120) rfl rfl ?_
                  show Steps p.tables e below (T491.setTop (mkF m 121 #[.val (.int p0), .val (.int p1), .val (.int p2), .val (.int p3), .val (.int ((p0 &&& (2147483647 : Int32)) % (6 : Int32))), .val (.int (j1g_0 ((p0 &&& (2147483647 : Int32)) % (6 : Int32)) ((p1 &&& (2147483647 : Int32)) % (6 : Int32)))), .val (.ref b293), .val (.int (1 : Int32))] [])) _
                  refine XS.iload X491.here hx rfl (hb hby at_121) rfl ?_
                  show Steps p.tables e below (T491.setTop (mkF m 123 #[.val (.int p0), .val (.int p1), .val (.int p2), .val (.int p3), .val (.int ((p0 &&& (2147483647 : Int32)) % (6 : Int32))), .val (.int (j1g_0 ((p0 &&& (2147483647 : Int32)) % (6 : Int32)) ((p1 &&& (2147483647 : Int32)) % (6 : Int32)))), .val (.ref b293), .val (.int (1 : Int32))] [(.int (j1g_0 ((p0 &&& (2147483647 : Int32)) % (6 : Int32)) ((p1 &&& (2147483647 : Int32)) % (6 : Int32))))])) _
                  refine XS.iconst X491.here hx rfl (hb hby at_123) ?_
                  exact k)
                by_cases hc499 : (2 : Int32) < (j1g_0 ((p0 &&& (2147483647 : Int32)) % (6 : Int32)) ((p1 &&& (2147483647 : Int32)) % (6 : Int32)))
                · skip
                  obtain ⟨cq501, kq501, q501a, q501b, q501c⟩ := isOf hZ e491 f492
                  obtain ⟨_, _, ⟨T501, L501, k501, n501⟩, -, X501, ⟨Lc501, hQ501, l501, y501, z501⟩, st501⟩ := X491.virtualBack hx (y := (⟨"com/example/subsumer/subsumer/classification/IntList", "pop", "()I"⟩ : MethodName)) (z := (⟨"com/example/subsumer/subsumer/classification/IntList", "pop", "()I"⟩ : MethodName)) hown (mvT hZ (hw _ (List.mem_of_getElem? (i := 29) rfl))) (mvT hZ (hw _ (List.mem_of_getElem? (i := 30) rfl))) (notFace_of_selects (args := #[]) (mvT hZ (hw _ (List.mem_of_getElem? (i := 32) rfl)))) (mvT hZ (hw _ (List.mem_of_getElem? (i := 32) rfl))) (mvT hZ (hw _ (List.mem_of_getElem? (i := 31) rfl))) (by decide) (backOf (W := 0) (rm6_4_2 l Z aw hw [] b293 cx0297 p2 p3 p2 p3 cy0297 h491 n0 Z491 f492 f494 f493 f496 g_b293 ne305) hZ (hw _ (List.mem_of_getElem? (i := 33) rfl)) (hw _ (List.mem_of_getElem? (i := 7) rfl)) (by decide) (by decide)) q501a q501c (g := (mkF m 129 #[.val (.int p0), .val (.int p1), .val (.int p2), .val (.int p3), .val (.int ((p0 &&& (2147483647 : Int32)) % (6 : Int32))), .val (.int (j1g_0 ((p0 &&& (2147483647 : Int32)) % (6 : Int32)) ((p1 &&& (2147483647 : Int32)) % (6 : Int32)))), .val (.ref b293), .val (.int (1 : Int32))] [(.ref b293)])) rfl (by rw [hml]; rfl) (Steps.refl _) (argsL := []) (rest := []) (lenOf pd_7 rfl) rfl (by show 2 * 0 + _ ≤ _; exact Nat.le_of_eq rfl) (hb hby at_129) (fun _ _ => ⟨rfl, e491, (by decide : 2 + 0 ≤ _), (by decide : 6 + 0 ≤ _)⟩)
                  dsimp only [Pt.U, Pt.locs, Pt.cells, Pt.slots] at X501 l501 y501 z501 st501 hQ501
                  subst l501 y501 z501
                  obtain ⟨h501, e501⟩ : ∃ z, T501.heap = z := ⟨_, rfl⟩
                  rw [e501] at hQ501
                  obtain ⟨rfl, N501q, K501q, f502, f503, f504⟩ := hQ501
                  have f505 := f492.keep K501q
                  have f506 := f496.keep K501q (ninS (Ne.symm ne305) nin0)
                  have Z501 := Nat.le_trans Z491 K501q.1
                  have N501 := Fr.app N491 N501q
                  have pre510 := fun (t : State) (k : Steps p.tables e below (T501.setTop (mkF m 136 #[.val (.int p0), .val (.int p1), .val (.int p2), .val (.int p3), .val (.int ((p0 &&& (2147483647 : Int32)) % (6 : Int32))), .val (.int (j1g_0 ((p0 &&& (2147483647 : Int32)) % (6 : Int32)) ((p1 &&& (2147483647 : Int32)) % (6 : Int32)))), .val (.ref b293), .val (.int (1 : Int32))] [(.int (3 : Int32)), (.int (j1g_0 ((p0 &&& (2147483647 : Int32)) % (6 : Int32)) ((p1 &&& (2147483647 : Int32)) % (6 : Int32))))])) t) => pre500 t (by
                    show Steps p.tables e below (T491.setTop (mkF m 124 #[.val (.int p0), .val (.int p1), .val (.int p2), .val (.int p3), .val (.int ((p0 &&& (2147483647 : Int32)) % (6 : Int32))), .val (.int (j1g_0 ((p0 &&& (2147483647 : Int32)) % (6 : Int32)) ((p1 &&& (2147483647 : Int32)) % (6 : Int32)))), .val (.ref b293), .val (.int (1 : Int32))] [(.int (2 : Int32)), (.int (j1g_0 ((p0 &&& (2147483647 : Int32)) % (6 : Int32)) ((p1 &&& (2147483647 : Int32)) % (6 : Int32))))])) _
                    refine XS.icmpNo X491.here hx rfl (hb hby at_124) rfl (tlt hc499).2.2.2 ?_
                    show Steps p.tables e below (T491.setTop (mkF m 127 #[.val (.int p0), .val (.int p1), .val (.int p2), .val (.int p3), .val (.int ((p0 &&& (2147483647 : Int32)) % (6 : Int32))), .val (.int (j1g_0 ((p0 &&& (2147483647 : Int32)) % (6 : Int32)) ((p1 &&& (2147483647 : Int32)) % (6 : Int32)))), .val (.ref b293), .val (.int (1 : Int32))] [])) _
                    refine XS.aload X491.here hx rfl (hb hby at_127) rfl rfl ?_
                    show Steps p.tables e below (T491.setTop (mkF m 129 #[.val (.int p0), .val (.int p1), .val (.int p2), .val (.int p3), .val (.int ((p0 &&& (2147483647 : Int32)) % (6 : Int32))), .val (.int (j1g_0 ((p0 &&& (2147483647 : Int32)) % (6 : Int32)) ((p1 &&& (2147483647 : Int32)) % (6 : Int32)))), .val (.ref b293), .val (.int (1 : Int32))] [(.ref b293)])) _
                    refine st501.trans ?_
                    show Steps p.tables e below (T501.setTop (mkF m 132 #[.val (.int p0), .val (.int p1), .val (.int p2), .val (.int p3), .val (.int ((p0 &&& (2147483647 : Int32)) % (6 : Int32))), .val (.int (j1g_0 ((p0 &&& (2147483647 : Int32)) % (6 : Int32)) ((p1 &&& (2147483647 : Int32)) % (6 : Int32)))), .val (.ref b293), .val (.int (1 : Int32))] [(.int p3)])) _
                    refine XS.pop X501.here hx rfl (hb hby at_132) rfl rfl ?_
                    show Steps p.tables e below (T501.setTop (mkF m 133 #[.val (.int p0), .val (.int p1), .val (.int p2), .val (.int p3), .val (.int ((p0 &&& (2147483647 : Int32)) % (6 : Int32))), .val (.int (j1g_0 ((p0 &&& (2147483647 : Int32)) % (6 : Int32)) ((p1 &&& (2147483647 : Int32)) % (6 : Int32)))), .val (.ref b293), .val (.int (1 : Int32))] [])) _
                    refine XS.iload X501.here hx rfl (hb hby at_133) rfl ?_
                    show Steps p.tables e below (T501.setTop (mkF m 135 #[.val (.int p0), .val (.int p1), .val (.int p2), .val (.int p3), .val (.int ((p0 &&& (2147483647 : Int32)) % (6 : Int32))), .val (.int (j1g_0 ((p0 &&& (2147483647 : Int32)) % (6 : Int32)) ((p1 &&& (2147483647 : Int32)) % (6 : Int32)))), .val (.ref b293), .val (.int (1 : Int32))] [(.int (j1g_0 ((p0 &&& (2147483647 : Int32)) % (6 : Int32)) ((p1 &&& (2147483647 : Int32)) % (6 : Int32))))])) _
                    refine XS.iconst X501.here hx rfl (hb hby at_135) ?_
                    exact k)
                  by_cases hc509 : (3 : Int32) < (j1g_0 ((p0 &&& (2147483647 : Int32)) % (6 : Int32)) ((p1 &&& (2147483647 : Int32)) % (6 : Int32)))
                  · skip
                    obtain ⟨cq511, kq511, q511a, q511b, q511c⟩ := isOf hZ e501 f502
                    obtain ⟨_, _, ⟨T511, L511, k511, n511⟩, -, X511, ⟨Lc511, hQ511, l511, y511, z511⟩, st511⟩ := X501.virtualBack hx (y := (⟨"com/example/subsumer/subsumer/classification/IntList", "pop", "()I"⟩ : MethodName)) (z := (⟨"com/example/subsumer/subsumer/classification/IntList", "pop", "()I"⟩ : MethodName)) hown (mvT hZ (hw _ (List.mem_of_getElem? (i := 29) rfl))) (mvT hZ (hw _ (List.mem_of_getElem? (i := 30) rfl))) (notFace_of_selects (args := #[]) (mvT hZ (hw _ (List.mem_of_getElem? (i := 32) rfl)))) (mvT hZ (hw _ (List.mem_of_getElem? (i := 32) rfl))) (mvT hZ (hw _ (List.mem_of_getElem? (i := 31) rfl))) (by decide) (backOf (W := 0) (rm6_4_1 l Z aw hw [] b293 cx0297 p2 p3 p2 p3 cy0297 h501 n0 Z501 f502 f504 f503 f506 g_b293 ne305) hZ (hw _ (List.mem_of_getElem? (i := 33) rfl)) (hw _ (List.mem_of_getElem? (i := 7) rfl)) (by decide) (by decide)) q511a q511c (g := (mkF m 141 #[.val (.int p0), .val (.int p1), .val (.int p2), .val (.int p3), .val (.int ((p0 &&& (2147483647 : Int32)) % (6 : Int32))), .val (.int (j1g_0 ((p0 &&& (2147483647 : Int32)) % (6 : Int32)) ((p1 &&& (2147483647 : Int32)) % (6 : Int32)))), .val (.ref b293), .val (.int (1 : Int32))] [(.ref b293)])) rfl (by rw [hml]; rfl) (Steps.refl _) (argsL := []) (rest := []) (lenOf pd_7 rfl) rfl (by show 2 * 0 + _ ≤ _; exact Nat.le_of_eq rfl) (hb hby at_141) (fun _ _ => ⟨rfl, e501, (by decide : 2 + 0 ≤ _), (by decide : 6 + 0 ≤ _)⟩)
                    dsimp only [Pt.U, Pt.locs, Pt.cells, Pt.slots] at X511 l511 y511 z511 st511 hQ511
                    subst l511 y511 z511
                    obtain ⟨h511, e511⟩ : ∃ z, T511.heap = z := ⟨_, rfl⟩
                    rw [e511] at hQ511
                    obtain ⟨rfl, N511q, K511q, f512, f513, f514⟩ := hQ511
                    have f515 := f502.keep K511q
                    have f516 := f506.keep K511q (ninS (Ne.symm ne305) nin0)
                    have Z511 := Nat.le_trans Z501 K511q.1
                    have N511 := Fr.app N501 N511q
                    obtain ⟨cq519, kq519, q519a, q519b, q519c⟩ := isOf hZ e511 f512
                    obtain ⟨_, _, ⟨T519, L519, k519, n519⟩, -, X519, ⟨Lc519, hQ519, l519, y519, z519⟩, st519⟩ := X511.virtualBack hx (y := (⟨"com/example/subsumer/subsumer/classification/IntList", "isEmpty", "()Z"⟩ : MethodName)) (z := (⟨"com/example/subsumer/subsumer/classification/IntList", "isEmpty", "()Z"⟩ : MethodName)) hown (mvT hZ (hw _ (List.mem_of_getElem? (i := 17) rfl))) (mvT hZ (hw _ (List.mem_of_getElem? (i := 18) rfl))) (notFace_of_selects (args := #[]) (mvT hZ (hw _ (List.mem_of_getElem? (i := 20) rfl)))) (mvT hZ (hw _ (List.mem_of_getElem? (i := 20) rfl))) (mvT hZ (hw _ (List.mem_of_getElem? (i := 19) rfl))) (by decide) (backOf (W := 0) (rm4z l Z aw hw [] b293 h511 n0 Z511 f512 f513) hZ (hw _ (List.mem_of_getElem? (i := 21) rfl)) (hw _ (List.mem_of_getElem? (i := 7) rfl)) (by decide) (by decide)) q519a q519c (g := (mkF m 164 #[.val (.int p0), .val (.int p1), .val (.int p2), .val (.int p3), .val (.int ((p0 &&& (2147483647 : Int32)) % (6 : Int32))), .val (.int (j1g_0 ((p0 &&& (2147483647 : Int32)) % (6 : Int32)) ((p1 &&& (2147483647 : Int32)) % (6 : Int32)))), .val (.ref b293), .val (.int (1 : Int32))] [(.ref b293)])) rfl (by rw [hml]; rfl) (Steps.refl _) (argsL := []) (rest := []) (lenOf pd_5 rfl) rfl (by show 2 * 0 + _ ≤ _; exact Nat.le_of_eq rfl) (hb hby at_164) (fun _ _ => ⟨rfl, e511, (by decide : 2 + 0 ≤ _), (by decide : 6 + 0 ≤ _)⟩)
                    dsimp only [Pt.U, Pt.locs, Pt.cells, Pt.slots] at X519 l519 y519 z519 st519 hQ519
                    subst l519 y519 z519
                    obtain ⟨rfl, N519q, e519⟩ := hQ519
                    have N519 := Fr.app N511 N519q
                    have pre520 := fun (t : State) (k : Steps p.tables e below (T519.setTop (mkF m 171 #[.val (.int p0), .val (.int p1), .val (.int p2), .val (.int p3), .val (.int ((p0 &&& (2147483647 : Int32)) % (6 : Int32))), .val (.int (j1g_0 ((p0 &&& (2147483647 : Int32)) % (6 : Int32)) ((p1 &&& (2147483647 : Int32)) % (6 : Int32)))), .val (.ref b293), .val (.int (1 : Int32))] [(.int (j1g_0 ((p0 &&& (2147483647 : Int32)) % (6 : Int32)) ((p1 &&& (2147483647 : Int32)) % (6 : Int32)))), (.int ((p0 &&& (2147483647 : Int32)) % (6 : Int32))), (.int (1 : Int32))])) t) => pre510 t (by
                      show Steps p.tables e below (T501.setTop (mkF m 136 #[.val (.int p0), .val (.int p1), .val (.int p2), .val (.int p3), .val (.int ((p0 &&& (2147483647 : Int32)) % (6 : Int32))), .val (.int (j1g_0 ((p0 &&& (2147483647 : Int32)) % (6 : Int32)) ((p1 &&& (2147483647 : Int32)) % (6 : Int32)))), .val (.ref b293), .val (.int (1 : Int32))] [(.int (3 : Int32)), (.int (j1g_0 ((p0 &&& (2147483647 : Int32)) % (6 : Int32)) ((p1 &&& (2147483647 : Int32)) % (6 : Int32))))])) _
                      refine XS.icmpNo X501.here hx rfl (hb hby at_136) rfl (tlt hc509).2.2.2 ?_
                      show Steps p.tables e below (T501.setTop (mkF m 139 #[.val (.int p0), .val (.int p1), .val (.int p2), .val (.int p3), .val (.int ((p0 &&& (2147483647 : Int32)) % (6 : Int32))), .val (.int (j1g_0 ((p0 &&& (2147483647 : Int32)) % (6 : Int32)) ((p1 &&& (2147483647 : Int32)) % (6 : Int32)))), .val (.ref b293), .val (.int (1 : Int32))] [])) _
                      refine XS.aload X501.here hx rfl (hb hby at_139) rfl rfl ?_
                      show Steps p.tables e below (T501.setTop (mkF m 141 #[.val (.int p0), .val (.int p1), .val (.int p2), .val (.int p3), .val (.int ((p0 &&& (2147483647 : Int32)) % (6 : Int32))), .val (.int (j1g_0 ((p0 &&& (2147483647 : Int32)) % (6 : Int32)) ((p1 &&& (2147483647 : Int32)) % (6 : Int32)))), .val (.ref b293), .val (.int (1 : Int32))] [(.ref b293)])) _
                      refine st511.trans ?_
                      show Steps p.tables e below (T511.setTop (mkF m 144 #[.val (.int p0), .val (.int p1), .val (.int p2), .val (.int p3), .val (.int ((p0 &&& (2147483647 : Int32)) % (6 : Int32))), .val (.int (j1g_0 ((p0 &&& (2147483647 : Int32)) % (6 : Int32)) ((p1 &&& (2147483647 : Int32)) % (6 : Int32)))), .val (.ref b293), .val (.int (1 : Int32))] [(.int p2)])) _
                      refine XS.pop X511.here hx rfl (hb hby at_144) rfl rfl ?_
                      show Steps p.tables e below (T511.setTop (mkF m 145 #[.val (.int p0), .val (.int p1), .val (.int p2), .val (.int p3), .val (.int ((p0 &&& (2147483647 : Int32)) % (6 : Int32))), .val (.int (j1g_0 ((p0 &&& (2147483647 : Int32)) % (6 : Int32)) ((p1 &&& (2147483647 : Int32)) % (6 : Int32)))), .val (.ref b293), .val (.int (1 : Int32))] [])) _
                      refine XS.iload X511.here hx rfl (hb hby at_145) rfl ?_
                      show Steps p.tables e below (T511.setTop (mkF m 147 #[.val (.int p0), .val (.int p1), .val (.int p2), .val (.int p3), .val (.int ((p0 &&& (2147483647 : Int32)) % (6 : Int32))), .val (.int (j1g_0 ((p0 &&& (2147483647 : Int32)) % (6 : Int32)) ((p1 &&& (2147483647 : Int32)) % (6 : Int32)))), .val (.ref b293), .val (.int (1 : Int32))] [(.int (j1g_0 ((p0 &&& (2147483647 : Int32)) % (6 : Int32)) ((p1 &&& (2147483647 : Int32)) % (6 : Int32))))])) _
                      refine XS.iconst X511.here hx rfl (hb hby at_147) ?_
                      show Steps p.tables e below (T511.setTop (mkF m 148 #[.val (.int p0), .val (.int p1), .val (.int p2), .val (.int p3), .val (.int ((p0 &&& (2147483647 : Int32)) % (6 : Int32))), .val (.int (j1g_0 ((p0 &&& (2147483647 : Int32)) % (6 : Int32)) ((p1 &&& (2147483647 : Int32)) % (6 : Int32)))), .val (.ref b293), .val (.int (1 : Int32))] [(.int (4 : Int32)), (.int (j1g_0 ((p0 &&& (2147483647 : Int32)) % (6 : Int32)) ((p1 &&& (2147483647 : Int32)) % (6 : Int32))))])) _
                      refine XS.icmpYes X511.here hx rfl (pc0 := 148) (pc' := 157) rfl (hb hby at_148) rfl (flt (own_mn (own_up hc351 (by decide)))).2.2.2 (by decide) (by decide) ?_
                      show Steps p.tables e below (T511.setTop (mkF m 157 #[.val (.int p0), .val (.int p1), .val (.int p2), .val (.int p3), .val (.int ((p0 &&& (2147483647 : Int32)) % (6 : Int32))), .val (.int (j1g_0 ((p0 &&& (2147483647 : Int32)) % (6 : Int32)) ((p1 &&& (2147483647 : Int32)) % (6 : Int32)))), .val (.ref b293), .val (.int (1 : Int32))] [])) _
                      refine XS.iload X511.here hx rfl (hb hby at_157) rfl ?_
                      show Steps p.tables e below (T511.setTop (mkF m 159 #[.val (.int p0), .val (.int p1), .val (.int p2), .val (.int p3), .val (.int ((p0 &&& (2147483647 : Int32)) % (6 : Int32))), .val (.int (j1g_0 ((p0 &&& (2147483647 : Int32)) % (6 : Int32)) ((p1 &&& (2147483647 : Int32)) % (6 : Int32)))), .val (.ref b293), .val (.int (1 : Int32))] [(.int (1 : Int32))])) _
                      refine XS.ifNo X511.here hx rfl (hb hby at_159) rfl ((if0 _ _).trans (feq (by decide : ¬ ((1 : Int32) = (0 : Int32)))).1) ?_
                      show Steps p.tables e below (T511.setTop (mkF m 162 #[.val (.int p0), .val (.int p1), .val (.int p2), .val (.int p3), .val (.int ((p0 &&& (2147483647 : Int32)) % (6 : Int32))), .val (.int (j1g_0 ((p0 &&& (2147483647 : Int32)) % (6 : Int32)) ((p1 &&& (2147483647 : Int32)) % (6 : Int32)))), .val (.ref b293), .val (.int (1 : Int32))] [])) _
                      refine XS.aload X511.here hx rfl (hb hby at_162) rfl rfl ?_
                      show Steps p.tables e below (T511.setTop (mkF m 164 #[.val (.int p0), .val (.int p1), .val (.int p2), .val (.int p3), .val (.int ((p0 &&& (2147483647 : Int32)) % (6 : Int32))), .val (.int (j1g_0 ((p0 &&& (2147483647 : Int32)) % (6 : Int32)) ((p1 &&& (2147483647 : Int32)) % (6 : Int32)))), .val (.ref b293), .val (.int (1 : Int32))] [(.ref b293)])) _
                      refine st519.trans ?_
                      show Steps p.tables e below (T519.setTop (mkF m 167 #[.val (.int p0), .val (.int p1), .val (.int p2), .val (.int p3), .val (.int ((p0 &&& (2147483647 : Int32)) % (6 : Int32))), .val (.int (j1g_0 ((p0 &&& (2147483647 : Int32)) % (6 : Int32)) ((p1 &&& (2147483647 : Int32)) % (6 : Int32)))), .val (.ref b293), .val (.int (1 : Int32))] [(.int (1 : Int32))])) _
                      refine XS.iload X519.here hx rfl (hb hby at_167) rfl ?_
                      show Steps p.tables e below (T519.setTop (mkF m 169 #[.val (.int p0), .val (.int p1), .val (.int p2), .val (.int p3), .val (.int ((p0 &&& (2147483647 : Int32)) % (6 : Int32))), .val (.int (j1g_0 ((p0 &&& (2147483647 : Int32)) % (6 : Int32)) ((p1 &&& (2147483647 : Int32)) % (6 : Int32)))), .val (.ref b293), .val (.int (1 : Int32))] [(.int ((p0 &&& (2147483647 : Int32)) % (6 : Int32))), (.int (1 : Int32))])) _
                      refine XS.iload X519.here hx rfl (hb hby at_169) rfl ?_
                      exact k)
                    have pre521 := fun (t : State) (k : Steps p.tables e below (T519.setTop (mkF m 179 #[.val (.int p0), .val (.int p1), .val (.int p2), .val (.int p3), .val (.int ((p0 &&& (2147483647 : Int32)) % (6 : Int32))), .val (.int (j1g_0 ((p0 &&& (2147483647 : Int32)) % (6 : Int32)) ((p1 &&& (2147483647 : Int32)) % (6 : Int32)))), .val (.ref b293), .val (.int (1 : Int32))] [(.int (j0_0 p0 p1)), (.int (1 : Int32))])) t) => pre520 t (by
                      by_cases hc522 : ((p0 &&& (2147483647 : Int32)) % (6 : Int32)) = (j1g_0 ((p0 &&& (2147483647 : Int32)) % (6 : Int32)) ((p1 &&& (2147483647 : Int32)) % (6 : Int32)))
                      · skip
                        show Steps p.tables e below (T519.setTop (mkF m 171 #[.val (.int p0), .val (.int p1), .val (.int p2), .val (.int p3), .val (.int ((p0 &&& (2147483647 : Int32)) % (6 : Int32))), .val (.int (j1g_0 ((p0 &&& (2147483647 : Int32)) % (6 : Int32)) ((p1 &&& (2147483647 : Int32)) % (6 : Int32)))), .val (.ref b293), .val (.int (1 : Int32))] [(.int (j1g_0 ((p0 &&& (2147483647 : Int32)) % (6 : Int32)) ((p1 &&& (2147483647 : Int32)) % (6 : Int32)))), (.int ((p0 &&& (2147483647 : Int32)) % (6 : Int32))), (.int (1 : Int32))])) _
                        refine XS.icmpNo X519.here hx rfl (hb hby at_171) rfl (teq hc522).2 ?_
                        show Steps p.tables e below (T519.setTop (mkF m 174 #[.val (.int p0), .val (.int p1), .val (.int p2), .val (.int p3), .val (.int ((p0 &&& (2147483647 : Int32)) % (6 : Int32))), .val (.int (j1g_0 ((p0 &&& (2147483647 : Int32)) % (6 : Int32)) ((p1 &&& (2147483647 : Int32)) % (6 : Int32)))), .val (.ref b293), .val (.int (1 : Int32))] [(.int (1 : Int32))])) _
                        refine XS.iconst X519.here hx rfl (hb hby at_174) ?_
                        show Steps p.tables e below (T519.setTop (mkF m 175 #[.val (.int p0), .val (.int p1), .val (.int p2), .val (.int p3), .val (.int ((p0 &&& (2147483647 : Int32)) % (6 : Int32))), .val (.int (j1g_0 ((p0 &&& (2147483647 : Int32)) % (6 : Int32)) ((p1 &&& (2147483647 : Int32)) % (6 : Int32)))), .val (.ref b293), .val (.int (1 : Int32))] [(.int (1 : Int32)), (.int (1 : Int32))])) _
                        refine XS.goto X519.here hx rfl (pc0 := 175) (pc' := 179) rfl (hb hby at_175) (by decide) (by decide) ?_
                        have hj523 : (j0_0 p0 p1) = (1 : Int32) := by unfold j0_0; first | (rw [if_pos hc522]) | (simp only [if_pos hc522])
                        rw [hj523] at k
                        exact k
                      · skip
                        show Steps p.tables e below (T519.setTop (mkF m 171 #[.val (.int p0), .val (.int p1), .val (.int p2), .val (.int p3), .val (.int ((p0 &&& (2147483647 : Int32)) % (6 : Int32))), .val (.int (j1g_0 ((p0 &&& (2147483647 : Int32)) % (6 : Int32)) ((p1 &&& (2147483647 : Int32)) % (6 : Int32)))), .val (.ref b293), .val (.int (1 : Int32))] [(.int (j1g_0 ((p0 &&& (2147483647 : Int32)) % (6 : Int32)) ((p1 &&& (2147483647 : Int32)) % (6 : Int32)))), (.int ((p0 &&& (2147483647 : Int32)) % (6 : Int32))), (.int (1 : Int32))])) _
                        refine XS.icmpYes X519.here hx rfl (pc0 := 171) (pc' := 178) rfl (hb hby at_171) rfl (feq hc522).2 (by decide) (by decide) ?_
                        show Steps p.tables e below (T519.setTop (mkF m 178 #[.val (.int p0), .val (.int p1), .val (.int p2), .val (.int p3), .val (.int ((p0 &&& (2147483647 : Int32)) % (6 : Int32))), .val (.int (j1g_0 ((p0 &&& (2147483647 : Int32)) % (6 : Int32)) ((p1 &&& (2147483647 : Int32)) % (6 : Int32)))), .val (.ref b293), .val (.int (1 : Int32))] [(.int (1 : Int32))])) _
                        refine XS.iconst X519.here hx rfl (hb hby at_178) ?_
                        have hj524 : (j0_0 p0 p1) = (0 : Int32) := by unfold j0_0; first | (rw [if_neg hc522]) | (simp only [if_neg hc522])
                        rw [hj524] at k
                        exact k)
                    have pre525 := fun (t : State) (k : Steps p.tables e below (T519.setTop (mkF m 187 #[.val (.int p0), .val (.int p1), .val (.int p2), .val (.int p3), .val (.int ((p0 &&& (2147483647 : Int32)) % (6 : Int32))), .val (.int (j1g_0 ((p0 &&& (2147483647 : Int32)) % (6 : Int32)) ((p1 &&& (2147483647 : Int32)) % (6 : Int32)))), .val (.ref b293), .val (.int (1 : Int32))] [(.int (j0_1 p0 p1))])) t) => pre521 t (by
                      by_cases hc526 : (1 : Int32) = (j0_0 p0 p1)
                      · skip
                        show Steps p.tables e below (T519.setTop (mkF m 179 #[.val (.int p0), .val (.int p1), .val (.int p2), .val (.int p3), .val (.int ((p0 &&& (2147483647 : Int32)) % (6 : Int32))), .val (.int (j1g_0 ((p0 &&& (2147483647 : Int32)) % (6 : Int32)) ((p1 &&& (2147483647 : Int32)) % (6 : Int32)))), .val (.ref b293), .val (.int (1 : Int32))] [(.int (j0_0 p0 p1)), (.int (1 : Int32))])) _
                        refine XS.icmpNo X519.here hx rfl (hb hby at_179) rfl (teq hc526).2 ?_
                        show Steps p.tables e below (T519.setTop (mkF m 182 #[.val (.int p0), .val (.int p1), .val (.int p2), .val (.int p3), .val (.int ((p0 &&& (2147483647 : Int32)) % (6 : Int32))), .val (.int (j1g_0 ((p0 &&& (2147483647 : Int32)) % (6 : Int32)) ((p1 &&& (2147483647 : Int32)) % (6 : Int32)))), .val (.ref b293), .val (.int (1 : Int32))] [])) _
                        refine XS.iconst X519.here hx rfl (hb hby at_182) ?_
                        show Steps p.tables e below (T519.setTop (mkF m 183 #[.val (.int p0), .val (.int p1), .val (.int p2), .val (.int p3), .val (.int ((p0 &&& (2147483647 : Int32)) % (6 : Int32))), .val (.int (j1g_0 ((p0 &&& (2147483647 : Int32)) % (6 : Int32)) ((p1 &&& (2147483647 : Int32)) % (6 : Int32)))), .val (.ref b293), .val (.int (1 : Int32))] [(.int (1 : Int32))])) _
                        refine XS.goto X519.here hx rfl (pc0 := 183) (pc' := 187) rfl (hb hby at_183) (by decide) (by decide) ?_
                        have hj527 : (j0_1 p0 p1) = (1 : Int32) := by unfold j0_1; first | (rw [if_pos hc526]) | (simp only [if_pos hc526])
                        rw [hj527] at k
                        exact k
                      · skip
                        show Steps p.tables e below (T519.setTop (mkF m 179 #[.val (.int p0), .val (.int p1), .val (.int p2), .val (.int p3), .val (.int ((p0 &&& (2147483647 : Int32)) % (6 : Int32))), .val (.int (j1g_0 ((p0 &&& (2147483647 : Int32)) % (6 : Int32)) ((p1 &&& (2147483647 : Int32)) % (6 : Int32)))), .val (.ref b293), .val (.int (1 : Int32))] [(.int (j0_0 p0 p1)), (.int (1 : Int32))])) _
                        refine XS.icmpYes X519.here hx rfl (pc0 := 179) (pc' := 186) rfl (hb hby at_179) rfl (feq hc526).2 (by decide) (by decide) ?_
                        show Steps p.tables e below (T519.setTop (mkF m 186 #[.val (.int p0), .val (.int p1), .val (.int p2), .val (.int p3), .val (.int ((p0 &&& (2147483647 : Int32)) % (6 : Int32))), .val (.int (j1g_0 ((p0 &&& (2147483647 : Int32)) % (6 : Int32)) ((p1 &&& (2147483647 : Int32)) % (6 : Int32)))), .val (.ref b293), .val (.int (1 : Int32))] [])) _
                        refine XS.iconst X519.here hx rfl (hb hby at_186) ?_
                        have hj528 : (j0_1 p0 p1) = (0 : Int32) := by unfold j0_1; first | (rw [if_neg hc526]) | (simp only [if_neg hc526])
                        rw [hj528] at k
                        exact k)
                    obtain ⟨fs, hr, hrun, hended, hW, hsame⟩ := X519.leave (v := some (.int (nar .boolean (j0_1 p0 p1)))) (fun h => by rw [Bd.returns] at h; cases h)
                    refine ⟨_, _, pre525 _ ?_, hrun, hended, _, _, rfl, ?_, ⟨_, rfl⟩, hW, hsame.mono (by decide) (by decide)⟩
                    · skip
                      show Steps p.tables e below (T519.setTop (mkF m 187 #[.val (.int p0), .val (.int p1), .val (.int p2), .val (.int p3), .val (.int ((p0 &&& (2147483647 : Int32)) % (6 : Int32))), .val (.int (j1g_0 ((p0 &&& (2147483647 : Int32)) % (6 : Int32)) ((p1 &&& (2147483647 : Int32)) % (6 : Int32)))), .val (.ref b293), .val (.int (1 : Int32))] [(.int (j0_1 p0 p1))])) _
                      exact retN X519 hx (t := .boolean) Bd.returns (by simp) (hb hby at_187) hr
                    · show Q0 Z p0 p1 p2 p3 h0 n0 _ T519.heap _
                      rw [e519]
                      have hv : (nar .boolean (j0_1 p0 p1)) = (v0 p0 p1) := by unfold v0; first | (rw [if_pos hc307, if_pos hc318, if_pos hc329, if_pos hc340, if_neg hc351, if_pos hc479, if_pos hc489, if_pos hc499, if_pos hc509]) | (simp only [if_pos hc307, if_pos hc318, if_pos hc329, if_pos hc340, if_neg hc351, if_pos hc479, if_pos hc489, if_pos hc499, if_pos hc509])
                      exact ⟨(by rw [← hv]), N519⟩
                  · skip
                    obtain ⟨cq529, kq529, q529a, q529b, q529c⟩ := isOf hZ e501 f502
                    obtain ⟨_, _, ⟨T529, L529, k529, n529⟩, -, X529, ⟨Lc529, hQ529, l529, y529, z529⟩, st529⟩ := X501.virtualBack hx (y := (⟨"com/example/subsumer/subsumer/classification/IntList", "isEmpty", "()Z"⟩ : MethodName)) (z := (⟨"com/example/subsumer/subsumer/classification/IntList", "isEmpty", "()Z"⟩ : MethodName)) hown (mvT hZ (hw _ (List.mem_of_getElem? (i := 17) rfl))) (mvT hZ (hw _ (List.mem_of_getElem? (i := 18) rfl))) (notFace_of_selects (args := #[]) (mvT hZ (hw _ (List.mem_of_getElem? (i := 20) rfl)))) (mvT hZ (hw _ (List.mem_of_getElem? (i := 20) rfl))) (mvT hZ (hw _ (List.mem_of_getElem? (i := 19) rfl))) (by decide) (backOf (W := 0) (rm4_1 l Z aw hw [] b293 h501 n0 Z501 f502 f503) hZ (hw _ (List.mem_of_getElem? (i := 21) rfl)) (hw _ (List.mem_of_getElem? (i := 7) rfl)) (by decide) (by decide)) q529a q529c (g := (mkF m 164 #[.val (.int p0), .val (.int p1), .val (.int p2), .val (.int p3), .val (.int ((p0 &&& (2147483647 : Int32)) % (6 : Int32))), .val (.int (j1g_0 ((p0 &&& (2147483647 : Int32)) % (6 : Int32)) ((p1 &&& (2147483647 : Int32)) % (6 : Int32)))), .val (.ref b293), .val (.int (1 : Int32))] [(.ref b293)])) rfl (by rw [hml]; rfl) (Steps.refl _) (argsL := []) (rest := []) (lenOf pd_5 rfl) rfl (by show 2 * 0 + _ ≤ _; exact Nat.le_of_eq rfl) (hb hby at_164) (fun _ _ => ⟨rfl, e501, (by decide : 2 + 0 ≤ _), (by decide : 6 + 0 ≤ _)⟩)
                    dsimp only [Pt.U, Pt.locs, Pt.cells, Pt.slots] at X529 l529 y529 z529 st529 hQ529
                    subst l529 y529 z529
                    obtain ⟨rfl, N529q, e529⟩ := hQ529
                    have N529 := Fr.app N501 N529q
                    have pre530 := fun (t : State) (k : Steps p.tables e below (T529.setTop (mkF m 171 #[.val (.int p0), .val (.int p1), .val (.int p2), .val (.int p3), .val (.int ((p0 &&& (2147483647 : Int32)) % (6 : Int32))), .val (.int (j1g_0 ((p0 &&& (2147483647 : Int32)) % (6 : Int32)) ((p1 &&& (2147483647 : Int32)) % (6 : Int32)))), .val (.ref b293), .val (.int (1 : Int32))] [(.int (j1g_0 ((p0 &&& (2147483647 : Int32)) % (6 : Int32)) ((p1 &&& (2147483647 : Int32)) % (6 : Int32)))), (.int ((p0 &&& (2147483647 : Int32)) % (6 : Int32))), (.int (0 : Int32))])) t) => pre510 t (by
                      show Steps p.tables e below (T501.setTop (mkF m 136 #[.val (.int p0), .val (.int p1), .val (.int p2), .val (.int p3), .val (.int ((p0 &&& (2147483647 : Int32)) % (6 : Int32))), .val (.int (j1g_0 ((p0 &&& (2147483647 : Int32)) % (6 : Int32)) ((p1 &&& (2147483647 : Int32)) % (6 : Int32)))), .val (.ref b293), .val (.int (1 : Int32))] [(.int (3 : Int32)), (.int (j1g_0 ((p0 &&& (2147483647 : Int32)) % (6 : Int32)) ((p1 &&& (2147483647 : Int32)) % (6 : Int32))))])) _
                      refine XS.icmpYes X501.here hx rfl (pc0 := 136) (pc' := 145) rfl (hb hby at_136) rfl (flt hc509).2.2.2 (by decide) (by decide) ?_
                      show Steps p.tables e below (T501.setTop (mkF m 145 #[.val (.int p0), .val (.int p1), .val (.int p2), .val (.int p3), .val (.int ((p0 &&& (2147483647 : Int32)) % (6 : Int32))), .val (.int (j1g_0 ((p0 &&& (2147483647 : Int32)) % (6 : Int32)) ((p1 &&& (2147483647 : Int32)) % (6 : Int32)))), .val (.ref b293), .val (.int (1 : Int32))] [])) _
                      refine XS.iload X501.here hx rfl (hb hby at_145) rfl ?_
                      show Steps p.tables e below (T501.setTop (mkF m 147 #[.val (.int p0), .val (.int p1), .val (.int p2), .val (.int p3), .val (.int ((p0 &&& (2147483647 : Int32)) % (6 : Int32))), .val (.int (j1g_0 ((p0 &&& (2147483647 : Int32)) % (6 : Int32)) ((p1 &&& (2147483647 : Int32)) % (6 : Int32)))), .val (.ref b293), .val (.int (1 : Int32))] [(.int (j1g_0 ((p0 &&& (2147483647 : Int32)) % (6 : Int32)) ((p1 &&& (2147483647 : Int32)) % (6 : Int32))))])) _
                      refine XS.iconst X501.here hx rfl (hb hby at_147) ?_
                      show Steps p.tables e below (T501.setTop (mkF m 148 #[.val (.int p0), .val (.int p1), .val (.int p2), .val (.int p3), .val (.int ((p0 &&& (2147483647 : Int32)) % (6 : Int32))), .val (.int (j1g_0 ((p0 &&& (2147483647 : Int32)) % (6 : Int32)) ((p1 &&& (2147483647 : Int32)) % (6 : Int32)))), .val (.ref b293), .val (.int (1 : Int32))] [(.int (4 : Int32)), (.int (j1g_0 ((p0 &&& (2147483647 : Int32)) % (6 : Int32)) ((p1 &&& (2147483647 : Int32)) % (6 : Int32))))])) _
                      refine XS.icmpYes X501.here hx rfl (pc0 := 148) (pc' := 157) rfl (hb hby at_148) rfl (flt (own_mn (own_up hc351 (by decide)))).2.2.2 (by decide) (by decide) ?_
                      show Steps p.tables e below (T501.setTop (mkF m 157 #[.val (.int p0), .val (.int p1), .val (.int p2), .val (.int p3), .val (.int ((p0 &&& (2147483647 : Int32)) % (6 : Int32))), .val (.int (j1g_0 ((p0 &&& (2147483647 : Int32)) % (6 : Int32)) ((p1 &&& (2147483647 : Int32)) % (6 : Int32)))), .val (.ref b293), .val (.int (1 : Int32))] [])) _
                      refine XS.iload X501.here hx rfl (hb hby at_157) rfl ?_
                      show Steps p.tables e below (T501.setTop (mkF m 159 #[.val (.int p0), .val (.int p1), .val (.int p2), .val (.int p3), .val (.int ((p0 &&& (2147483647 : Int32)) % (6 : Int32))), .val (.int (j1g_0 ((p0 &&& (2147483647 : Int32)) % (6 : Int32)) ((p1 &&& (2147483647 : Int32)) % (6 : Int32)))), .val (.ref b293), .val (.int (1 : Int32))] [(.int (1 : Int32))])) _
                      refine XS.ifNo X501.here hx rfl (hb hby at_159) rfl ((if0 _ _).trans (feq (by decide : ¬ ((1 : Int32) = (0 : Int32)))).1) ?_
                      show Steps p.tables e below (T501.setTop (mkF m 162 #[.val (.int p0), .val (.int p1), .val (.int p2), .val (.int p3), .val (.int ((p0 &&& (2147483647 : Int32)) % (6 : Int32))), .val (.int (j1g_0 ((p0 &&& (2147483647 : Int32)) % (6 : Int32)) ((p1 &&& (2147483647 : Int32)) % (6 : Int32)))), .val (.ref b293), .val (.int (1 : Int32))] [])) _
                      refine XS.aload X501.here hx rfl (hb hby at_162) rfl rfl ?_
                      show Steps p.tables e below (T501.setTop (mkF m 164 #[.val (.int p0), .val (.int p1), .val (.int p2), .val (.int p3), .val (.int ((p0 &&& (2147483647 : Int32)) % (6 : Int32))), .val (.int (j1g_0 ((p0 &&& (2147483647 : Int32)) % (6 : Int32)) ((p1 &&& (2147483647 : Int32)) % (6 : Int32)))), .val (.ref b293), .val (.int (1 : Int32))] [(.ref b293)])) _
                      refine st529.trans ?_
                      show Steps p.tables e below (T529.setTop (mkF m 167 #[.val (.int p0), .val (.int p1), .val (.int p2), .val (.int p3), .val (.int ((p0 &&& (2147483647 : Int32)) % (6 : Int32))), .val (.int (j1g_0 ((p0 &&& (2147483647 : Int32)) % (6 : Int32)) ((p1 &&& (2147483647 : Int32)) % (6 : Int32)))), .val (.ref b293), .val (.int (1 : Int32))] [(.int (0 : Int32))])) _
                      refine XS.iload X529.here hx rfl (hb hby at_167) rfl ?_
                      show Steps p.tables e below (T529.setTop (mkF m 169 #[.val (.int p0), .val (.int p1), .val (.int p2), .val (.int p3), .val (.int ((p0 &&& (2147483647 : Int32)) % (6 : Int32))), .val (.int (j1g_0 ((p0 &&& (2147483647 : Int32)) % (6 : Int32)) ((p1 &&& (2147483647 : Int32)) % (6 : Int32)))), .val (.ref b293), .val (.int (1 : Int32))] [(.int ((p0 &&& (2147483647 : Int32)) % (6 : Int32))), (.int (0 : Int32))])) _
                      refine XS.iload X529.here hx rfl (hb hby at_169) rfl ?_
                      exact k)
                    have pre531 := fun (t : State) (k : Steps p.tables e below (T529.setTop (mkF m 179 #[.val (.int p0), .val (.int p1), .val (.int p2), .val (.int p3), .val (.int ((p0 &&& (2147483647 : Int32)) % (6 : Int32))), .val (.int (j1g_0 ((p0 &&& (2147483647 : Int32)) % (6 : Int32)) ((p1 &&& (2147483647 : Int32)) % (6 : Int32)))), .val (.ref b293), .val (.int (1 : Int32))] [(.int (j0_0 p0 p1)), (.int (0 : Int32))])) t) => pre530 t (by
                      by_cases hc532 : ((p0 &&& (2147483647 : Int32)) % (6 : Int32)) = (j1g_0 ((p0 &&& (2147483647 : Int32)) % (6 : Int32)) ((p1 &&& (2147483647 : Int32)) % (6 : Int32)))
                      · skip
                        show Steps p.tables e below (T529.setTop (mkF m 171 #[.val (.int p0), .val (.int p1), .val (.int p2), .val (.int p3), .val (.int ((p0 &&& (2147483647 : Int32)) % (6 : Int32))), .val (.int (j1g_0 ((p0 &&& (2147483647 : Int32)) % (6 : Int32)) ((p1 &&& (2147483647 : Int32)) % (6 : Int32)))), .val (.ref b293), .val (.int (1 : Int32))] [(.int (j1g_0 ((p0 &&& (2147483647 : Int32)) % (6 : Int32)) ((p1 &&& (2147483647 : Int32)) % (6 : Int32)))), (.int ((p0 &&& (2147483647 : Int32)) % (6 : Int32))), (.int (0 : Int32))])) _
                        refine XS.icmpNo X529.here hx rfl (hb hby at_171) rfl (teq hc532).2 ?_
                        show Steps p.tables e below (T529.setTop (mkF m 174 #[.val (.int p0), .val (.int p1), .val (.int p2), .val (.int p3), .val (.int ((p0 &&& (2147483647 : Int32)) % (6 : Int32))), .val (.int (j1g_0 ((p0 &&& (2147483647 : Int32)) % (6 : Int32)) ((p1 &&& (2147483647 : Int32)) % (6 : Int32)))), .val (.ref b293), .val (.int (1 : Int32))] [(.int (0 : Int32))])) _
                        refine XS.iconst X529.here hx rfl (hb hby at_174) ?_
                        show Steps p.tables e below (T529.setTop (mkF m 175 #[.val (.int p0), .val (.int p1), .val (.int p2), .val (.int p3), .val (.int ((p0 &&& (2147483647 : Int32)) % (6 : Int32))), .val (.int (j1g_0 ((p0 &&& (2147483647 : Int32)) % (6 : Int32)) ((p1 &&& (2147483647 : Int32)) % (6 : Int32)))), .val (.ref b293), .val (.int (1 : Int32))] [(.int (1 : Int32)), (.int (0 : Int32))])) _
                        refine XS.goto X529.here hx rfl (pc0 := 175) (pc' := 179) rfl (hb hby at_175) (by decide) (by decide) ?_
                        have hj533 : (j0_0 p0 p1) = (1 : Int32) := by unfold j0_0; first | (rw [if_pos hc532]) | (simp only [if_pos hc532])
                        rw [hj533] at k
                        exact k
                      · skip
                        show Steps p.tables e below (T529.setTop (mkF m 171 #[.val (.int p0), .val (.int p1), .val (.int p2), .val (.int p3), .val (.int ((p0 &&& (2147483647 : Int32)) % (6 : Int32))), .val (.int (j1g_0 ((p0 &&& (2147483647 : Int32)) % (6 : Int32)) ((p1 &&& (2147483647 : Int32)) % (6 : Int32)))), .val (.ref b293), .val (.int (1 : Int32))] [(.int (j1g_0 ((p0 &&& (2147483647 : Int32)) % (6 : Int32)) ((p1 &&& (2147483647 : Int32)) % (6 : Int32)))), (.int ((p0 &&& (2147483647 : Int32)) % (6 : Int32))), (.int (0 : Int32))])) _
                        refine XS.icmpYes X529.here hx rfl (pc0 := 171) (pc' := 178) rfl (hb hby at_171) rfl (feq hc532).2 (by decide) (by decide) ?_
                        show Steps p.tables e below (T529.setTop (mkF m 178 #[.val (.int p0), .val (.int p1), .val (.int p2), .val (.int p3), .val (.int ((p0 &&& (2147483647 : Int32)) % (6 : Int32))), .val (.int (j1g_0 ((p0 &&& (2147483647 : Int32)) % (6 : Int32)) ((p1 &&& (2147483647 : Int32)) % (6 : Int32)))), .val (.ref b293), .val (.int (1 : Int32))] [(.int (0 : Int32))])) _
                        refine XS.iconst X529.here hx rfl (hb hby at_178) ?_
                        have hj534 : (j0_0 p0 p1) = (0 : Int32) := by unfold j0_0; first | (rw [if_neg hc532]) | (simp only [if_neg hc532])
                        rw [hj534] at k
                        exact k)
                    have pre535 := fun (t : State) (k : Steps p.tables e below (T529.setTop (mkF m 187 #[.val (.int p0), .val (.int p1), .val (.int p2), .val (.int p3), .val (.int ((p0 &&& (2147483647 : Int32)) % (6 : Int32))), .val (.int (j1g_0 ((p0 &&& (2147483647 : Int32)) % (6 : Int32)) ((p1 &&& (2147483647 : Int32)) % (6 : Int32)))), .val (.ref b293), .val (.int (1 : Int32))] [(.int (j0_2 p0 p1))])) t) => pre531 t (by
                      by_cases hc536 : (0 : Int32) = (j0_0 p0 p1)
                      · skip
                        show Steps p.tables e below (T529.setTop (mkF m 179 #[.val (.int p0), .val (.int p1), .val (.int p2), .val (.int p3), .val (.int ((p0 &&& (2147483647 : Int32)) % (6 : Int32))), .val (.int (j1g_0 ((p0 &&& (2147483647 : Int32)) % (6 : Int32)) ((p1 &&& (2147483647 : Int32)) % (6 : Int32)))), .val (.ref b293), .val (.int (1 : Int32))] [(.int (j0_0 p0 p1)), (.int (0 : Int32))])) _
                        refine XS.icmpNo X529.here hx rfl (hb hby at_179) rfl (teq hc536).2 ?_
                        show Steps p.tables e below (T529.setTop (mkF m 182 #[.val (.int p0), .val (.int p1), .val (.int p2), .val (.int p3), .val (.int ((p0 &&& (2147483647 : Int32)) % (6 : Int32))), .val (.int (j1g_0 ((p0 &&& (2147483647 : Int32)) % (6 : Int32)) ((p1 &&& (2147483647 : Int32)) % (6 : Int32)))), .val (.ref b293), .val (.int (1 : Int32))] [])) _
                        refine XS.iconst X529.here hx rfl (hb hby at_182) ?_
                        show Steps p.tables e below (T529.setTop (mkF m 183 #[.val (.int p0), .val (.int p1), .val (.int p2), .val (.int p3), .val (.int ((p0 &&& (2147483647 : Int32)) % (6 : Int32))), .val (.int (j1g_0 ((p0 &&& (2147483647 : Int32)) % (6 : Int32)) ((p1 &&& (2147483647 : Int32)) % (6 : Int32)))), .val (.ref b293), .val (.int (1 : Int32))] [(.int (1 : Int32))])) _
                        refine XS.goto X529.here hx rfl (pc0 := 183) (pc' := 187) rfl (hb hby at_183) (by decide) (by decide) ?_
                        have hj537 : (j0_2 p0 p1) = (1 : Int32) := by unfold j0_2; first | (rw [if_pos hc536]) | (simp only [if_pos hc536])
                        rw [hj537] at k
                        exact k
                      · skip
                        show Steps p.tables e below (T529.setTop (mkF m 179 #[.val (.int p0), .val (.int p1), .val (.int p2), .val (.int p3), .val (.int ((p0 &&& (2147483647 : Int32)) % (6 : Int32))), .val (.int (j1g_0 ((p0 &&& (2147483647 : Int32)) % (6 : Int32)) ((p1 &&& (2147483647 : Int32)) % (6 : Int32)))), .val (.ref b293), .val (.int (1 : Int32))] [(.int (j0_0 p0 p1)), (.int (0 : Int32))])) _
                        refine XS.icmpYes X529.here hx rfl (pc0 := 179) (pc' := 186) rfl (hb hby at_179) rfl (feq hc536).2 (by decide) (by decide) ?_
                        show Steps p.tables e below (T529.setTop (mkF m 186 #[.val (.int p0), .val (.int p1), .val (.int p2), .val (.int p3), .val (.int ((p0 &&& (2147483647 : Int32)) % (6 : Int32))), .val (.int (j1g_0 ((p0 &&& (2147483647 : Int32)) % (6 : Int32)) ((p1 &&& (2147483647 : Int32)) % (6 : Int32)))), .val (.ref b293), .val (.int (1 : Int32))] [])) _
                        refine XS.iconst X529.here hx rfl (hb hby at_186) ?_
                        have hj538 : (j0_2 p0 p1) = (0 : Int32) := by unfold j0_2; first | (rw [if_neg hc536]) | (simp only [if_neg hc536])
                        rw [hj538] at k
                        exact k)
                    obtain ⟨fs, hr, hrun, hended, hW, hsame⟩ := X529.leave (v := some (.int (nar .boolean (j0_2 p0 p1)))) (fun h => by rw [Bd.returns] at h; cases h)
                    refine ⟨_, _, pre535 _ ?_, hrun, hended, _, _, rfl, ?_, ⟨_, rfl⟩, hW, hsame.mono (by decide) (by decide)⟩
                    · skip
                      show Steps p.tables e below (T529.setTop (mkF m 187 #[.val (.int p0), .val (.int p1), .val (.int p2), .val (.int p3), .val (.int ((p0 &&& (2147483647 : Int32)) % (6 : Int32))), .val (.int (j1g_0 ((p0 &&& (2147483647 : Int32)) % (6 : Int32)) ((p1 &&& (2147483647 : Int32)) % (6 : Int32)))), .val (.ref b293), .val (.int (1 : Int32))] [(.int (j0_2 p0 p1))])) _
                      exact retN X529 hx (t := .boolean) Bd.returns (by simp) (hb hby at_187) hr
                    · show Q0 Z p0 p1 p2 p3 h0 n0 _ T529.heap _
                      rw [e529]
                      have hv : (nar .boolean (j0_2 p0 p1)) = (v0 p0 p1) := by unfold v0; first | (rw [if_pos hc307, if_pos hc318, if_pos hc329, if_pos hc340, if_neg hc351, if_pos hc479, if_pos hc489, if_pos hc499, if_neg hc509]) | (simp only [if_pos hc307, if_pos hc318, if_pos hc329, if_pos hc340, if_neg hc351, if_pos hc479, if_pos hc489, if_pos hc499, if_neg hc509])
                      exact ⟨(by rw [← hv]), N529⟩
                · skip
                  obtain ⟨cq539, kq539, q539a, q539b, q539c⟩ := isOf hZ e491 f492
                  obtain ⟨_, _, ⟨T539, L539, k539, n539⟩, -, X539, ⟨Lc539, hQ539, l539, y539, z539⟩, st539⟩ := X491.virtualBack hx (y := (⟨"com/example/subsumer/subsumer/classification/IntList", "isEmpty", "()Z"⟩ : MethodName)) (z := (⟨"com/example/subsumer/subsumer/classification/IntList", "isEmpty", "()Z"⟩ : MethodName)) hown (mvT hZ (hw _ (List.mem_of_getElem? (i := 17) rfl))) (mvT hZ (hw _ (List.mem_of_getElem? (i := 18) rfl))) (notFace_of_selects (args := #[]) (mvT hZ (hw _ (List.mem_of_getElem? (i := 20) rfl)))) (mvT hZ (hw _ (List.mem_of_getElem? (i := 20) rfl))) (mvT hZ (hw _ (List.mem_of_getElem? (i := 19) rfl))) (by decide) (backOf (W := 0) (rm4_2 l Z aw hw [] b293 h491 n0 Z491 f492 f493) hZ (hw _ (List.mem_of_getElem? (i := 21) rfl)) (hw _ (List.mem_of_getElem? (i := 7) rfl)) (by decide) (by decide)) q539a q539c (g := (mkF m 164 #[.val (.int p0), .val (.int p1), .val (.int p2), .val (.int p3), .val (.int ((p0 &&& (2147483647 : Int32)) % (6 : Int32))), .val (.int (j1g_0 ((p0 &&& (2147483647 : Int32)) % (6 : Int32)) ((p1 &&& (2147483647 : Int32)) % (6 : Int32)))), .val (.ref b293), .val (.int (1 : Int32))] [(.ref b293)])) rfl (by rw [hml]; rfl) (Steps.refl _) (argsL := []) (rest := []) (lenOf pd_5 rfl) rfl (by show 2 * 0 + _ ≤ _; exact Nat.le_of_eq rfl) (hb hby at_164) (fun _ _ => ⟨rfl, e491, (by decide : 2 + 0 ≤ _), (by decide : 6 + 0 ≤ _)⟩)
                  dsimp only [Pt.U, Pt.locs, Pt.cells, Pt.slots] at X539 l539 y539 z539 st539 hQ539
                  subst l539 y539 z539
                  obtain ⟨rfl, N539q, e539⟩ := hQ539
                  have N539 := Fr.app N491 N539q
                  have pre540 := fun (t : State) (k : Steps p.tables e below (T539.setTop (mkF m 171 #[.val (.int p0), .val (.int p1), .val (.int p2), .val (.int p3), .val (.int ((p0 &&& (2147483647 : Int32)) % (6 : Int32))), .val (.int (j1g_0 ((p0 &&& (2147483647 : Int32)) % (6 : Int32)) ((p1 &&& (2147483647 : Int32)) % (6 : Int32)))), .val (.ref b293), .val (.int (1 : Int32))] [(.int (j1g_0 ((p0 &&& (2147483647 : Int32)) % (6 : Int32)) ((p1 &&& (2147483647 : Int32)) % (6 : Int32)))), (.int ((p0 &&& (2147483647 : Int32)) % (6 : Int32))), (.int (0 : Int32))])) t) => pre500 t (by
                    show Steps p.tables e below (T491.setTop (mkF m 124 #[.val (.int p0), .val (.int p1), .val (.int p2), .val (.int p3), .val (.int ((p0 &&& (2147483647 : Int32)) % (6 : Int32))), .val (.int (j1g_0 ((p0 &&& (2147483647 : Int32)) % (6 : Int32)) ((p1 &&& (2147483647 : Int32)) % (6 : Int32)))), .val (.ref b293), .val (.int (1 : Int32))] [(.int (2 : Int32)), (.int (j1g_0 ((p0 &&& (2147483647 : Int32)) % (6 : Int32)) ((p1 &&& (2147483647 : Int32)) % (6 : Int32))))])) _
                    refine XS.icmpYes X491.here hx rfl (pc0 := 124) (pc' := 133) rfl (hb hby at_124) rfl (flt hc499).2.2.2 (by decide) (by decide) ?_
                    show Steps p.tables e below (T491.setTop (mkF m 133 #[.val (.int p0), .val (.int p1), .val (.int p2), .val (.int p3), .val (.int ((p0 &&& (2147483647 : Int32)) % (6 : Int32))), .val (.int (j1g_0 ((p0 &&& (2147483647 : Int32)) % (6 : Int32)) ((p1 &&& (2147483647 : Int32)) % (6 : Int32)))), .val (.ref b293), .val (.int (1 : Int32))] [])) _
                    refine XS.iload X491.here hx rfl (hb hby at_133) rfl ?_
                    show Steps p.tables e below (T491.setTop (mkF m 135 #[.val (.int p0), .val (.int p1), .val (.int p2), .val (.int p3), .val (.int ((p0 &&& (2147483647 : Int32)) % (6 : Int32))), .val (.int (j1g_0 ((p0 &&& (2147483647 : Int32)) % (6 : Int32)) ((p1 &&& (2147483647 : Int32)) % (6 : Int32)))), .val (.ref b293), .val (.int (1 : Int32))] [(.int (j1g_0 ((p0 &&& (2147483647 : Int32)) % (6 : Int32)) ((p1 &&& (2147483647 : Int32)) % (6 : Int32))))])) _
                    refine XS.iconst X491.here hx rfl (hb hby at_135) ?_
                    show Steps p.tables e below (T491.setTop (mkF m 136 #[.val (.int p0), .val (.int p1), .val (.int p2), .val (.int p3), .val (.int ((p0 &&& (2147483647 : Int32)) % (6 : Int32))), .val (.int (j1g_0 ((p0 &&& (2147483647 : Int32)) % (6 : Int32)) ((p1 &&& (2147483647 : Int32)) % (6 : Int32)))), .val (.ref b293), .val (.int (1 : Int32))] [(.int (3 : Int32)), (.int (j1g_0 ((p0 &&& (2147483647 : Int32)) % (6 : Int32)) ((p1 &&& (2147483647 : Int32)) % (6 : Int32))))])) _
                    refine XS.icmpYes X491.here hx rfl (pc0 := 136) (pc' := 145) rfl (hb hby at_136) rfl (flt (own_up hc499 (by decide))).2.2.2 (by decide) (by decide) ?_
                    show Steps p.tables e below (T491.setTop (mkF m 145 #[.val (.int p0), .val (.int p1), .val (.int p2), .val (.int p3), .val (.int ((p0 &&& (2147483647 : Int32)) % (6 : Int32))), .val (.int (j1g_0 ((p0 &&& (2147483647 : Int32)) % (6 : Int32)) ((p1 &&& (2147483647 : Int32)) % (6 : Int32)))), .val (.ref b293), .val (.int (1 : Int32))] [])) _
                    refine XS.iload X491.here hx rfl (hb hby at_145) rfl ?_
                    show Steps p.tables e below (T491.setTop (mkF m 147 #[.val (.int p0), .val (.int p1), .val (.int p2), .val (.int p3), .val (.int ((p0 &&& (2147483647 : Int32)) % (6 : Int32))), .val (.int (j1g_0 ((p0 &&& (2147483647 : Int32)) % (6 : Int32)) ((p1 &&& (2147483647 : Int32)) % (6 : Int32)))), .val (.ref b293), .val (.int (1 : Int32))] [(.int (j1g_0 ((p0 &&& (2147483647 : Int32)) % (6 : Int32)) ((p1 &&& (2147483647 : Int32)) % (6 : Int32))))])) _
                    refine XS.iconst X491.here hx rfl (hb hby at_147) ?_
                    show Steps p.tables e below (T491.setTop (mkF m 148 #[.val (.int p0), .val (.int p1), .val (.int p2), .val (.int p3), .val (.int ((p0 &&& (2147483647 : Int32)) % (6 : Int32))), .val (.int (j1g_0 ((p0 &&& (2147483647 : Int32)) % (6 : Int32)) ((p1 &&& (2147483647 : Int32)) % (6 : Int32)))), .val (.ref b293), .val (.int (1 : Int32))] [(.int (4 : Int32)), (.int (j1g_0 ((p0 &&& (2147483647 : Int32)) % (6 : Int32)) ((p1 &&& (2147483647 : Int32)) % (6 : Int32))))])) _
                    refine XS.icmpYes X491.here hx rfl (pc0 := 148) (pc' := 157) rfl (hb hby at_148) rfl (flt (own_mn (own_up hc351 (by decide)))).2.2.2 (by decide) (by decide) ?_
                    show Steps p.tables e below (T491.setTop (mkF m 157 #[.val (.int p0), .val (.int p1), .val (.int p2), .val (.int p3), .val (.int ((p0 &&& (2147483647 : Int32)) % (6 : Int32))), .val (.int (j1g_0 ((p0 &&& (2147483647 : Int32)) % (6 : Int32)) ((p1 &&& (2147483647 : Int32)) % (6 : Int32)))), .val (.ref b293), .val (.int (1 : Int32))] [])) _
                    refine XS.iload X491.here hx rfl (hb hby at_157) rfl ?_
                    show Steps p.tables e below (T491.setTop (mkF m 159 #[.val (.int p0), .val (.int p1), .val (.int p2), .val (.int p3), .val (.int ((p0 &&& (2147483647 : Int32)) % (6 : Int32))), .val (.int (j1g_0 ((p0 &&& (2147483647 : Int32)) % (6 : Int32)) ((p1 &&& (2147483647 : Int32)) % (6 : Int32)))), .val (.ref b293), .val (.int (1 : Int32))] [(.int (1 : Int32))])) _
                    refine XS.ifNo X491.here hx rfl (hb hby at_159) rfl ((if0 _ _).trans (feq (by decide : ¬ ((1 : Int32) = (0 : Int32)))).1) ?_
                    show Steps p.tables e below (T491.setTop (mkF m 162 #[.val (.int p0), .val (.int p1), .val (.int p2), .val (.int p3), .val (.int ((p0 &&& (2147483647 : Int32)) % (6 : Int32))), .val (.int (j1g_0 ((p0 &&& (2147483647 : Int32)) % (6 : Int32)) ((p1 &&& (2147483647 : Int32)) % (6 : Int32)))), .val (.ref b293), .val (.int (1 : Int32))] [])) _
                    refine XS.aload X491.here hx rfl (hb hby at_162) rfl rfl ?_
                    show Steps p.tables e below (T491.setTop (mkF m 164 #[.val (.int p0), .val (.int p1), .val (.int p2), .val (.int p3), .val (.int ((p0 &&& (2147483647 : Int32)) % (6 : Int32))), .val (.int (j1g_0 ((p0 &&& (2147483647 : Int32)) % (6 : Int32)) ((p1 &&& (2147483647 : Int32)) % (6 : Int32)))), .val (.ref b293), .val (.int (1 : Int32))] [(.ref b293)])) _
                    refine st539.trans ?_
                    show Steps p.tables e below (T539.setTop (mkF m 167 #[.val (.int p0), .val (.int p1), .val (.int p2), .val (.int p3), .val (.int ((p0 &&& (2147483647 : Int32)) % (6 : Int32))), .val (.int (j1g_0 ((p0 &&& (2147483647 : Int32)) % (6 : Int32)) ((p1 &&& (2147483647 : Int32)) % (6 : Int32)))), .val (.ref b293), .val (.int (1 : Int32))] [(.int (0 : Int32))])) _
                    refine XS.iload X539.here hx rfl (hb hby at_167) rfl ?_
                    show Steps p.tables e below (T539.setTop (mkF m 169 #[.val (.int p0), .val (.int p1), .val (.int p2), .val (.int p3), .val (.int ((p0 &&& (2147483647 : Int32)) % (6 : Int32))), .val (.int (j1g_0 ((p0 &&& (2147483647 : Int32)) % (6 : Int32)) ((p1 &&& (2147483647 : Int32)) % (6 : Int32)))), .val (.ref b293), .val (.int (1 : Int32))] [(.int ((p0 &&& (2147483647 : Int32)) % (6 : Int32))), (.int (0 : Int32))])) _
                    refine XS.iload X539.here hx rfl (hb hby at_169) rfl ?_
                    exact k)
                  have pre541 := fun (t : State) (k : Steps p.tables e below (T539.setTop (mkF m 179 #[.val (.int p0), .val (.int p1), .val (.int p2), .val (.int p3), .val (.int ((p0 &&& (2147483647 : Int32)) % (6 : Int32))), .val (.int (j1g_0 ((p0 &&& (2147483647 : Int32)) % (6 : Int32)) ((p1 &&& (2147483647 : Int32)) % (6 : Int32)))), .val (.ref b293), .val (.int (1 : Int32))] [(.int (j0_0 p0 p1)), (.int (0 : Int32))])) t) => pre540 t (by
                    by_cases hc542 : ((p0 &&& (2147483647 : Int32)) % (6 : Int32)) = (j1g_0 ((p0 &&& (2147483647 : Int32)) % (6 : Int32)) ((p1 &&& (2147483647 : Int32)) % (6 : Int32)))
                    · skip
                      show Steps p.tables e below (T539.setTop (mkF m 171 #[.val (.int p0), .val (.int p1), .val (.int p2), .val (.int p3), .val (.int ((p0 &&& (2147483647 : Int32)) % (6 : Int32))), .val (.int (j1g_0 ((p0 &&& (2147483647 : Int32)) % (6 : Int32)) ((p1 &&& (2147483647 : Int32)) % (6 : Int32)))), .val (.ref b293), .val (.int (1 : Int32))] [(.int (j1g_0 ((p0 &&& (2147483647 : Int32)) % (6 : Int32)) ((p1 &&& (2147483647 : Int32)) % (6 : Int32)))), (.int ((p0 &&& (2147483647 : Int32)) % (6 : Int32))), (.int (0 : Int32))])) _
                      refine XS.icmpNo X539.here hx rfl (hb hby at_171) rfl (teq hc542).2 ?_
                      show Steps p.tables e below (T539.setTop (mkF m 174 #[.val (.int p0), .val (.int p1), .val (.int p2), .val (.int p3), .val (.int ((p0 &&& (2147483647 : Int32)) % (6 : Int32))), .val (.int (j1g_0 ((p0 &&& (2147483647 : Int32)) % (6 : Int32)) ((p1 &&& (2147483647 : Int32)) % (6 : Int32)))), .val (.ref b293), .val (.int (1 : Int32))] [(.int (0 : Int32))])) _
                      refine XS.iconst X539.here hx rfl (hb hby at_174) ?_
                      show Steps p.tables e below (T539.setTop (mkF m 175 #[.val (.int p0), .val (.int p1), .val (.int p2), .val (.int p3), .val (.int ((p0 &&& (2147483647 : Int32)) % (6 : Int32))), .val (.int (j1g_0 ((p0 &&& (2147483647 : Int32)) % (6 : Int32)) ((p1 &&& (2147483647 : Int32)) % (6 : Int32)))), .val (.ref b293), .val (.int (1 : Int32))] [(.int (1 : Int32)), (.int (0 : Int32))])) _
                      refine XS.goto X539.here hx rfl (pc0 := 175) (pc' := 179) rfl (hb hby at_175) (by decide) (by decide) ?_
                      have hj543 : (j0_0 p0 p1) = (1 : Int32) := by unfold j0_0; first | (rw [if_pos hc542]) | (simp only [if_pos hc542])
                      rw [hj543] at k
                      exact k
                    · skip
                      show Steps p.tables e below (T539.setTop (mkF m 171 #[.val (.int p0), .val (.int p1), .val (.int p2), .val (.int p3), .val (.int ((p0 &&& (2147483647 : Int32)) % (6 : Int32))), .val (.int (j1g_0 ((p0 &&& (2147483647 : Int32)) % (6 : Int32)) ((p1 &&& (2147483647 : Int32)) % (6 : Int32)))), .val (.ref b293), .val (.int (1 : Int32))] [(.int (j1g_0 ((p0 &&& (2147483647 : Int32)) % (6 : Int32)) ((p1 &&& (2147483647 : Int32)) % (6 : Int32)))), (.int ((p0 &&& (2147483647 : Int32)) % (6 : Int32))), (.int (0 : Int32))])) _
                      refine XS.icmpYes X539.here hx rfl (pc0 := 171) (pc' := 178) rfl (hb hby at_171) rfl (feq hc542).2 (by decide) (by decide) ?_
                      show Steps p.tables e below (T539.setTop (mkF m 178 #[.val (.int p0), .val (.int p1), .val (.int p2), .val (.int p3), .val (.int ((p0 &&& (2147483647 : Int32)) % (6 : Int32))), .val (.int (j1g_0 ((p0 &&& (2147483647 : Int32)) % (6 : Int32)) ((p1 &&& (2147483647 : Int32)) % (6 : Int32)))), .val (.ref b293), .val (.int (1 : Int32))] [(.int (0 : Int32))])) _
                      refine XS.iconst X539.here hx rfl (hb hby at_178) ?_
                      have hj544 : (j0_0 p0 p1) = (0 : Int32) := by unfold j0_0; first | (rw [if_neg hc542]) | (simp only [if_neg hc542])
                      rw [hj544] at k
                      exact k)
                  have pre545 := fun (t : State) (k : Steps p.tables e below (T539.setTop (mkF m 187 #[.val (.int p0), .val (.int p1), .val (.int p2), .val (.int p3), .val (.int ((p0 &&& (2147483647 : Int32)) % (6 : Int32))), .val (.int (j1g_0 ((p0 &&& (2147483647 : Int32)) % (6 : Int32)) ((p1 &&& (2147483647 : Int32)) % (6 : Int32)))), .val (.ref b293), .val (.int (1 : Int32))] [(.int (j0_2 p0 p1))])) t) => pre541 t (by
                    by_cases hc546 : (0 : Int32) = (j0_0 p0 p1)
                    · skip
                      show Steps p.tables e below (T539.setTop (mkF m 179 #[.val (.int p0), .val (.int p1), .val (.int p2), .val (.int p3), .val (.int ((p0 &&& (2147483647 : Int32)) % (6 : Int32))), .val (.int (j1g_0 ((p0 &&& (2147483647 : Int32)) % (6 : Int32)) ((p1 &&& (2147483647 : Int32)) % (6 : Int32)))), .val (.ref b293), .val (.int (1 : Int32))] [(.int (j0_0 p0 p1)), (.int (0 : Int32))])) _
                      refine XS.icmpNo X539.here hx rfl (hb hby at_179) rfl (teq hc546).2 ?_
                      show Steps p.tables e below (T539.setTop (mkF m 182 #[.val (.int p0), .val (.int p1), .val (.int p2), .val (.int p3), .val (.int ((p0 &&& (2147483647 : Int32)) % (6 : Int32))), .val (.int (j1g_0 ((p0 &&& (2147483647 : Int32)) % (6 : Int32)) ((p1 &&& (2147483647 : Int32)) % (6 : Int32)))), .val (.ref b293), .val (.int (1 : Int32))] [])) _
                      refine XS.iconst X539.here hx rfl (hb hby at_182) ?_
                      show Steps p.tables e below (T539.setTop (mkF m 183 #[.val (.int p0), .val (.int p1), .val (.int p2), .val (.int p3), .val (.int ((p0 &&& (2147483647 : Int32)) % (6 : Int32))), .val (.int (j1g_0 ((p0 &&& (2147483647 : Int32)) % (6 : Int32)) ((p1 &&& (2147483647 : Int32)) % (6 : Int32)))), .val (.ref b293), .val (.int (1 : Int32))] [(.int (1 : Int32))])) _
                      refine XS.goto X539.here hx rfl (pc0 := 183) (pc' := 187) rfl (hb hby at_183) (by decide) (by decide) ?_
                      have hj547 : (j0_2 p0 p1) = (1 : Int32) := by unfold j0_2; first | (rw [if_pos hc546]) | (simp only [if_pos hc546])
                      rw [hj547] at k
                      exact k
                    · skip
                      show Steps p.tables e below (T539.setTop (mkF m 179 #[.val (.int p0), .val (.int p1), .val (.int p2), .val (.int p3), .val (.int ((p0 &&& (2147483647 : Int32)) % (6 : Int32))), .val (.int (j1g_0 ((p0 &&& (2147483647 : Int32)) % (6 : Int32)) ((p1 &&& (2147483647 : Int32)) % (6 : Int32)))), .val (.ref b293), .val (.int (1 : Int32))] [(.int (j0_0 p0 p1)), (.int (0 : Int32))])) _
                      refine XS.icmpYes X539.here hx rfl (pc0 := 179) (pc' := 186) rfl (hb hby at_179) rfl (feq hc546).2 (by decide) (by decide) ?_
                      show Steps p.tables e below (T539.setTop (mkF m 186 #[.val (.int p0), .val (.int p1), .val (.int p2), .val (.int p3), .val (.int ((p0 &&& (2147483647 : Int32)) % (6 : Int32))), .val (.int (j1g_0 ((p0 &&& (2147483647 : Int32)) % (6 : Int32)) ((p1 &&& (2147483647 : Int32)) % (6 : Int32)))), .val (.ref b293), .val (.int (1 : Int32))] [])) _
                      refine XS.iconst X539.here hx rfl (hb hby at_186) ?_
                      have hj548 : (j0_2 p0 p1) = (0 : Int32) := by unfold j0_2; first | (rw [if_neg hc546]) | (simp only [if_neg hc546])
                      rw [hj548] at k
                      exact k)
                  obtain ⟨fs, hr, hrun, hended, hW, hsame⟩ := X539.leave (v := some (.int (nar .boolean (j0_2 p0 p1)))) (fun h => by rw [Bd.returns] at h; cases h)
                  refine ⟨_, _, pre545 _ ?_, hrun, hended, _, _, rfl, ?_, ⟨_, rfl⟩, hW, hsame.mono (by decide) (by decide)⟩
                  · skip
                    show Steps p.tables e below (T539.setTop (mkF m 187 #[.val (.int p0), .val (.int p1), .val (.int p2), .val (.int p3), .val (.int ((p0 &&& (2147483647 : Int32)) % (6 : Int32))), .val (.int (j1g_0 ((p0 &&& (2147483647 : Int32)) % (6 : Int32)) ((p1 &&& (2147483647 : Int32)) % (6 : Int32)))), .val (.ref b293), .val (.int (1 : Int32))] [(.int (j0_2 p0 p1))])) _
                    exact retN X539 hx (t := .boolean) Bd.returns (by simp) (hb hby at_187) hr
                  · show Q0 Z p0 p1 p2 p3 h0 n0 _ T539.heap _
                    rw [e539]
                    have hv : (nar .boolean (j0_2 p0 p1)) = (v0 p0 p1) := by unfold v0; first | (rw [if_pos hc307, if_pos hc318, if_pos hc329, if_pos hc340, if_neg hc351, if_pos hc479, if_pos hc489, if_neg hc499]) | (simp only [if_pos hc307, if_pos hc318, if_pos hc329, if_pos hc340, if_neg hc351, if_pos hc479, if_pos hc489, if_neg hc499])
                    exact ⟨(by rw [← hv]), N539⟩
              · skip
                obtain ⟨cq549, kq549, q549a, q549b, q549c⟩ := isOf hZ e481 f482
                obtain ⟨_, _, ⟨T549, L549, k549, n549⟩, -, X549, ⟨Lc549, hQ549, l549, y549, z549⟩, st549⟩ := X481.virtualBack hx (y := (⟨"com/example/subsumer/subsumer/classification/IntList", "isEmpty", "()Z"⟩ : MethodName)) (z := (⟨"com/example/subsumer/subsumer/classification/IntList", "isEmpty", "()Z"⟩ : MethodName)) hown (mvT hZ (hw _ (List.mem_of_getElem? (i := 17) rfl))) (mvT hZ (hw _ (List.mem_of_getElem? (i := 18) rfl))) (notFace_of_selects (args := #[]) (mvT hZ (hw _ (List.mem_of_getElem? (i := 20) rfl)))) (mvT hZ (hw _ (List.mem_of_getElem? (i := 20) rfl))) (mvT hZ (hw _ (List.mem_of_getElem? (i := 19) rfl))) (by decide) (backOf (W := 0) (rm4_3 l Z aw hw [] b293 h481 n0 Z481 f482 f483) hZ (hw _ (List.mem_of_getElem? (i := 21) rfl)) (hw _ (List.mem_of_getElem? (i := 7) rfl)) (by decide) (by decide)) q549a q549c (g := (mkF m 164 #[.val (.int p0), .val (.int p1), .val (.int p2), .val (.int p3), .val (.int ((p0 &&& (2147483647 : Int32)) % (6 : Int32))), .val (.int (j1g_0 ((p0 &&& (2147483647 : Int32)) % (6 : Int32)) ((p1 &&& (2147483647 : Int32)) % (6 : Int32)))), .val (.ref b293), .val (.int (1 : Int32))] [(.ref b293)])) rfl (by rw [hml]; rfl) (Steps.refl _) (argsL := []) (rest := []) (lenOf pd_5 rfl) rfl (by show 2 * 0 + _ ≤ _; exact Nat.le_of_eq rfl) (hb hby at_164) (fun _ _ => ⟨rfl, e481, (by decide : 2 + 0 ≤ _), (by decide : 6 + 0 ≤ _)⟩)
                dsimp only [Pt.U, Pt.locs, Pt.cells, Pt.slots] at X549 l549 y549 z549 st549 hQ549
                subst l549 y549 z549
                obtain ⟨rfl, N549q, e549⟩ := hQ549
                have N549 := Fr.app N481 N549q
                have pre550 := fun (t : State) (k : Steps p.tables e below (T549.setTop (mkF m 171 #[.val (.int p0), .val (.int p1), .val (.int p2), .val (.int p3), .val (.int ((p0 &&& (2147483647 : Int32)) % (6 : Int32))), .val (.int (j1g_0 ((p0 &&& (2147483647 : Int32)) % (6 : Int32)) ((p1 &&& (2147483647 : Int32)) % (6 : Int32)))), .val (.ref b293), .val (.int (1 : Int32))] [(.int (j1g_0 ((p0 &&& (2147483647 : Int32)) % (6 : Int32)) ((p1 &&& (2147483647 : Int32)) % (6 : Int32)))), (.int ((p0 &&& (2147483647 : Int32)) % (6 : Int32))), (.int (0 : Int32))])) t) => pre490 t (by
                  show Steps p.tables e below (T481.setTop (mkF m 112 #[.val (.int p0), .val (.int p1), .val (.int p2), .val (.int p3), .val (.int ((p0 &&& (2147483647 : Int32)) % (6 : Int32))), .val (.int (j1g_0 ((p0 &&& (2147483647 : Int32)) % (6 : Int32)) ((p1 &&& (2147483647 : Int32)) % (6 : Int32)))), .val (.ref b293), .val (.int (1 : Int32))] [(.int (1 : Int32)), (.int (j1g_0 ((p0 &&& (2147483647 : Int32)) % (6 : Int32)) ((p1 &&& (2147483647 : Int32)) % (6 : Int32))))])) _
                  refine XS.icmpYes X481.here hx rfl (pc0 := 112) (pc' := 121) rfl (hb hby at_112) rfl (flt hc489).2.2.2 (by decide) (by decide) ?_
                  show Steps p.tables e below (T481.setTop (mkF m 121 #[.val (.int p0), .val (.int p1), .val (.int p2), .val (.int p3), .val (.int ((p0 &&& (2147483647 : Int32)) % (6 : Int32))), .val (.int (j1g_0 ((p0 &&& (2147483647 : Int32)) % (6 : Int32)) ((p1 &&& (2147483647 : Int32)) % (6 : Int32)))), .val (.ref b293), .val (.int (1 : Int32))] [])) _
                  refine XS.iload X481.here hx rfl (hb hby at_121) rfl ?_
                  show Steps p.tables e below (T481.setTop (mkF m 123 #[.val (.int p0), .val (.int p1), .val (.int p2), .val (.int p3), .val (.int ((p0 &&& (2147483647 : Int32)) % (6 : Int32))), .val (.int (j1g_0 ((p0 &&& (2147483647 : Int32)) % (6 : Int32)) ((p1 &&& (2147483647 : Int32)) % (6 : Int32)))), .val (.ref b293), .val (.int (1 : Int32))] [(.int (j1g_0 ((p0 &&& (2147483647 : Int32)) % (6 : Int32)) ((p1 &&& (2147483647 : Int32)) % (6 : Int32))))])) _
                  refine XS.iconst X481.here hx rfl (hb hby at_123) ?_
                  show Steps p.tables e below (T481.setTop (mkF m 124 #[.val (.int p0), .val (.int p1), .val (.int p2), .val (.int p3), .val (.int ((p0 &&& (2147483647 : Int32)) % (6 : Int32))), .val (.int (j1g_0 ((p0 &&& (2147483647 : Int32)) % (6 : Int32)) ((p1 &&& (2147483647 : Int32)) % (6 : Int32)))), .val (.ref b293), .val (.int (1 : Int32))] [(.int (2 : Int32)), (.int (j1g_0 ((p0 &&& (2147483647 : Int32)) % (6 : Int32)) ((p1 &&& (2147483647 : Int32)) % (6 : Int32))))])) _
                  refine XS.icmpYes X481.here hx rfl (pc0 := 124) (pc' := 133) rfl (hb hby at_124) rfl (flt (own_up hc489 (by decide))).2.2.2 (by decide) (by decide) ?_
                  show Steps p.tables e below (T481.setTop (mkF m 133 #[.val (.int p0), .val (.int p1), .val (.int p2), .val (.int p3), .val (.int ((p0 &&& (2147483647 : Int32)) % (6 : Int32))), .val (.int (j1g_0 ((p0 &&& (2147483647 : Int32)) % (6 : Int32)) ((p1 &&& (2147483647 : Int32)) % (6 : Int32)))), .val (.ref b293), .val (.int (1 : Int32))] [])) _
                  refine XS.iload X481.here hx rfl (hb hby at_133) rfl ?_
                  show Steps p.tables e below (T481.setTop (mkF m 135 #[.val (.int p0), .val (.int p1), .val (.int p2), .val (.int p3), .val (.int ((p0 &&& (2147483647 : Int32)) % (6 : Int32))), .val (.int (j1g_0 ((p0 &&& (2147483647 : Int32)) % (6 : Int32)) ((p1 &&& (2147483647 : Int32)) % (6 : Int32)))), .val (.ref b293), .val (.int (1 : Int32))] [(.int (j1g_0 ((p0 &&& (2147483647 : Int32)) % (6 : Int32)) ((p1 &&& (2147483647 : Int32)) % (6 : Int32))))])) _
                  refine XS.iconst X481.here hx rfl (hb hby at_135) ?_
                  show Steps p.tables e below (T481.setTop (mkF m 136 #[.val (.int p0), .val (.int p1), .val (.int p2), .val (.int p3), .val (.int ((p0 &&& (2147483647 : Int32)) % (6 : Int32))), .val (.int (j1g_0 ((p0 &&& (2147483647 : Int32)) % (6 : Int32)) ((p1 &&& (2147483647 : Int32)) % (6 : Int32)))), .val (.ref b293), .val (.int (1 : Int32))] [(.int (3 : Int32)), (.int (j1g_0 ((p0 &&& (2147483647 : Int32)) % (6 : Int32)) ((p1 &&& (2147483647 : Int32)) % (6 : Int32))))])) _
                  refine XS.icmpYes X481.here hx rfl (pc0 := 136) (pc' := 145) rfl (hb hby at_136) rfl (flt (own_up hc489 (by decide))).2.2.2 (by decide) (by decide) ?_
                  show Steps p.tables e below (T481.setTop (mkF m 145 #[.val (.int p0), .val (.int p1), .val (.int p2), .val (.int p3), .val (.int ((p0 &&& (2147483647 : Int32)) % (6 : Int32))), .val (.int (j1g_0 ((p0 &&& (2147483647 : Int32)) % (6 : Int32)) ((p1 &&& (2147483647 : Int32)) % (6 : Int32)))), .val (.ref b293), .val (.int (1 : Int32))] [])) _
                  refine XS.iload X481.here hx rfl (hb hby at_145) rfl ?_
                  show Steps p.tables e below (T481.setTop (mkF m 147 #[.val (.int p0), .val (.int p1), .val (.int p2), .val (.int p3), .val (.int ((p0 &&& (2147483647 : Int32)) % (6 : Int32))), .val (.int (j1g_0 ((p0 &&& (2147483647 : Int32)) % (6 : Int32)) ((p1 &&& (2147483647 : Int32)) % (6 : Int32)))), .val (.ref b293), .val (.int (1 : Int32))] [(.int (j1g_0 ((p0 &&& (2147483647 : Int32)) % (6 : Int32)) ((p1 &&& (2147483647 : Int32)) % (6 : Int32))))])) _
                  refine XS.iconst X481.here hx rfl (hb hby at_147) ?_
                  show Steps p.tables e below (T481.setTop (mkF m 148 #[.val (.int p0), .val (.int p1), .val (.int p2), .val (.int p3), .val (.int ((p0 &&& (2147483647 : Int32)) % (6 : Int32))), .val (.int (j1g_0 ((p0 &&& (2147483647 : Int32)) % (6 : Int32)) ((p1 &&& (2147483647 : Int32)) % (6 : Int32)))), .val (.ref b293), .val (.int (1 : Int32))] [(.int (4 : Int32)), (.int (j1g_0 ((p0 &&& (2147483647 : Int32)) % (6 : Int32)) ((p1 &&& (2147483647 : Int32)) % (6 : Int32))))])) _
                  refine XS.icmpYes X481.here hx rfl (pc0 := 148) (pc' := 157) rfl (hb hby at_148) rfl (flt (own_mn (own_up hc351 (by decide)))).2.2.2 (by decide) (by decide) ?_
                  show Steps p.tables e below (T481.setTop (mkF m 157 #[.val (.int p0), .val (.int p1), .val (.int p2), .val (.int p3), .val (.int ((p0 &&& (2147483647 : Int32)) % (6 : Int32))), .val (.int (j1g_0 ((p0 &&& (2147483647 : Int32)) % (6 : Int32)) ((p1 &&& (2147483647 : Int32)) % (6 : Int32)))), .val (.ref b293), .val (.int (1 : Int32))] [])) _
                  refine XS.iload X481.here hx rfl (hb hby at_157) rfl ?_
                  show Steps p.tables e below (T481.setTop (mkF m 159 #[.val (.int p0), .val (.int p1), .val (.int p2), .val (.int p3), .val (.int ((p0 &&& (2147483647 : Int32)) % (6 : Int32))), .val (.int (j1g_0 ((p0 &&& (2147483647 : Int32)) % (6 : Int32)) ((p1 &&& (2147483647 : Int32)) % (6 : Int32)))), .val (.ref b293), .val (.int (1 : Int32))] [(.int (1 : Int32))])) _
                  refine XS.ifNo X481.here hx rfl (hb hby at_159) rfl ((if0 _ _).trans (feq (by decide : ¬ ((1 : Int32) = (0 : Int32)))).1) ?_
                  show Steps p.tables e below (T481.setTop (mkF m 162 #[.val (.int p0), .val (.int p1), .val (.int p2), .val (.int p3), .val (.int ((p0 &&& (2147483647 : Int32)) % (6 : Int32))), .val (.int (j1g_0 ((p0 &&& (2147483647 : Int32)) % (6 : Int32)) ((p1 &&& (2147483647 : Int32)) % (6 : Int32)))), .val (.ref b293), .val (.int (1 : Int32))] [])) _
                  refine XS.aload X481.here hx rfl (hb hby at_162) rfl rfl ?_
                  show Steps p.tables e below (T481.setTop (mkF m 164 #[.val (.int p0), .val (.int p1), .val (.int p2), .val (.int p3), .val (.int ((p0 &&& (2147483647 : Int32)) % (6 : Int32))), .val (.int (j1g_0 ((p0 &&& (2147483647 : Int32)) % (6 : Int32)) ((p1 &&& (2147483647 : Int32)) % (6 : Int32)))), .val (.ref b293), .val (.int (1 : Int32))] [(.ref b293)])) _
                  refine st549.trans ?_
                  show Steps p.tables e below (T549.setTop (mkF m 167 #[.val (.int p0), .val (.int p1), .val (.int p2), .val (.int p3), .val (.int ((p0 &&& (2147483647 : Int32)) % (6 : Int32))), .val (.int (j1g_0 ((p0 &&& (2147483647 : Int32)) % (6 : Int32)) ((p1 &&& (2147483647 : Int32)) % (6 : Int32)))), .val (.ref b293), .val (.int (1 : Int32))] [(.int (0 : Int32))])) _
                  refine XS.iload X549.here hx rfl (hb hby at_167) rfl ?_
                  show Steps p.tables e below (T549.setTop (mkF m 169 #[.val (.int p0), .val (.int p1), .val (.int p2), .val (.int p3), .val (.int ((p0 &&& (2147483647 : Int32)) % (6 : Int32))), .val (.int (j1g_0 ((p0 &&& (2147483647 : Int32)) % (6 : Int32)) ((p1 &&& (2147483647 : Int32)) % (6 : Int32)))), .val (.ref b293), .val (.int (1 : Int32))] [(.int ((p0 &&& (2147483647 : Int32)) % (6 : Int32))), (.int (0 : Int32))])) _
                  refine XS.iload X549.here hx rfl (hb hby at_169) rfl ?_
                  exact k)
                have pre551 := fun (t : State) (k : Steps p.tables e below (T549.setTop (mkF m 179 #[.val (.int p0), .val (.int p1), .val (.int p2), .val (.int p3), .val (.int ((p0 &&& (2147483647 : Int32)) % (6 : Int32))), .val (.int (j1g_0 ((p0 &&& (2147483647 : Int32)) % (6 : Int32)) ((p1 &&& (2147483647 : Int32)) % (6 : Int32)))), .val (.ref b293), .val (.int (1 : Int32))] [(.int (j0_0 p0 p1)), (.int (0 : Int32))])) t) => pre550 t (by
                  by_cases hc552 : ((p0 &&& (2147483647 : Int32)) % (6 : Int32)) = (j1g_0 ((p0 &&& (2147483647 : Int32)) % (6 : Int32)) ((p1 &&& (2147483647 : Int32)) % (6 : Int32)))
                  · skip
                    show Steps p.tables e below (T549.setTop (mkF m 171 #[.val (.int p0), .val (.int p1), .val (.int p2), .val (.int p3), .val (.int ((p0 &&& (2147483647 : Int32)) % (6 : Int32))), .val (.int (j1g_0 ((p0 &&& (2147483647 : Int32)) % (6 : Int32)) ((p1 &&& (2147483647 : Int32)) % (6 : Int32)))), .val (.ref b293), .val (.int (1 : Int32))] [(.int (j1g_0 ((p0 &&& (2147483647 : Int32)) % (6 : Int32)) ((p1 &&& (2147483647 : Int32)) % (6 : Int32)))), (.int ((p0 &&& (2147483647 : Int32)) % (6 : Int32))), (.int (0 : Int32))])) _
                    refine XS.icmpNo X549.here hx rfl (hb hby at_171) rfl (teq hc552).2 ?_
                    show Steps p.tables e below (T549.setTop (mkF m 174 #[.val (.int p0), .val (.int p1), .val (.int p2), .val (.int p3), .val (.int ((p0 &&& (2147483647 : Int32)) % (6 : Int32))), .val (.int (j1g_0 ((p0 &&& (2147483647 : Int32)) % (6 : Int32)) ((p1 &&& (2147483647 : Int32)) % (6 : Int32)))), .val (.ref b293), .val (.int (1 : Int32))] [(.int (0 : Int32))])) _
                    refine XS.iconst X549.here hx rfl (hb hby at_174) ?_
                    show Steps p.tables e below (T549.setTop (mkF m 175 #[.val (.int p0), .val (.int p1), .val (.int p2), .val (.int p3), .val (.int ((p0 &&& (2147483647 : Int32)) % (6 : Int32))), .val (.int (j1g_0 ((p0 &&& (2147483647 : Int32)) % (6 : Int32)) ((p1 &&& (2147483647 : Int32)) % (6 : Int32)))), .val (.ref b293), .val (.int (1 : Int32))] [(.int (1 : Int32)), (.int (0 : Int32))])) _
                    refine XS.goto X549.here hx rfl (pc0 := 175) (pc' := 179) rfl (hb hby at_175) (by decide) (by decide) ?_
                    have hj553 : (j0_0 p0 p1) = (1 : Int32) := by unfold j0_0; first | (rw [if_pos hc552]) | (simp only [if_pos hc552])
                    rw [hj553] at k
                    exact k
                  · skip
                    show Steps p.tables e below (T549.setTop (mkF m 171 #[.val (.int p0), .val (.int p1), .val (.int p2), .val (.int p3), .val (.int ((p0 &&& (2147483647 : Int32)) % (6 : Int32))), .val (.int (j1g_0 ((p0 &&& (2147483647 : Int32)) % (6 : Int32)) ((p1 &&& (2147483647 : Int32)) % (6 : Int32)))), .val (.ref b293), .val (.int (1 : Int32))] [(.int (j1g_0 ((p0 &&& (2147483647 : Int32)) % (6 : Int32)) ((p1 &&& (2147483647 : Int32)) % (6 : Int32)))), (.int ((p0 &&& (2147483647 : Int32)) % (6 : Int32))), (.int (0 : Int32))])) _
                    refine XS.icmpYes X549.here hx rfl (pc0 := 171) (pc' := 178) rfl (hb hby at_171) rfl (feq hc552).2 (by decide) (by decide) ?_
                    show Steps p.tables e below (T549.setTop (mkF m 178 #[.val (.int p0), .val (.int p1), .val (.int p2), .val (.int p3), .val (.int ((p0 &&& (2147483647 : Int32)) % (6 : Int32))), .val (.int (j1g_0 ((p0 &&& (2147483647 : Int32)) % (6 : Int32)) ((p1 &&& (2147483647 : Int32)) % (6 : Int32)))), .val (.ref b293), .val (.int (1 : Int32))] [(.int (0 : Int32))])) _
                    refine XS.iconst X549.here hx rfl (hb hby at_178) ?_
                    have hj554 : (j0_0 p0 p1) = (0 : Int32) := by unfold j0_0; first | (rw [if_neg hc552]) | (simp only [if_neg hc552])
                    rw [hj554] at k
                    exact k)
                have pre555 := fun (t : State) (k : Steps p.tables e below (T549.setTop (mkF m 187 #[.val (.int p0), .val (.int p1), .val (.int p2), .val (.int p3), .val (.int ((p0 &&& (2147483647 : Int32)) % (6 : Int32))), .val (.int (j1g_0 ((p0 &&& (2147483647 : Int32)) % (6 : Int32)) ((p1 &&& (2147483647 : Int32)) % (6 : Int32)))), .val (.ref b293), .val (.int (1 : Int32))] [(.int (j0_2 p0 p1))])) t) => pre551 t (by
                  by_cases hc556 : (0 : Int32) = (j0_0 p0 p1)
                  · skip
                    show Steps p.tables e below (T549.setTop (mkF m 179 #[.val (.int p0), .val (.int p1), .val (.int p2), .val (.int p3), .val (.int ((p0 &&& (2147483647 : Int32)) % (6 : Int32))), .val (.int (j1g_0 ((p0 &&& (2147483647 : Int32)) % (6 : Int32)) ((p1 &&& (2147483647 : Int32)) % (6 : Int32)))), .val (.ref b293), .val (.int (1 : Int32))] [(.int (j0_0 p0 p1)), (.int (0 : Int32))])) _
                    refine XS.icmpNo X549.here hx rfl (hb hby at_179) rfl (teq hc556).2 ?_
                    show Steps p.tables e below (T549.setTop (mkF m 182 #[.val (.int p0), .val (.int p1), .val (.int p2), .val (.int p3), .val (.int ((p0 &&& (2147483647 : Int32)) % (6 : Int32))), .val (.int (j1g_0 ((p0 &&& (2147483647 : Int32)) % (6 : Int32)) ((p1 &&& (2147483647 : Int32)) % (6 : Int32)))), .val (.ref b293), .val (.int (1 : Int32))] [])) _
                    refine XS.iconst X549.here hx rfl (hb hby at_182) ?_
                    show Steps p.tables e below (T549.setTop (mkF m 183 #[.val (.int p0), .val (.int p1), .val (.int p2), .val (.int p3), .val (.int ((p0 &&& (2147483647 : Int32)) % (6 : Int32))), .val (.int (j1g_0 ((p0 &&& (2147483647 : Int32)) % (6 : Int32)) ((p1 &&& (2147483647 : Int32)) % (6 : Int32)))), .val (.ref b293), .val (.int (1 : Int32))] [(.int (1 : Int32))])) _
                    refine XS.goto X549.here hx rfl (pc0 := 183) (pc' := 187) rfl (hb hby at_183) (by decide) (by decide) ?_
                    have hj557 : (j0_2 p0 p1) = (1 : Int32) := by unfold j0_2; first | (rw [if_pos hc556]) | (simp only [if_pos hc556])
                    rw [hj557] at k
                    exact k
                  · skip
                    show Steps p.tables e below (T549.setTop (mkF m 179 #[.val (.int p0), .val (.int p1), .val (.int p2), .val (.int p3), .val (.int ((p0 &&& (2147483647 : Int32)) % (6 : Int32))), .val (.int (j1g_0 ((p0 &&& (2147483647 : Int32)) % (6 : Int32)) ((p1 &&& (2147483647 : Int32)) % (6 : Int32)))), .val (.ref b293), .val (.int (1 : Int32))] [(.int (j0_0 p0 p1)), (.int (0 : Int32))])) _
                    refine XS.icmpYes X549.here hx rfl (pc0 := 179) (pc' := 186) rfl (hb hby at_179) rfl (feq hc556).2 (by decide) (by decide) ?_
                    show Steps p.tables e below (T549.setTop (mkF m 186 #[.val (.int p0), .val (.int p1), .val (.int p2), .val (.int p3), .val (.int ((p0 &&& (2147483647 : Int32)) % (6 : Int32))), .val (.int (j1g_0 ((p0 &&& (2147483647 : Int32)) % (6 : Int32)) ((p1 &&& (2147483647 : Int32)) % (6 : Int32)))), .val (.ref b293), .val (.int (1 : Int32))] [])) _
                    refine XS.iconst X549.here hx rfl (hb hby at_186) ?_
                    have hj558 : (j0_2 p0 p1) = (0 : Int32) := by unfold j0_2; first | (rw [if_neg hc556]) | (simp only [if_neg hc556])
                    rw [hj558] at k
                    exact k)
                obtain ⟨fs, hr, hrun, hended, hW, hsame⟩ := X549.leave (v := some (.int (nar .boolean (j0_2 p0 p1)))) (fun h => by rw [Bd.returns] at h; cases h)
                refine ⟨_, _, pre555 _ ?_, hrun, hended, _, _, rfl, ?_, ⟨_, rfl⟩, hW, hsame.mono (by decide) (by decide)⟩
                · skip
                  show Steps p.tables e below (T549.setTop (mkF m 187 #[.val (.int p0), .val (.int p1), .val (.int p2), .val (.int p3), .val (.int ((p0 &&& (2147483647 : Int32)) % (6 : Int32))), .val (.int (j1g_0 ((p0 &&& (2147483647 : Int32)) % (6 : Int32)) ((p1 &&& (2147483647 : Int32)) % (6 : Int32)))), .val (.ref b293), .val (.int (1 : Int32))] [(.int (j0_2 p0 p1))])) _
                  exact retN X549 hx (t := .boolean) Bd.returns (by simp) (hb hby at_187) hr
                · show Q0 Z p0 p1 p2 p3 h0 n0 _ T549.heap _
                  rw [e549]
                  have hv : (nar .boolean (j0_2 p0 p1)) = (v0 p0 p1) := by unfold v0; first | (rw [if_pos hc307, if_pos hc318, if_pos hc329, if_pos hc340, if_neg hc351, if_pos hc479, if_neg hc489]) | (simp only [if_pos hc307, if_pos hc318, if_pos hc329, if_pos hc340, if_neg hc351, if_pos hc479, if_neg hc489])
                  exact ⟨(by rw [← hv]), N549⟩
            · skip
              obtain ⟨cq559, kq559, q559a, q559b, q559c⟩ := isOf hZ e342 f343
              obtain ⟨_, _, ⟨T559, L559, k559, n559⟩, -, X559, ⟨Lc559, hQ559, l559, y559, z559⟩, st559⟩ := X342.virtualBack hx (y := (⟨"com/example/subsumer/subsumer/classification/IntList", "isEmpty", "()Z"⟩ : MethodName)) (z := (⟨"com/example/subsumer/subsumer/classification/IntList", "isEmpty", "()Z"⟩ : MethodName)) hown (mvT hZ (hw _ (List.mem_of_getElem? (i := 17) rfl))) (mvT hZ (hw _ (List.mem_of_getElem? (i := 18) rfl))) (notFace_of_selects (args := #[]) (mvT hZ (hw _ (List.mem_of_getElem? (i := 20) rfl)))) (mvT hZ (hw _ (List.mem_of_getElem? (i := 20) rfl))) (mvT hZ (hw _ (List.mem_of_getElem? (i := 19) rfl))) (by decide) (backOf (W := 0) (rm4_4 l Z aw hw [] b293 h342 n0 Z342 f343 f344) hZ (hw _ (List.mem_of_getElem? (i := 21) rfl)) (hw _ (List.mem_of_getElem? (i := 7) rfl)) (by decide) (by decide)) q559a q559c (g := (mkF m 164 #[.val (.int p0), .val (.int p1), .val (.int p2), .val (.int p3), .val (.int ((p0 &&& (2147483647 : Int32)) % (6 : Int32))), .val (.int (j1g_0 ((p0 &&& (2147483647 : Int32)) % (6 : Int32)) ((p1 &&& (2147483647 : Int32)) % (6 : Int32)))), .val (.ref b293), .val (.int (1 : Int32))] [(.ref b293)])) rfl (by rw [hml]; rfl) (Steps.refl _) (argsL := []) (rest := []) (lenOf pd_5 rfl) rfl (by show 2 * 0 + _ ≤ _; exact Nat.le_of_eq rfl) (hb hby at_164) (fun _ _ => ⟨rfl, e342, (by decide : 2 + 0 ≤ _), (by decide : 6 + 0 ≤ _)⟩)
              dsimp only [Pt.U, Pt.locs, Pt.cells, Pt.slots] at X559 l559 y559 z559 st559 hQ559
              subst l559 y559 z559
              obtain ⟨rfl, N559q, e559⟩ := hQ559
              have N559 := Fr.app N342 N559q
              have pre560 := fun (t : State) (k : Steps p.tables e below (T559.setTop (mkF m 171 #[.val (.int p0), .val (.int p1), .val (.int p2), .val (.int p3), .val (.int ((p0 &&& (2147483647 : Int32)) % (6 : Int32))), .val (.int (j1g_0 ((p0 &&& (2147483647 : Int32)) % (6 : Int32)) ((p1 &&& (2147483647 : Int32)) % (6 : Int32)))), .val (.ref b293), .val (.int (1 : Int32))] [(.int (j1g_0 ((p0 &&& (2147483647 : Int32)) % (6 : Int32)) ((p1 &&& (2147483647 : Int32)) % (6 : Int32)))), (.int ((p0 &&& (2147483647 : Int32)) % (6 : Int32))), (.int (0 : Int32))])) t) => pre480 t (by
                show Steps p.tables e below (T342.setTop (mkF m 100 #[.val (.int p0), .val (.int p1), .val (.int p2), .val (.int p3), .val (.int ((p0 &&& (2147483647 : Int32)) % (6 : Int32))), .val (.int (j1g_0 ((p0 &&& (2147483647 : Int32)) % (6 : Int32)) ((p1 &&& (2147483647 : Int32)) % (6 : Int32)))), .val (.ref b293), .val (.int (1 : Int32))] [(.int (j1g_0 ((p0 &&& (2147483647 : Int32)) % (6 : Int32)) ((p1 &&& (2147483647 : Int32)) % (6 : Int32))))])) _
                refine XS.ifYes X342.here hx rfl (pc0 := 100) (pc' := 109) rfl (hb hby at_100) rfl ((if0 _ _).trans (flt hc479).2.2.2) (by decide) (by decide) ?_
                show Steps p.tables e below (T342.setTop (mkF m 109 #[.val (.int p0), .val (.int p1), .val (.int p2), .val (.int p3), .val (.int ((p0 &&& (2147483647 : Int32)) % (6 : Int32))), .val (.int (j1g_0 ((p0 &&& (2147483647 : Int32)) % (6 : Int32)) ((p1 &&& (2147483647 : Int32)) % (6 : Int32)))), .val (.ref b293), .val (.int (1 : Int32))] [])) _
                refine XS.iload X342.here hx rfl (hb hby at_109) rfl ?_
                show Steps p.tables e below (T342.setTop (mkF m 111 #[.val (.int p0), .val (.int p1), .val (.int p2), .val (.int p3), .val (.int ((p0 &&& (2147483647 : Int32)) % (6 : Int32))), .val (.int (j1g_0 ((p0 &&& (2147483647 : Int32)) % (6 : Int32)) ((p1 &&& (2147483647 : Int32)) % (6 : Int32)))), .val (.ref b293), .val (.int (1 : Int32))] [(.int (j1g_0 ((p0 &&& (2147483647 : Int32)) % (6 : Int32)) ((p1 &&& (2147483647 : Int32)) % (6 : Int32))))])) _
                refine XS.iconst X342.here hx rfl (hb hby at_111) ?_
                show Steps p.tables e below (T342.setTop (mkF m 112 #[.val (.int p0), .val (.int p1), .val (.int p2), .val (.int p3), .val (.int ((p0 &&& (2147483647 : Int32)) % (6 : Int32))), .val (.int (j1g_0 ((p0 &&& (2147483647 : Int32)) % (6 : Int32)) ((p1 &&& (2147483647 : Int32)) % (6 : Int32)))), .val (.ref b293), .val (.int (1 : Int32))] [(.int (1 : Int32)), (.int (j1g_0 ((p0 &&& (2147483647 : Int32)) % (6 : Int32)) ((p1 &&& (2147483647 : Int32)) % (6 : Int32))))])) _
                refine XS.icmpYes X342.here hx rfl (pc0 := 112) (pc' := 121) rfl (hb hby at_112) rfl (flt (own_up hc479 (by decide))).2.2.2 (by decide) (by decide) ?_
                show Steps p.tables e below (T342.setTop (mkF m 121 #[.val (.int p0), .val (.int p1), .val (.int p2), .val (.int p3), .val (.int ((p0 &&& (2147483647 : Int32)) % (6 : Int32))), .val (.int (j1g_0 ((p0 &&& (2147483647 : Int32)) % (6 : Int32)) ((p1 &&& (2147483647 : Int32)) % (6 : Int32)))), .val (.ref b293), .val (.int (1 : Int32))] [])) _
                refine XS.iload X342.here hx rfl (hb hby at_121) rfl ?_
                show Steps p.tables e below (T342.setTop (mkF m 123 #[.val (.int p0), .val (.int p1), .val (.int p2), .val (.int p3), .val (.int ((p0 &&& (2147483647 : Int32)) % (6 : Int32))), .val (.int (j1g_0 ((p0 &&& (2147483647 : Int32)) % (6 : Int32)) ((p1 &&& (2147483647 : Int32)) % (6 : Int32)))), .val (.ref b293), .val (.int (1 : Int32))] [(.int (j1g_0 ((p0 &&& (2147483647 : Int32)) % (6 : Int32)) ((p1 &&& (2147483647 : Int32)) % (6 : Int32))))])) _
                refine XS.iconst X342.here hx rfl (hb hby at_123) ?_
                show Steps p.tables e below (T342.setTop (mkF m 124 #[.val (.int p0), .val (.int p1), .val (.int p2), .val (.int p3), .val (.int ((p0 &&& (2147483647 : Int32)) % (6 : Int32))), .val (.int (j1g_0 ((p0 &&& (2147483647 : Int32)) % (6 : Int32)) ((p1 &&& (2147483647 : Int32)) % (6 : Int32)))), .val (.ref b293), .val (.int (1 : Int32))] [(.int (2 : Int32)), (.int (j1g_0 ((p0 &&& (2147483647 : Int32)) % (6 : Int32)) ((p1 &&& (2147483647 : Int32)) % (6 : Int32))))])) _
                refine XS.icmpYes X342.here hx rfl (pc0 := 124) (pc' := 133) rfl (hb hby at_124) rfl (flt (own_up hc479 (by decide))).2.2.2 (by decide) (by decide) ?_
                show Steps p.tables e below (T342.setTop (mkF m 133 #[.val (.int p0), .val (.int p1), .val (.int p2), .val (.int p3), .val (.int ((p0 &&& (2147483647 : Int32)) % (6 : Int32))), .val (.int (j1g_0 ((p0 &&& (2147483647 : Int32)) % (6 : Int32)) ((p1 &&& (2147483647 : Int32)) % (6 : Int32)))), .val (.ref b293), .val (.int (1 : Int32))] [])) _
                refine XS.iload X342.here hx rfl (hb hby at_133) rfl ?_
                show Steps p.tables e below (T342.setTop (mkF m 135 #[.val (.int p0), .val (.int p1), .val (.int p2), .val (.int p3), .val (.int ((p0 &&& (2147483647 : Int32)) % (6 : Int32))), .val (.int (j1g_0 ((p0 &&& (2147483647 : Int32)) % (6 : Int32)) ((p1 &&& (2147483647 : Int32)) % (6 : Int32)))), .val (.ref b293), .val (.int (1 : Int32))] [(.int (j1g_0 ((p0 &&& (2147483647 : Int32)) % (6 : Int32)) ((p1 &&& (2147483647 : Int32)) % (6 : Int32))))])) _
                refine XS.iconst X342.here hx rfl (hb hby at_135) ?_
                show Steps p.tables e below (T342.setTop (mkF m 136 #[.val (.int p0), .val (.int p1), .val (.int p2), .val (.int p3), .val (.int ((p0 &&& (2147483647 : Int32)) % (6 : Int32))), .val (.int (j1g_0 ((p0 &&& (2147483647 : Int32)) % (6 : Int32)) ((p1 &&& (2147483647 : Int32)) % (6 : Int32)))), .val (.ref b293), .val (.int (1 : Int32))] [(.int (3 : Int32)), (.int (j1g_0 ((p0 &&& (2147483647 : Int32)) % (6 : Int32)) ((p1 &&& (2147483647 : Int32)) % (6 : Int32))))])) _
                refine XS.icmpYes X342.here hx rfl (pc0 := 136) (pc' := 145) rfl (hb hby at_136) rfl (flt (own_up hc479 (by decide))).2.2.2 (by decide) (by decide) ?_
                show Steps p.tables e below (T342.setTop (mkF m 145 #[.val (.int p0), .val (.int p1), .val (.int p2), .val (.int p3), .val (.int ((p0 &&& (2147483647 : Int32)) % (6 : Int32))), .val (.int (j1g_0 ((p0 &&& (2147483647 : Int32)) % (6 : Int32)) ((p1 &&& (2147483647 : Int32)) % (6 : Int32)))), .val (.ref b293), .val (.int (1 : Int32))] [])) _
                refine XS.iload X342.here hx rfl (hb hby at_145) rfl ?_
                show Steps p.tables e below (T342.setTop (mkF m 147 #[.val (.int p0), .val (.int p1), .val (.int p2), .val (.int p3), .val (.int ((p0 &&& (2147483647 : Int32)) % (6 : Int32))), .val (.int (j1g_0 ((p0 &&& (2147483647 : Int32)) % (6 : Int32)) ((p1 &&& (2147483647 : Int32)) % (6 : Int32)))), .val (.ref b293), .val (.int (1 : Int32))] [(.int (j1g_0 ((p0 &&& (2147483647 : Int32)) % (6 : Int32)) ((p1 &&& (2147483647 : Int32)) % (6 : Int32))))])) _
                refine XS.iconst X342.here hx rfl (hb hby at_147) ?_
                show Steps p.tables e below (T342.setTop (mkF m 148 #[.val (.int p0), .val (.int p1), .val (.int p2), .val (.int p3), .val (.int ((p0 &&& (2147483647 : Int32)) % (6 : Int32))), .val (.int (j1g_0 ((p0 &&& (2147483647 : Int32)) % (6 : Int32)) ((p1 &&& (2147483647 : Int32)) % (6 : Int32)))), .val (.ref b293), .val (.int (1 : Int32))] [(.int (4 : Int32)), (.int (j1g_0 ((p0 &&& (2147483647 : Int32)) % (6 : Int32)) ((p1 &&& (2147483647 : Int32)) % (6 : Int32))))])) _
                refine XS.icmpYes X342.here hx rfl (pc0 := 148) (pc' := 157) rfl (hb hby at_148) rfl (flt (own_mn (own_up hc351 (by decide)))).2.2.2 (by decide) (by decide) ?_
                show Steps p.tables e below (T342.setTop (mkF m 157 #[.val (.int p0), .val (.int p1), .val (.int p2), .val (.int p3), .val (.int ((p0 &&& (2147483647 : Int32)) % (6 : Int32))), .val (.int (j1g_0 ((p0 &&& (2147483647 : Int32)) % (6 : Int32)) ((p1 &&& (2147483647 : Int32)) % (6 : Int32)))), .val (.ref b293), .val (.int (1 : Int32))] [])) _
                refine XS.iload X342.here hx rfl (hb hby at_157) rfl ?_
                show Steps p.tables e below (T342.setTop (mkF m 159 #[.val (.int p0), .val (.int p1), .val (.int p2), .val (.int p3), .val (.int ((p0 &&& (2147483647 : Int32)) % (6 : Int32))), .val (.int (j1g_0 ((p0 &&& (2147483647 : Int32)) % (6 : Int32)) ((p1 &&& (2147483647 : Int32)) % (6 : Int32)))), .val (.ref b293), .val (.int (1 : Int32))] [(.int (1 : Int32))])) _
                refine XS.ifNo X342.here hx rfl (hb hby at_159) rfl ((if0 _ _).trans (feq (by decide : ¬ ((1 : Int32) = (0 : Int32)))).1) ?_
                show Steps p.tables e below (T342.setTop (mkF m 162 #[.val (.int p0), .val (.int p1), .val (.int p2), .val (.int p3), .val (.int ((p0 &&& (2147483647 : Int32)) % (6 : Int32))), .val (.int (j1g_0 ((p0 &&& (2147483647 : Int32)) % (6 : Int32)) ((p1 &&& (2147483647 : Int32)) % (6 : Int32)))), .val (.ref b293), .val (.int (1 : Int32))] [])) _
                refine XS.aload X342.here hx rfl (hb hby at_162) rfl rfl ?_
                show Steps p.tables e below (T342.setTop (mkF m 164 #[.val (.int p0), .val (.int p1), .val (.int p2), .val (.int p3), .val (.int ((p0 &&& (2147483647 : Int32)) % (6 : Int32))), .val (.int (j1g_0 ((p0 &&& (2147483647 : Int32)) % (6 : Int32)) ((p1 &&& (2147483647 : Int32)) % (6 : Int32)))), .val (.ref b293), .val (.int (1 : Int32))] [(.ref b293)])) _
                refine st559.trans ?_
                show Steps p.tables e below (T559.setTop (mkF m 167 #[.val (.int p0), .val (.int p1), .val (.int p2), .val (.int p3), .val (.int ((p0 &&& (2147483647 : Int32)) % (6 : Int32))), .val (.int (j1g_0 ((p0 &&& (2147483647 : Int32)) % (6 : Int32)) ((p1 &&& (2147483647 : Int32)) % (6 : Int32)))), .val (.ref b293), .val (.int (1 : Int32))] [(.int (0 : Int32))])) _
                refine XS.iload X559.here hx rfl (hb hby at_167) rfl ?_
                show Steps p.tables e below (T559.setTop (mkF m 169 #[.val (.int p0), .val (.int p1), .val (.int p2), .val (.int p3), .val (.int ((p0 &&& (2147483647 : Int32)) % (6 : Int32))), .val (.int (j1g_0 ((p0 &&& (2147483647 : Int32)) % (6 : Int32)) ((p1 &&& (2147483647 : Int32)) % (6 : Int32)))), .val (.ref b293), .val (.int (1 : Int32))] [(.int ((p0 &&& (2147483647 : Int32)) % (6 : Int32))), (.int (0 : Int32))])) _
                refine XS.iload X559.here hx rfl (hb hby at_169) rfl ?_
                exact k)
              have pre561 := fun (t : State) (k : Steps p.tables e below (T559.setTop (mkF m 179 #[.val (.int p0), .val (.int p1), .val (.int p2), .val (.int p3), .val (.int ((p0 &&& (2147483647 : Int32)) % (6 : Int32))), .val (.int (j1g_0 ((p0 &&& (2147483647 : Int32)) % (6 : Int32)) ((p1 &&& (2147483647 : Int32)) % (6 : Int32)))), .val (.ref b293), .val (.int (1 : Int32))] [(.int (j0_0 p0 p1)), (.int (0 : Int32))])) t) => pre560 t (by
                by_cases hc562 : ((p0 &&& (2147483647 : Int32)) % (6 : Int32)) = (j1g_0 ((p0 &&& (2147483647 : Int32)) % (6 : Int32)) ((p1 &&& (2147483647 : Int32)) % (6 : Int32)))
                · skip
                  show Steps p.tables e below (T559.setTop (mkF m 171 #[.val (.int p0), .val (.int p1), .val (.int p2), .val (.int p3), .val (.int ((p0 &&& (2147483647 : Int32)) % (6 : Int32))), .val (.int (j1g_0 ((p0 &&& (2147483647 : Int32)) % (6 : Int32)) ((p1 &&& (2147483647 : Int32)) % (6 : Int32)))), .val (.ref b293), .val (.int (1 : Int32))] [(.int (j1g_0 ((p0 &&& (2147483647 : Int32)) % (6 : Int32)) ((p1 &&& (2147483647 : Int32)) % (6 : Int32)))), (.int ((p0 &&& (2147483647 : Int32)) % (6 : Int32))), (.int (0 : Int32))])) _
                  refine XS.icmpNo X559.here hx rfl (hb hby at_171) rfl (teq hc562).2 ?_
                  show Steps p.tables e below (T559.setTop (mkF m 174 #[.val (.int p0), .val (.int p1), .val (.int p2), .val (.int p3), .val (.int ((p0 &&& (2147483647 : Int32)) % (6 : Int32))), .val (.int (j1g_0 ((p0 &&& (2147483647 : Int32)) % (6 : Int32)) ((p1 &&& (2147483647 : Int32)) % (6 : Int32)))), .val (.ref b293), .val (.int (1 : Int32))] [(.int (0 : Int32))])) _
                  refine XS.iconst X559.here hx rfl (hb hby at_174) ?_
                  show Steps p.tables e below (T559.setTop (mkF m 175 #[.val (.int p0), .val (.int p1), .val (.int p2), .val (.int p3), .val (.int ((p0 &&& (2147483647 : Int32)) % (6 : Int32))), .val (.int (j1g_0 ((p0 &&& (2147483647 : Int32)) % (6 : Int32)) ((p1 &&& (2147483647 : Int32)) % (6 : Int32)))), .val (.ref b293), .val (.int (1 : Int32))] [(.int (1 : Int32)), (.int (0 : Int32))])) _
                  refine XS.goto X559.here hx rfl (pc0 := 175) (pc' := 179) rfl (hb hby at_175) (by decide) (by decide) ?_
                  have hj563 : (j0_0 p0 p1) = (1 : Int32) := by unfold j0_0; first | (rw [if_pos hc562]) | (simp only [if_pos hc562])
                  rw [hj563] at k
                  exact k
                · skip
                  show Steps p.tables e below (T559.setTop (mkF m 171 #[.val (.int p0), .val (.int p1), .val (.int p2), .val (.int p3), .val (.int ((p0 &&& (2147483647 : Int32)) % (6 : Int32))), .val (.int (j1g_0 ((p0 &&& (2147483647 : Int32)) % (6 : Int32)) ((p1 &&& (2147483647 : Int32)) % (6 : Int32)))), .val (.ref b293), .val (.int (1 : Int32))] [(.int (j1g_0 ((p0 &&& (2147483647 : Int32)) % (6 : Int32)) ((p1 &&& (2147483647 : Int32)) % (6 : Int32)))), (.int ((p0 &&& (2147483647 : Int32)) % (6 : Int32))), (.int (0 : Int32))])) _
                  refine XS.icmpYes X559.here hx rfl (pc0 := 171) (pc' := 178) rfl (hb hby at_171) rfl (feq hc562).2 (by decide) (by decide) ?_
                  show Steps p.tables e below (T559.setTop (mkF m 178 #[.val (.int p0), .val (.int p1), .val (.int p2), .val (.int p3), .val (.int ((p0 &&& (2147483647 : Int32)) % (6 : Int32))), .val (.int (j1g_0 ((p0 &&& (2147483647 : Int32)) % (6 : Int32)) ((p1 &&& (2147483647 : Int32)) % (6 : Int32)))), .val (.ref b293), .val (.int (1 : Int32))] [(.int (0 : Int32))])) _
                  refine XS.iconst X559.here hx rfl (hb hby at_178) ?_
                  have hj564 : (j0_0 p0 p1) = (0 : Int32) := by unfold j0_0; first | (rw [if_neg hc562]) | (simp only [if_neg hc562])
                  rw [hj564] at k
                  exact k)
              have pre565 := fun (t : State) (k : Steps p.tables e below (T559.setTop (mkF m 187 #[.val (.int p0), .val (.int p1), .val (.int p2), .val (.int p3), .val (.int ((p0 &&& (2147483647 : Int32)) % (6 : Int32))), .val (.int (j1g_0 ((p0 &&& (2147483647 : Int32)) % (6 : Int32)) ((p1 &&& (2147483647 : Int32)) % (6 : Int32)))), .val (.ref b293), .val (.int (1 : Int32))] [(.int (j0_2 p0 p1))])) t) => pre561 t (by
                by_cases hc566 : (0 : Int32) = (j0_0 p0 p1)
                · skip
                  show Steps p.tables e below (T559.setTop (mkF m 179 #[.val (.int p0), .val (.int p1), .val (.int p2), .val (.int p3), .val (.int ((p0 &&& (2147483647 : Int32)) % (6 : Int32))), .val (.int (j1g_0 ((p0 &&& (2147483647 : Int32)) % (6 : Int32)) ((p1 &&& (2147483647 : Int32)) % (6 : Int32)))), .val (.ref b293), .val (.int (1 : Int32))] [(.int (j0_0 p0 p1)), (.int (0 : Int32))])) _
                  refine XS.icmpNo X559.here hx rfl (hb hby at_179) rfl (teq hc566).2 ?_
                  show Steps p.tables e below (T559.setTop (mkF m 182 #[.val (.int p0), .val (.int p1), .val (.int p2), .val (.int p3), .val (.int ((p0 &&& (2147483647 : Int32)) % (6 : Int32))), .val (.int (j1g_0 ((p0 &&& (2147483647 : Int32)) % (6 : Int32)) ((p1 &&& (2147483647 : Int32)) % (6 : Int32)))), .val (.ref b293), .val (.int (1 : Int32))] [])) _
                  refine XS.iconst X559.here hx rfl (hb hby at_182) ?_
                  show Steps p.tables e below (T559.setTop (mkF m 183 #[.val (.int p0), .val (.int p1), .val (.int p2), .val (.int p3), .val (.int ((p0 &&& (2147483647 : Int32)) % (6 : Int32))), .val (.int (j1g_0 ((p0 &&& (2147483647 : Int32)) % (6 : Int32)) ((p1 &&& (2147483647 : Int32)) % (6 : Int32)))), .val (.ref b293), .val (.int (1 : Int32))] [(.int (1 : Int32))])) _
                  refine XS.goto X559.here hx rfl (pc0 := 183) (pc' := 187) rfl (hb hby at_183) (by decide) (by decide) ?_
                  have hj567 : (j0_2 p0 p1) = (1 : Int32) := by unfold j0_2; first | (rw [if_pos hc566]) | (simp only [if_pos hc566])
                  rw [hj567] at k
                  exact k
                · skip
                  show Steps p.tables e below (T559.setTop (mkF m 179 #[.val (.int p0), .val (.int p1), .val (.int p2), .val (.int p3), .val (.int ((p0 &&& (2147483647 : Int32)) % (6 : Int32))), .val (.int (j1g_0 ((p0 &&& (2147483647 : Int32)) % (6 : Int32)) ((p1 &&& (2147483647 : Int32)) % (6 : Int32)))), .val (.ref b293), .val (.int (1 : Int32))] [(.int (j0_0 p0 p1)), (.int (0 : Int32))])) _
                  refine XS.icmpYes X559.here hx rfl (pc0 := 179) (pc' := 186) rfl (hb hby at_179) rfl (feq hc566).2 (by decide) (by decide) ?_
                  show Steps p.tables e below (T559.setTop (mkF m 186 #[.val (.int p0), .val (.int p1), .val (.int p2), .val (.int p3), .val (.int ((p0 &&& (2147483647 : Int32)) % (6 : Int32))), .val (.int (j1g_0 ((p0 &&& (2147483647 : Int32)) % (6 : Int32)) ((p1 &&& (2147483647 : Int32)) % (6 : Int32)))), .val (.ref b293), .val (.int (1 : Int32))] [])) _
                  refine XS.iconst X559.here hx rfl (hb hby at_186) ?_
                  have hj568 : (j0_2 p0 p1) = (0 : Int32) := by unfold j0_2; first | (rw [if_neg hc566]) | (simp only [if_neg hc566])
                  rw [hj568] at k
                  exact k)
              obtain ⟨fs, hr, hrun, hended, hW, hsame⟩ := X559.leave (v := some (.int (nar .boolean (j0_2 p0 p1)))) (fun h => by rw [Bd.returns] at h; cases h)
              refine ⟨_, _, pre565 _ ?_, hrun, hended, _, _, rfl, ?_, ⟨_, rfl⟩, hW, hsame.mono (by decide) (by decide)⟩
              · skip
                show Steps p.tables e below (T559.setTop (mkF m 187 #[.val (.int p0), .val (.int p1), .val (.int p2), .val (.int p3), .val (.int ((p0 &&& (2147483647 : Int32)) % (6 : Int32))), .val (.int (j1g_0 ((p0 &&& (2147483647 : Int32)) % (6 : Int32)) ((p1 &&& (2147483647 : Int32)) % (6 : Int32)))), .val (.ref b293), .val (.int (1 : Int32))] [(.int (j0_2 p0 p1))])) _
                exact retN X559 hx (t := .boolean) Bd.returns (by simp) (hb hby at_187) hr
              · show Q0 Z p0 p1 p2 p3 h0 n0 _ T559.heap _
                rw [e559]
                have hv : (nar .boolean (j0_2 p0 p1)) = (v0 p0 p1) := by unfold v0; first | (rw [if_pos hc307, if_pos hc318, if_pos hc329, if_pos hc340, if_neg hc351, if_neg hc479]) | (simp only [if_pos hc307, if_pos hc318, if_pos hc329, if_pos hc340, if_neg hc351, if_neg hc479])
                exact ⟨(by rw [← hv]), N559⟩
        · skip
          have pre570 := fun (t : State) (k : Steps p.tables e below (T331.setTop (mkF m 100 #[.val (.int p0), .val (.int p1), .val (.int p2), .val (.int p3), .val (.int ((p0 &&& (2147483647 : Int32)) % (6 : Int32))), .val (.int (j1g_0 ((p0 &&& (2147483647 : Int32)) % (6 : Int32)) ((p1 &&& (2147483647 : Int32)) % (6 : Int32)))), .val (.ref b293), .val (.int (1 : Int32))] [(.int (j1g_0 ((p0 &&& (2147483647 : Int32)) % (6 : Int32)) ((p1 &&& (2147483647 : Int32)) % (6 : Int32))))])) t) => pre341 t (by
            show Steps p.tables e below (T331.setTop (mkF m 77 #[.val (.int p0), .val (.int p1), .val (.int p2), .val (.int p3), .val (.int ((p0 &&& (2147483647 : Int32)) % (6 : Int32))), .val (.int (j1g_0 ((p0 &&& (2147483647 : Int32)) % (6 : Int32)) ((p1 &&& (2147483647 : Int32)) % (6 : Int32)))), .val (.ref b293), .val (.int (1 : Int32))] [(.int (3 : Int32)), (.int ((p0 &&& (2147483647 : Int32)) % (6 : Int32)))])) _
            refine XS.icmpYes X331.here hx rfl (pc0 := 77) (pc' := 86) rfl (hb hby at_77) rfl (flt hc340).2.2.2 (by decide) (by decide) ?_
            show Steps p.tables e below (T331.setTop (mkF m 86 #[.val (.int p0), .val (.int p1), .val (.int p2), .val (.int p3), .val (.int ((p0 &&& (2147483647 : Int32)) % (6 : Int32))), .val (.int (j1g_0 ((p0 &&& (2147483647 : Int32)) % (6 : Int32)) ((p1 &&& (2147483647 : Int32)) % (6 : Int32)))), .val (.ref b293), .val (.int (1 : Int32))] [])) _
            refine XS.iload X331.here hx rfl (hb hby at_86) rfl ?_
            show Steps p.tables e below (T331.setTop (mkF m 88 #[.val (.int p0), .val (.int p1), .val (.int p2), .val (.int p3), .val (.int ((p0 &&& (2147483647 : Int32)) % (6 : Int32))), .val (.int (j1g_0 ((p0 &&& (2147483647 : Int32)) % (6 : Int32)) ((p1 &&& (2147483647 : Int32)) % (6 : Int32)))), .val (.ref b293), .val (.int (1 : Int32))] [(.int ((p0 &&& (2147483647 : Int32)) % (6 : Int32)))])) _
            refine XS.iconst X331.here hx rfl (hb hby at_88) ?_
            show Steps p.tables e below (T331.setTop (mkF m 89 #[.val (.int p0), .val (.int p1), .val (.int p2), .val (.int p3), .val (.int ((p0 &&& (2147483647 : Int32)) % (6 : Int32))), .val (.int (j1g_0 ((p0 &&& (2147483647 : Int32)) % (6 : Int32)) ((p1 &&& (2147483647 : Int32)) % (6 : Int32)))), .val (.ref b293), .val (.int (1 : Int32))] [(.int (4 : Int32)), (.int ((p0 &&& (2147483647 : Int32)) % (6 : Int32)))])) _
            refine XS.icmpYes X331.here hx rfl (pc0 := 89) (pc' := 98) rfl (hb hby at_89) rfl (flt (own_up hc340 (by decide))).2.2.2 (by decide) (by decide) ?_
            show Steps p.tables e below (T331.setTop (mkF m 98 #[.val (.int p0), .val (.int p1), .val (.int p2), .val (.int p3), .val (.int ((p0 &&& (2147483647 : Int32)) % (6 : Int32))), .val (.int (j1g_0 ((p0 &&& (2147483647 : Int32)) % (6 : Int32)) ((p1 &&& (2147483647 : Int32)) % (6 : Int32)))), .val (.ref b293), .val (.int (1 : Int32))] [])) _
            refine XS.iload X331.here hx rfl (hb hby at_98) rfl ?_
            exact k)
          by_cases hc569 : (0 : Int32) < (j1g_0 ((p0 &&& (2147483647 : Int32)) % (6 : Int32)) ((p1 &&& (2147483647 : Int32)) % (6 : Int32)))
          · skip
            obtain ⟨cq571, kq571, q571a, q571b, q571c⟩ := isOf hZ e331 f332
            obtain ⟨_, _, ⟨T571, L571, k571, n571⟩, -, X571, ⟨Lc571, hQ571, l571, y571, z571⟩, st571⟩ := X331.virtualBack hx (y := (⟨"com/example/subsumer/subsumer/classification/IntList", "pop", "()I"⟩ : MethodName)) (z := (⟨"com/example/subsumer/subsumer/classification/IntList", "pop", "()I"⟩ : MethodName)) hown (mvT hZ (hw _ (List.mem_of_getElem? (i := 29) rfl))) (mvT hZ (hw _ (List.mem_of_getElem? (i := 30) rfl))) (notFace_of_selects (args := #[]) (mvT hZ (hw _ (List.mem_of_getElem? (i := 32) rfl)))) (mvT hZ (hw _ (List.mem_of_getElem? (i := 32) rfl))) (mvT hZ (hw _ (List.mem_of_getElem? (i := 31) rfl))) (by decide) (backOf (W := 0) (rm6_4_3 l Z aw hw [] b293 cx0297 p2 p3 p2 ((0 : Int32)) cy0297 h331 n0 Z331 f332 f334 f333 f335 g_b293 ne305) hZ (hw _ (List.mem_of_getElem? (i := 33) rfl)) (hw _ (List.mem_of_getElem? (i := 7) rfl)) (by decide) (by decide)) q571a q571c (g := (mkF m 105 #[.val (.int p0), .val (.int p1), .val (.int p2), .val (.int p3), .val (.int ((p0 &&& (2147483647 : Int32)) % (6 : Int32))), .val (.int (j1g_0 ((p0 &&& (2147483647 : Int32)) % (6 : Int32)) ((p1 &&& (2147483647 : Int32)) % (6 : Int32)))), .val (.ref b293), .val (.int (1 : Int32))] [(.ref b293)])) rfl (by rw [hml]; rfl) (Steps.refl _) (argsL := []) (rest := []) (lenOf pd_7 rfl) rfl (by show 2 * 0 + _ ≤ _; exact Nat.le_of_eq rfl) (hb hby at_105) (fun _ _ => ⟨rfl, e331, (by decide : 2 + 0 ≤ _), (by decide : 6 + 0 ≤ _)⟩)
            dsimp only [Pt.U, Pt.locs, Pt.cells, Pt.slots] at X571 l571 y571 z571 st571 hQ571
            subst l571 y571 z571
            obtain ⟨h571, e571⟩ : ∃ z, T571.heap = z := ⟨_, rfl⟩
            rw [e571] at hQ571
            obtain ⟨rfl, N571q, K571q, f572, f573, f574⟩ := hQ571
            have f575 := f332.keep K571q
            have f578 := f335.keep K571q (ninS (Ne.symm ne305) nin0)
            have Z571 := Nat.le_trans Z331 K571q.1
            have N571 := Fr.app N331 N571q
            have pre580 := fun (t : State) (k : Steps p.tables e below (T571.setTop (mkF m 112 #[.val (.int p0), .val (.int p1), .val (.int p2), .val (.int p3), .val (.int ((p0 &&& (2147483647 : Int32)) % (6 : Int32))), .val (.int (j1g_0 ((p0 &&& (2147483647 : Int32)) % (6 : Int32)) ((p1 &&& (2147483647 : Int32)) % (6 : Int32)))), .val (.ref b293), .val (.int (1 : Int32))] [(.int (1 : Int32)), (.int (j1g_0 ((p0 &&& (2147483647 : Int32)) % (6 : Int32)) ((p1 &&& (2147483647 : Int32)) % (6 : Int32))))])) t) => pre570 t (by
              show Steps p.tables e below (T331.setTop (mkF m 100 #[.val (.int p0), .val (.int p1), .val (.int p2), .val (.int p3), .val (.int ((p0 &&& (2147483647 : Int32)) % (6 : Int32))), .val (.int (j1g_0 ((p0 &&& (2147483647 : Int32)) % (6 : Int32)) ((p1 &&& (2147483647 : Int32)) % (6 : Int32)))), .val (.ref b293), .val (.int (1 : Int32))] [(.int (j1g_0 ((p0 &&& (2147483647 : Int32)) % (6 : Int32)) ((p1 &&& (2147483647 : Int32)) % (6 : Int32))))])) _
              refine XS.ifNo X331.here hx rfl (hb hby at_100) rfl ((if0 _ _).trans (tlt hc569).2.2.2) ?_
              show Steps p.tables e below (T331.setTop (mkF m 103 #[.val (.int p0), .val (.int p1), .val (.int p2), .val (.int p3), .val (.int ((p0 &&& (2147483647 : Int32)) % (6 : Int32))), .val (.int (j1g_0 ((p0 &&& (2147483647 : Int32)) % (6 : Int32)) ((p1 &&& (2147483647 : Int32)) % (6 : Int32)))), .val (.ref b293), .val (.int (1 : Int32))] [])) _
              refine XS.aload X331.here hx rfl (hb hby at_103) rfl rfl ?_
              show Steps p.tables e below (T331.setTop (mkF m 105 #[.val (.int p0), .val (.int p1), .val (.int p2), .val (.int p3), .val (.int ((p0 &&& (2147483647 : Int32)) % (6 : Int32))), .val (.int (j1g_0 ((p0 &&& (2147483647 : Int32)) % (6 : Int32)) ((p1 &&& (2147483647 : Int32)) % (6 : Int32)))), .val (.ref b293), .val (.int (1 : Int32))] [(.ref b293)])) _
              refine st571.trans ?_
              show Steps p.tables e below (T571.setTop (mkF m 108 #[.val (.int p0), .val (.int p1), .val (.int p2), .val (.int p3), .val (.int ((p0 &&& (2147483647 : Int32)) % (6 : Int32))), .val (.int (j1g_0 ((p0 &&& (2147483647 : Int32)) % (6 : Int32)) ((p1 &&& (2147483647 : Int32)) % (6 : Int32)))), .val (.ref b293), .val (.int (1 : Int32))] [(.int p2)])) _
              refine XS.pop X571.here hx rfl (hb hby at_108) rfl rfl ?_
              show Steps p.tables e below (T571.setTop (mkF m 109 #[.val (.int p0), .val (.int p1), .val (.int p2), .val (.int p3), .val (.int ((p0 &&& (2147483647 : Int32)) % (6 : Int32))), .val (.int (j1g_0 ((p0 &&& (2147483647 : Int32)) % (6 : Int32)) ((p1 &&& (2147483647 : Int32)) % (6 : Int32)))), .val (.ref b293), .val (.int (1 : Int32))] [])) _
              refine XS.iload X571.here hx rfl (hb hby at_109) rfl ?_
              show Steps p.tables e below (T571.setTop (mkF m 111 #[.val (.int p0), .val (.int p1), .val (.int p2), .val (.int p3), .val (.int ((p0 &&& (2147483647 : Int32)) % (6 : Int32))), .val (.int (j1g_0 ((p0 &&& (2147483647 : Int32)) % (6 : Int32)) ((p1 &&& (2147483647 : Int32)) % (6 : Int32)))), .val (.ref b293), .val (.int (1 : Int32))] [(.int (j1g_0 ((p0 &&& (2147483647 : Int32)) % (6 : Int32)) ((p1 &&& (2147483647 : Int32)) % (6 : Int32))))])) _
              refine XS.iconst X571.here hx rfl (hb hby at_111) ?_
              exact k)
            by_cases hc579 : (1 : Int32) < (j1g_0 ((p0 &&& (2147483647 : Int32)) % (6 : Int32)) ((p1 &&& (2147483647 : Int32)) % (6 : Int32)))
            · skip
              obtain ⟨cq581, kq581, q581a, q581b, q581c⟩ := isOf hZ e571 f572
              obtain ⟨_, _, ⟨T581, L581, k581, n581⟩, -, X581, ⟨Lc581, hQ581, l581, y581, z581⟩, st581⟩ := X571.virtualBack hx (y := (⟨"com/example/subsumer/subsumer/classification/IntList", "pop", "()I"⟩ : MethodName)) (z := (⟨"com/example/subsumer/subsumer/classification/IntList", "pop", "()I"⟩ : MethodName)) hown (mvT hZ (hw _ (List.mem_of_getElem? (i := 29) rfl))) (mvT hZ (hw _ (List.mem_of_getElem? (i := 30) rfl))) (notFace_of_selects (args := #[]) (mvT hZ (hw _ (List.mem_of_getElem? (i := 32) rfl)))) (mvT hZ (hw _ (List.mem_of_getElem? (i := 32) rfl))) (mvT hZ (hw _ (List.mem_of_getElem? (i := 31) rfl))) (by decide) (backOf (W := 0) (rm6_4_2 l Z aw hw [] b293 cx0297 p2 p3 p2 ((0 : Int32)) cy0297 h571 n0 Z571 f572 f574 f573 f578 g_b293 ne305) hZ (hw _ (List.mem_of_getElem? (i := 33) rfl)) (hw _ (List.mem_of_getElem? (i := 7) rfl)) (by decide) (by decide)) q581a q581c (g := (mkF m 117 #[.val (.int p0), .val (.int p1), .val (.int p2), .val (.int p3), .val (.int ((p0 &&& (2147483647 : Int32)) % (6 : Int32))), .val (.int (j1g_0 ((p0 &&& (2147483647 : Int32)) % (6 : Int32)) ((p1 &&& (2147483647 : Int32)) % (6 : Int32)))), .val (.ref b293), .val (.int (1 : Int32))] [(.ref b293)])) rfl (by rw [hml]; rfl) (Steps.refl _) (argsL := []) (rest := []) (lenOf pd_7 rfl) rfl (by show 2 * 0 + _ ≤ _; exact Nat.le_of_eq rfl) (hb hby at_117) (fun _ _ => ⟨rfl, e571, (by decide : 2 + 0 ≤ _), (by decide : 6 + 0 ≤ _)⟩)
              dsimp only [Pt.U, Pt.locs, Pt.cells, Pt.slots] at X581 l581 y581 z581 st581 hQ581
              subst l581 y581 z581
              obtain ⟨h581, e581⟩ : ∃ z, T581.heap = z := ⟨_, rfl⟩
              rw [e581] at hQ581
              obtain ⟨rfl, N581q, K581q, f582, f583, f584⟩ := hQ581
              have f585 := f572.keep K581q
              have f586 := f578.keep K581q (ninS (Ne.symm ne305) nin0)
              have Z581 := Nat.le_trans Z571 K581q.1
              have N581 := Fr.app N571 N581q
              have pre590 := fun (t : State) (k : Steps p.tables e below (T581.setTop (mkF m 124 #[.val (.int p0), .val (.int p1), .val (.int p2), .val (.int p3), .val (.int ((p0 &&& (2147483647 : Int32)) % (6 : Int32))), .val (.int (j1g_0 ((p0 &&& (2147483647 : Int32)) % (6 : Int32)) ((p1 &&& (2147483647 : Int32)) % (6 : Int32)))), .val (.ref b293), .val (.int (1 : Int32))] [(.int (2 : Int32)), (.int (j1g_0 ((p0 &&& (2147483647 : Int32)) % (6 : Int32)) ((p1 &&& (2147483647 : Int32)) % (6 : Int32))))])) t) => pre580 t (by
                show Steps p.tables e below (T571.setTop (mkF m 112 #[.val (.int p0), .val (.int p1), .val (.int p2), .val (.int p3), .val (.int ((p0 &&& (2147483647 : Int32)) % (6 : Int32))), .val (.int (j1g_0 ((p0 &&& (2147483647 : Int32)) % (6 : Int32)) ((p1 &&& (2147483647 : Int32)) % (6 : Int32)))), .val (.ref b293), .val (.int (1 : Int32))] [(.int (1 : Int32)), (.int (j1g_0 ((p0 &&& (2147483647 : Int32)) % (6 : Int32)) ((p1 &&& (2147483647 : Int32)) % (6 : Int32))))])) _
                refine XS.icmpNo X571.here hx rfl (hb hby at_112) rfl (tlt hc579).2.2.2 ?_
                show Steps p.tables e below (T571.setTop (mkF m 115 #[.val (.int p0), .val (.int p1), .val (.int p2), .val (.int p3), .val (.int ((p0 &&& (2147483647 : Int32)) % (6 : Int32))), .val (.int (j1g_0 ((p0 &&& (2147483647 : Int32)) % (6 : Int32)) ((p1 &&& (2147483647 : Int32)) % (6 : Int32)))), .val (.ref b293), .val (.int (1 : Int32))] [])) _
                refine XS.aload X571.here hx rfl (hb hby at_115) rfl rfl ?_
                show Steps p.tables e below (T571.setTop (mkF m 117 #[.val (.int p0), .val (.int p1), .val (.int p2), .val (.int p3), .val (.int ((p0 &&& (2147483647 : Int32)) % (6 : Int32))), .val (.int (j1g_0 ((p0 &&& (2147483647 : Int32)) % (6 : Int32)) ((p1 &&& (2147483647 : Int32)) % (6 : Int32)))), .val (.ref b293), .val (.int (1 : Int32))] [(.ref b293)])) _
                refine st581.trans ?_
                show Steps p.tables e below (T581.setTop (mkF m 120 #[.val (.int p0), .val (.int p1), .val (.int p2), .val (.int p3), .val (.int ((p0 &&& (2147483647 : Int32)) % (6 : Int32))), .val (.int (j1g_0 ((p0 &&& (2147483647 : Int32)) % (6 : Int32)) ((p1 &&& (2147483647 : Int32)) % (6 : Int32)))), .val (.ref b293), .val (.int (1 : Int32))] [(.int p3)])) _
                refine XS.pop X581.here hx rfl (hb hby at_120) rfl rfl ?_
                show Steps p.tables e below (T581.setTop (mkF m 121 #[.val (.int p0), .val (.int p1), .val (.int p2), .val (.int p3), .val (.int ((p0 &&& (2147483647 : Int32)) % (6 : Int32))), .val (.int (j1g_0 ((p0 &&& (2147483647 : Int32)) % (6 : Int32)) ((p1 &&& (2147483647 : Int32)) % (6 : Int32)))), .val (.ref b293), .val (.int (1 : Int32))] [])) _
                refine XS.iload X581.here hx rfl (hb hby at_121) rfl ?_
                show Steps p.tables e below (T581.setTop (mkF m 123 #[.val (.int p0), .val (.int p1), .val (.int p2), .val (.int p3), .val (.int ((p0 &&& (2147483647 : Int32)) % (6 : Int32))), .val (.int (j1g_0 ((p0 &&& (2147483647 : Int32)) % (6 : Int32)) ((p1 &&& (2147483647 : Int32)) % (6 : Int32)))), .val (.ref b293), .val (.int (1 : Int32))] [(.int (j1g_0 ((p0 &&& (2147483647 : Int32)) % (6 : Int32)) ((p1 &&& (2147483647 : Int32)) % (6 : Int32))))])) _
                refine XS.iconst X581.here hx rfl (hb hby at_123) ?_
                exact k)
              by_cases hc589 : (2 : Int32) < (j1g_0 ((p0 &&& (2147483647 : Int32)) % (6 : Int32)) ((p1 &&& (2147483647 : Int32)) % (6 : Int32)))
              · skip
                obtain ⟨cq591, kq591, q591a, q591b, q591c⟩ := isOf hZ e581 f582
                obtain ⟨_, _, ⟨T591, L591, k591, n591⟩, -, X591, ⟨Lc591, hQ591, l591, y591, z591⟩, st591⟩ := X581.virtualBack hx (y := (⟨"com/example/subsumer/subsumer/classification/IntList", "pop", "()I"⟩ : MethodName)) (z := (⟨"com/example/subsumer/subsumer/classification/IntList", "pop", "()I"⟩ : MethodName)) hown (mvT hZ (hw _ (List.mem_of_getElem? (i := 29) rfl))) (mvT hZ (hw _ (List.mem_of_getElem? (i := 30) rfl))) (notFace_of_selects (args := #[]) (mvT hZ (hw _ (List.mem_of_getElem? (i := 32) rfl)))) (mvT hZ (hw _ (List.mem_of_getElem? (i := 32) rfl))) (mvT hZ (hw _ (List.mem_of_getElem? (i := 31) rfl))) (by decide) (backOf (W := 0) (rm6_4_1 l Z aw hw [] b293 cx0297 p2 p3 p2 ((0 : Int32)) cy0297 h581 n0 Z581 f582 f584 f583 f586 g_b293 ne305) hZ (hw _ (List.mem_of_getElem? (i := 33) rfl)) (hw _ (List.mem_of_getElem? (i := 7) rfl)) (by decide) (by decide)) q591a q591c (g := (mkF m 129 #[.val (.int p0), .val (.int p1), .val (.int p2), .val (.int p3), .val (.int ((p0 &&& (2147483647 : Int32)) % (6 : Int32))), .val (.int (j1g_0 ((p0 &&& (2147483647 : Int32)) % (6 : Int32)) ((p1 &&& (2147483647 : Int32)) % (6 : Int32)))), .val (.ref b293), .val (.int (1 : Int32))] [(.ref b293)])) rfl (by rw [hml]; rfl) (Steps.refl _) (argsL := []) (rest := []) (lenOf pd_7 rfl) rfl (by show 2 * 0 + _ ≤ _; exact Nat.le_of_eq rfl) (hb hby at_129) (fun _ _ => ⟨rfl, e581, (by decide : 2 + 0 ≤ _), (by decide : 6 + 0 ≤ _)⟩)
                dsimp only [Pt.U, Pt.locs, Pt.cells, Pt.slots] at X591 l591 y591 z591 st591 hQ591
                subst l591 y591 z591
                obtain ⟨h591, e591⟩ : ∃ z, T591.heap = z := ⟨_, rfl⟩
                rw [e591] at hQ591
                obtain ⟨rfl, N591q, K591q, f592, f593, f594⟩ := hQ591
                have f595 := f582.keep K591q
                have f596 := f586.keep K591q (ninS (Ne.symm ne305) nin0)
                have Z591 := Nat.le_trans Z581 K591q.1
                have N591 := Fr.app N581 N591q
                obtain ⟨cq599, kq599, q599a, q599b, q599c⟩ := isOf hZ e591 f592
                obtain ⟨_, _, ⟨T599, L599, k599, n599⟩, -, X599, ⟨Lc599, hQ599, l599, y599, z599⟩, st599⟩ := X591.virtualBack hx (y := (⟨"com/example/subsumer/subsumer/classification/IntList", "isEmpty", "()Z"⟩ : MethodName)) (z := (⟨"com/example/subsumer/subsumer/classification/IntList", "isEmpty", "()Z"⟩ : MethodName)) hown (mvT hZ (hw _ (List.mem_of_getElem? (i := 17) rfl))) (mvT hZ (hw _ (List.mem_of_getElem? (i := 18) rfl))) (notFace_of_selects (args := #[]) (mvT hZ (hw _ (List.mem_of_getElem? (i := 20) rfl)))) (mvT hZ (hw _ (List.mem_of_getElem? (i := 20) rfl))) (mvT hZ (hw _ (List.mem_of_getElem? (i := 19) rfl))) (by decide) (backOf (W := 0) (rm4z l Z aw hw [] b293 h591 n0 Z591 f592 f593) hZ (hw _ (List.mem_of_getElem? (i := 21) rfl)) (hw _ (List.mem_of_getElem? (i := 7) rfl)) (by decide) (by decide)) q599a q599c (g := (mkF m 164 #[.val (.int p0), .val (.int p1), .val (.int p2), .val (.int p3), .val (.int ((p0 &&& (2147483647 : Int32)) % (6 : Int32))), .val (.int (j1g_0 ((p0 &&& (2147483647 : Int32)) % (6 : Int32)) ((p1 &&& (2147483647 : Int32)) % (6 : Int32)))), .val (.ref b293), .val (.int (1 : Int32))] [(.ref b293)])) rfl (by rw [hml]; rfl) (Steps.refl _) (argsL := []) (rest := []) (lenOf pd_5 rfl) rfl (by show 2 * 0 + _ ≤ _; exact Nat.le_of_eq rfl) (hb hby at_164) (fun _ _ => ⟨rfl, e591, (by decide : 2 + 0 ≤ _), (by decide : 6 + 0 ≤ _)⟩)
                dsimp only [Pt.U, Pt.locs, Pt.cells, Pt.slots] at X599 l599 y599 z599 st599 hQ599
                subst l599 y599 z599
                obtain ⟨rfl, N599q, e599⟩ := hQ599
                have N599 := Fr.app N591 N599q
                have pre600 := fun (t : State) (k : Steps p.tables e below (T599.setTop (mkF m 171 #[.val (.int p0), .val (.int p1), .val (.int p2), .val (.int p3), .val (.int ((p0 &&& (2147483647 : Int32)) % (6 : Int32))), .val (.int (j1g_0 ((p0 &&& (2147483647 : Int32)) % (6 : Int32)) ((p1 &&& (2147483647 : Int32)) % (6 : Int32)))), .val (.ref b293), .val (.int (1 : Int32))] [(.int (j1g_0 ((p0 &&& (2147483647 : Int32)) % (6 : Int32)) ((p1 &&& (2147483647 : Int32)) % (6 : Int32)))), (.int ((p0 &&& (2147483647 : Int32)) % (6 : Int32))), (.int (1 : Int32))])) t) => pre590 t (by
                  show Steps p.tables e below (T581.setTop (mkF m 124 #[.val (.int p0), .val (.int p1), .val (.int p2), .val (.int p3), .val (.int ((p0 &&& (2147483647 : Int32)) % (6 : Int32))), .val (.int (j1g_0 ((p0 &&& (2147483647 : Int32)) % (6 : Int32)) ((p1 &&& (2147483647 : Int32)) % (6 : Int32)))), .val (.ref b293), .val (.int (1 : Int32))] [(.int (2 : Int32)), (.int (j1g_0 ((p0 &&& (2147483647 : Int32)) % (6 : Int32)) ((p1 &&& (2147483647 : Int32)) % (6 : Int32))))])) _
                  refine XS.icmpNo X581.here hx rfl (hb hby at_124) rfl (tlt hc589).2.2.2 ?_
                  show Steps p.tables e below (T581.setTop (mkF m 127 #[.val (.int p0), .val (.int p1), .val (.int p2), .val (.int p3), .val (.int ((p0 &&& (2147483647 : Int32)) % (6 : Int32))), .val (.int (j1g_0 ((p0 &&& (2147483647 : Int32)) % (6 : Int32)) ((p1 &&& (2147483647 : Int32)) % (6 : Int32)))), .val (.ref b293), .val (.int (1 : Int32))] [])) _
                  refine XS.aload X581.here hx rfl (hb hby at_127) rfl rfl ?_
                  show Steps p.tables e below (T581.setTop (mkF m 129 #[.val (.int p0), .val (.int p1), .val (.int p2), .val (.int p3), .val (.int ((p0 &&& (2147483647 : Int32)) % (6 : Int32))), .val (.int (j1g_0 ((p0 &&& (2147483647 : Int32)) % (6 : Int32)) ((p1 &&& (2147483647 : Int32)) % (6 : Int32)))), .val (.ref b293), .val (.int (1 : Int32))] [(.ref b293)])) _
                  refine st591.trans ?_
                  show Steps p.tables e below (T591.setTop (mkF m 132 #[.val (.int p0), .val (.int p1), .val (.int p2), .val (.int p3), .val (.int ((p0 &&& (2147483647 : Int32)) % (6 : Int32))), .val (.int (j1g_0 ((p0 &&& (2147483647 : Int32)) % (6 : Int32)) ((p1 &&& (2147483647 : Int32)) % (6 : Int32)))), .val (.ref b293), .val (.int (1 : Int32))] [(.int p2)])) _
                  refine XS.pop X591.here hx rfl (hb hby at_132) rfl rfl ?_
                  show Steps p.tables e below (T591.setTop (mkF m 133 #[.val (.int p0), .val (.int p1), .val (.int p2), .val (.int p3), .val (.int ((p0 &&& (2147483647 : Int32)) % (6 : Int32))), .val (.int (j1g_0 ((p0 &&& (2147483647 : Int32)) % (6 : Int32)) ((p1 &&& (2147483647 : Int32)) % (6 : Int32)))), .val (.ref b293), .val (.int (1 : Int32))] [])) _
                  refine XS.iload X591.here hx rfl (hb hby at_133) rfl ?_
                  show Steps p.tables e below (T591.setTop (mkF m 135 #[.val (.int p0), .val (.int p1), .val (.int p2), .val (.int p3), .val (.int ((p0 &&& (2147483647 : Int32)) % (6 : Int32))), .val (.int (j1g_0 ((p0 &&& (2147483647 : Int32)) % (6 : Int32)) ((p1 &&& (2147483647 : Int32)) % (6 : Int32)))), .val (.ref b293), .val (.int (1 : Int32))] [(.int (j1g_0 ((p0 &&& (2147483647 : Int32)) % (6 : Int32)) ((p1 &&& (2147483647 : Int32)) % (6 : Int32))))])) _
                  refine XS.iconst X591.here hx rfl (hb hby at_135) ?_
                  show Steps p.tables e below (T591.setTop (mkF m 136 #[.val (.int p0), .val (.int p1), .val (.int p2), .val (.int p3), .val (.int ((p0 &&& (2147483647 : Int32)) % (6 : Int32))), .val (.int (j1g_0 ((p0 &&& (2147483647 : Int32)) % (6 : Int32)) ((p1 &&& (2147483647 : Int32)) % (6 : Int32)))), .val (.ref b293), .val (.int (1 : Int32))] [(.int (3 : Int32)), (.int (j1g_0 ((p0 &&& (2147483647 : Int32)) % (6 : Int32)) ((p1 &&& (2147483647 : Int32)) % (6 : Int32))))])) _
                  refine XS.icmpYes X591.here hx rfl (pc0 := 136) (pc' := 145) rfl (hb hby at_136) rfl (flt (own_mn (own_up hc340 (by decide)))).2.2.2 (by decide) (by decide) ?_
                  show Steps p.tables e below (T591.setTop (mkF m 145 #[.val (.int p0), .val (.int p1), .val (.int p2), .val (.int p3), .val (.int ((p0 &&& (2147483647 : Int32)) % (6 : Int32))), .val (.int (j1g_0 ((p0 &&& (2147483647 : Int32)) % (6 : Int32)) ((p1 &&& (2147483647 : Int32)) % (6 : Int32)))), .val (.ref b293), .val (.int (1 : Int32))] [])) _
                  refine XS.iload X591.here hx rfl (hb hby at_145) rfl ?_
                  show Steps p.tables e below (T591.setTop (mkF m 147 #[.val (.int p0), .val (.int p1), .val (.int p2), .val (.int p3), .val (.int ((p0 &&& (2147483647 : Int32)) % (6 : Int32))), .val (.int (j1g_0 ((p0 &&& (2147483647 : Int32)) % (6 : Int32)) ((p1 &&& (2147483647 : Int32)) % (6 : Int32)))), .val (.ref b293), .val (.int (1 : Int32))] [(.int (j1g_0 ((p0 &&& (2147483647 : Int32)) % (6 : Int32)) ((p1 &&& (2147483647 : Int32)) % (6 : Int32))))])) _
                  refine XS.iconst X591.here hx rfl (hb hby at_147) ?_
                  show Steps p.tables e below (T591.setTop (mkF m 148 #[.val (.int p0), .val (.int p1), .val (.int p2), .val (.int p3), .val (.int ((p0 &&& (2147483647 : Int32)) % (6 : Int32))), .val (.int (j1g_0 ((p0 &&& (2147483647 : Int32)) % (6 : Int32)) ((p1 &&& (2147483647 : Int32)) % (6 : Int32)))), .val (.ref b293), .val (.int (1 : Int32))] [(.int (4 : Int32)), (.int (j1g_0 ((p0 &&& (2147483647 : Int32)) % (6 : Int32)) ((p1 &&& (2147483647 : Int32)) % (6 : Int32))))])) _
                  refine XS.icmpYes X591.here hx rfl (pc0 := 148) (pc' := 157) rfl (hb hby at_148) rfl (flt (own_mn (own_up hc340 (by decide)))).2.2.2 (by decide) (by decide) ?_
                  show Steps p.tables e below (T591.setTop (mkF m 157 #[.val (.int p0), .val (.int p1), .val (.int p2), .val (.int p3), .val (.int ((p0 &&& (2147483647 : Int32)) % (6 : Int32))), .val (.int (j1g_0 ((p0 &&& (2147483647 : Int32)) % (6 : Int32)) ((p1 &&& (2147483647 : Int32)) % (6 : Int32)))), .val (.ref b293), .val (.int (1 : Int32))] [])) _
                  refine XS.iload X591.here hx rfl (hb hby at_157) rfl ?_
                  show Steps p.tables e below (T591.setTop (mkF m 159 #[.val (.int p0), .val (.int p1), .val (.int p2), .val (.int p3), .val (.int ((p0 &&& (2147483647 : Int32)) % (6 : Int32))), .val (.int (j1g_0 ((p0 &&& (2147483647 : Int32)) % (6 : Int32)) ((p1 &&& (2147483647 : Int32)) % (6 : Int32)))), .val (.ref b293), .val (.int (1 : Int32))] [(.int (1 : Int32))])) _
                  refine XS.ifNo X591.here hx rfl (hb hby at_159) rfl ((if0 _ _).trans (feq (by decide : ¬ ((1 : Int32) = (0 : Int32)))).1) ?_
                  show Steps p.tables e below (T591.setTop (mkF m 162 #[.val (.int p0), .val (.int p1), .val (.int p2), .val (.int p3), .val (.int ((p0 &&& (2147483647 : Int32)) % (6 : Int32))), .val (.int (j1g_0 ((p0 &&& (2147483647 : Int32)) % (6 : Int32)) ((p1 &&& (2147483647 : Int32)) % (6 : Int32)))), .val (.ref b293), .val (.int (1 : Int32))] [])) _
                  refine XS.aload X591.here hx rfl (hb hby at_162) rfl rfl ?_
                  show Steps p.tables e below (T591.setTop (mkF m 164 #[.val (.int p0), .val (.int p1), .val (.int p2), .val (.int p3), .val (.int ((p0 &&& (2147483647 : Int32)) % (6 : Int32))), .val (.int (j1g_0 ((p0 &&& (2147483647 : Int32)) % (6 : Int32)) ((p1 &&& (2147483647 : Int32)) % (6 : Int32)))), .val (.ref b293), .val (.int (1 : Int32))] [(.ref b293)])) _
                  refine st599.trans ?_
                  show Steps p.tables e below (T599.setTop (mkF m 167 #[.val (.int p0), .val (.int p1), .val (.int p2), .val (.int p3), .val (.int ((p0 &&& (2147483647 : Int32)) % (6 : Int32))), .val (.int (j1g_0 ((p0 &&& (2147483647 : Int32)) % (6 : Int32)) ((p1 &&& (2147483647 : Int32)) % (6 : Int32)))), .val (.ref b293), .val (.int (1 : Int32))] [(.int (1 : Int32))])) _
                  refine XS.iload X599.here hx rfl (hb hby at_167) rfl ?_
                  show Steps p.tables e below (T599.setTop (mkF m 169 #[.val (.int p0), .val (.int p1), .val (.int p2), .val (.int p3), .val (.int ((p0 &&& (2147483647 : Int32)) % (6 : Int32))), .val (.int (j1g_0 ((p0 &&& (2147483647 : Int32)) % (6 : Int32)) ((p1 &&& (2147483647 : Int32)) % (6 : Int32)))), .val (.ref b293), .val (.int (1 : Int32))] [(.int ((p0 &&& (2147483647 : Int32)) % (6 : Int32))), (.int (1 : Int32))])) _
                  refine XS.iload X599.here hx rfl (hb hby at_169) rfl ?_
                  exact k)
                have pre601 := fun (t : State) (k : Steps p.tables e below (T599.setTop (mkF m 179 #[.val (.int p0), .val (.int p1), .val (.int p2), .val (.int p3), .val (.int ((p0 &&& (2147483647 : Int32)) % (6 : Int32))), .val (.int (j1g_0 ((p0 &&& (2147483647 : Int32)) % (6 : Int32)) ((p1 &&& (2147483647 : Int32)) % (6 : Int32)))), .val (.ref b293), .val (.int (1 : Int32))] [(.int (j0_0 p0 p1)), (.int (1 : Int32))])) t) => pre600 t (by
                  by_cases hc602 : ((p0 &&& (2147483647 : Int32)) % (6 : Int32)) = (j1g_0 ((p0 &&& (2147483647 : Int32)) % (6 : Int32)) ((p1 &&& (2147483647 : Int32)) % (6 : Int32)))
                  · skip
                    show Steps p.tables e below (T599.setTop (mkF m 171 #[.val (.int p0), .val (.int p1), .val (.int p2), .val (.int p3), .val (.int ((p0 &&& (2147483647 : Int32)) % (6 : Int32))), .val (.int (j1g_0 ((p0 &&& (2147483647 : Int32)) % (6 : Int32)) ((p1 &&& (2147483647 : Int32)) % (6 : Int32)))), .val (.ref b293), .val (.int (1 : Int32))] [(.int (j1g_0 ((p0 &&& (2147483647 : Int32)) % (6 : Int32)) ((p1 &&& (2147483647 : Int32)) % (6 : Int32)))), (.int ((p0 &&& (2147483647 : Int32)) % (6 : Int32))), (.int (1 : Int32))])) _
                    refine XS.icmpNo X599.here hx rfl (hb hby at_171) rfl (teq hc602).2 ?_
                    show Steps p.tables e below (T599.setTop (mkF m 174 #[.val (.int p0), .val (.int p1), .val (.int p2), .val (.int p3), .val (.int ((p0 &&& (2147483647 : Int32)) % (6 : Int32))), .val (.int (j1g_0 ((p0 &&& (2147483647 : Int32)) % (6 : Int32)) ((p1 &&& (2147483647 : Int32)) % (6 : Int32)))), .val (.ref b293), .val (.int (1 : Int32))] [(.int (1 : Int32))])) _
                    refine XS.iconst X599.here hx rfl (hb hby at_174) ?_
                    show Steps p.tables e below (T599.setTop (mkF m 175 #[.val (.int p0), .val (.int p1), .val (.int p2), .val (.int p3), .val (.int ((p0 &&& (2147483647 : Int32)) % (6 : Int32))), .val (.int (j1g_0 ((p0 &&& (2147483647 : Int32)) % (6 : Int32)) ((p1 &&& (2147483647 : Int32)) % (6 : Int32)))), .val (.ref b293), .val (.int (1 : Int32))] [(.int (1 : Int32)), (.int (1 : Int32))])) _
                    refine XS.goto X599.here hx rfl (pc0 := 175) (pc' := 179) rfl (hb hby at_175) (by decide) (by decide) ?_
                    have hj603 : (j0_0 p0 p1) = (1 : Int32) := by unfold j0_0; first | (rw [if_pos hc602]) | (simp only [if_pos hc602])
                    rw [hj603] at k
                    exact k
                  · skip
                    show Steps p.tables e below (T599.setTop (mkF m 171 #[.val (.int p0), .val (.int p1), .val (.int p2), .val (.int p3), .val (.int ((p0 &&& (2147483647 : Int32)) % (6 : Int32))), .val (.int (j1g_0 ((p0 &&& (2147483647 : Int32)) % (6 : Int32)) ((p1 &&& (2147483647 : Int32)) % (6 : Int32)))), .val (.ref b293), .val (.int (1 : Int32))] [(.int (j1g_0 ((p0 &&& (2147483647 : Int32)) % (6 : Int32)) ((p1 &&& (2147483647 : Int32)) % (6 : Int32)))), (.int ((p0 &&& (2147483647 : Int32)) % (6 : Int32))), (.int (1 : Int32))])) _
                    refine XS.icmpYes X599.here hx rfl (pc0 := 171) (pc' := 178) rfl (hb hby at_171) rfl (feq hc602).2 (by decide) (by decide) ?_
                    show Steps p.tables e below (T599.setTop (mkF m 178 #[.val (.int p0), .val (.int p1), .val (.int p2), .val (.int p3), .val (.int ((p0 &&& (2147483647 : Int32)) % (6 : Int32))), .val (.int (j1g_0 ((p0 &&& (2147483647 : Int32)) % (6 : Int32)) ((p1 &&& (2147483647 : Int32)) % (6 : Int32)))), .val (.ref b293), .val (.int (1 : Int32))] [(.int (1 : Int32))])) _
                    refine XS.iconst X599.here hx rfl (hb hby at_178) ?_
                    have hj604 : (j0_0 p0 p1) = (0 : Int32) := by unfold j0_0; first | (rw [if_neg hc602]) | (simp only [if_neg hc602])
                    rw [hj604] at k
                    exact k)
                have pre605 := fun (t : State) (k : Steps p.tables e below (T599.setTop (mkF m 187 #[.val (.int p0), .val (.int p1), .val (.int p2), .val (.int p3), .val (.int ((p0 &&& (2147483647 : Int32)) % (6 : Int32))), .val (.int (j1g_0 ((p0 &&& (2147483647 : Int32)) % (6 : Int32)) ((p1 &&& (2147483647 : Int32)) % (6 : Int32)))), .val (.ref b293), .val (.int (1 : Int32))] [(.int (j0_1 p0 p1))])) t) => pre601 t (by
                  by_cases hc606 : (1 : Int32) = (j0_0 p0 p1)
                  · skip
                    show Steps p.tables e below (T599.setTop (mkF m 179 #[.val (.int p0), .val (.int p1), .val (.int p2), .val (.int p3), .val (.int ((p0 &&& (2147483647 : Int32)) % (6 : Int32))), .val (.int (j1g_0 ((p0 &&& (2147483647 : Int32)) % (6 : Int32)) ((p1 &&& (2147483647 : Int32)) % (6 : Int32)))), .val (.ref b293), .val (.int (1 : Int32))] [(.int (j0_0 p0 p1)), (.int (1 : Int32))])) _
                    refine XS.icmpNo X599.here hx rfl (hb hby at_179) rfl (teq hc606).2 ?_
                    show Steps p.tables e below (T599.setTop (mkF m 182 #[.val (.int p0), .val (.int p1), .val (.int p2), .val (.int p3), .val (.int ((p0 &&& (2147483647 : Int32)) % (6 : Int32))), .val (.int (j1g_0 ((p0 &&& (2147483647 : Int32)) % (6 : Int32)) ((p1 &&& (2147483647 : Int32)) % (6 : Int32)))), .val (.ref b293), .val (.int (1 : Int32))] [])) _
                    refine XS.iconst X599.here hx rfl (hb hby at_182) ?_
                    show Steps p.tables e below (T599.setTop (mkF m 183 #[.val (.int p0), .val (.int p1), .val (.int p2), .val (.int p3), .val (.int ((p0 &&& (2147483647 : Int32)) % (6 : Int32))), .val (.int (j1g_0 ((p0 &&& (2147483647 : Int32)) % (6 : Int32)) ((p1 &&& (2147483647 : Int32)) % (6 : Int32)))), .val (.ref b293), .val (.int (1 : Int32))] [(.int (1 : Int32))])) _
                    refine XS.goto X599.here hx rfl (pc0 := 183) (pc' := 187) rfl (hb hby at_183) (by decide) (by decide) ?_
                    have hj607 : (j0_1 p0 p1) = (1 : Int32) := by unfold j0_1; first | (rw [if_pos hc606]) | (simp only [if_pos hc606])
                    rw [hj607] at k
                    exact k
                  · skip
                    show Steps p.tables e below (T599.setTop (mkF m 179 #[.val (.int p0), .val (.int p1), .val (.int p2), .val (.int p3), .val (.int ((p0 &&& (2147483647 : Int32)) % (6 : Int32))), .val (.int (j1g_0 ((p0 &&& (2147483647 : Int32)) % (6 : Int32)) ((p1 &&& (2147483647 : Int32)) % (6 : Int32)))), .val (.ref b293), .val (.int (1 : Int32))] [(.int (j0_0 p0 p1)), (.int (1 : Int32))])) _
                    refine XS.icmpYes X599.here hx rfl (pc0 := 179) (pc' := 186) rfl (hb hby at_179) rfl (feq hc606).2 (by decide) (by decide) ?_
                    show Steps p.tables e below (T599.setTop (mkF m 186 #[.val (.int p0), .val (.int p1), .val (.int p2), .val (.int p3), .val (.int ((p0 &&& (2147483647 : Int32)) % (6 : Int32))), .val (.int (j1g_0 ((p0 &&& (2147483647 : Int32)) % (6 : Int32)) ((p1 &&& (2147483647 : Int32)) % (6 : Int32)))), .val (.ref b293), .val (.int (1 : Int32))] [])) _
                    refine XS.iconst X599.here hx rfl (hb hby at_186) ?_
                    have hj608 : (j0_1 p0 p1) = (0 : Int32) := by unfold j0_1; first | (rw [if_neg hc606]) | (simp only [if_neg hc606])
                    rw [hj608] at k
                    exact k)
                obtain ⟨fs, hr, hrun, hended, hW, hsame⟩ := X599.leave (v := some (.int (nar .boolean (j0_1 p0 p1)))) (fun h => by rw [Bd.returns] at h; cases h)
                refine ⟨_, _, pre605 _ ?_, hrun, hended, _, _, rfl, ?_, ⟨_, rfl⟩, hW, hsame.mono (by decide) (by decide)⟩
                · skip
                  show Steps p.tables e below (T599.setTop (mkF m 187 #[.val (.int p0), .val (.int p1), .val (.int p2), .val (.int p3), .val (.int ((p0 &&& (2147483647 : Int32)) % (6 : Int32))), .val (.int (j1g_0 ((p0 &&& (2147483647 : Int32)) % (6 : Int32)) ((p1 &&& (2147483647 : Int32)) % (6 : Int32)))), .val (.ref b293), .val (.int (1 : Int32))] [(.int (j0_1 p0 p1))])) _
                  exact retN X599 hx (t := .boolean) Bd.returns (by simp) (hb hby at_187) hr
                · show Q0 Z p0 p1 p2 p3 h0 n0 _ T599.heap _
                  rw [e599]
                  have hv : (nar .boolean (j0_1 p0 p1)) = (v0 p0 p1) := by unfold v0; first | (rw [if_pos hc307, if_pos hc318, if_pos hc329, if_neg hc340, if_pos hc569, if_pos hc579, if_pos hc589]) | (simp only [if_pos hc307, if_pos hc318, if_pos hc329, if_neg hc340, if_pos hc569, if_pos hc579, if_pos hc589])
                  exact ⟨(by rw [← hv]), N599⟩
              · skip
                obtain ⟨cq609, kq609, q609a, q609b, q609c⟩ := isOf hZ e581 f582
                obtain ⟨_, _, ⟨T609, L609, k609, n609⟩, -, X609, ⟨Lc609, hQ609, l609, y609, z609⟩, st609⟩ := X581.virtualBack hx (y := (⟨"com/example/subsumer/subsumer/classification/IntList", "isEmpty", "()Z"⟩ : MethodName)) (z := (⟨"com/example/subsumer/subsumer/classification/IntList", "isEmpty", "()Z"⟩ : MethodName)) hown (mvT hZ (hw _ (List.mem_of_getElem? (i := 17) rfl))) (mvT hZ (hw _ (List.mem_of_getElem? (i := 18) rfl))) (notFace_of_selects (args := #[]) (mvT hZ (hw _ (List.mem_of_getElem? (i := 20) rfl)))) (mvT hZ (hw _ (List.mem_of_getElem? (i := 20) rfl))) (mvT hZ (hw _ (List.mem_of_getElem? (i := 19) rfl))) (by decide) (backOf (W := 0) (rm4_1 l Z aw hw [] b293 h581 n0 Z581 f582 f583) hZ (hw _ (List.mem_of_getElem? (i := 21) rfl)) (hw _ (List.mem_of_getElem? (i := 7) rfl)) (by decide) (by decide)) q609a q609c (g := (mkF m 164 #[.val (.int p0), .val (.int p1), .val (.int p2), .val (.int p3), .val (.int ((p0 &&& (2147483647 : Int32)) % (6 : Int32))), .val (.int (j1g_0 ((p0 &&& (2147483647 : Int32)) % (6 : Int32)) ((p1 &&& (2147483647 : Int32)) % (6 : Int32)))), .val (.ref b293), .val (.int (1 : Int32))] [(.ref b293)])) rfl (by rw [hml]; rfl) (Steps.refl _) (argsL := []) (rest := []) (lenOf pd_5 rfl) rfl (by show 2 * 0 + _ ≤ _; exact Nat.le_of_eq rfl) (hb hby at_164) (fun _ _ => ⟨rfl, e581, (by decide : 2 + 0 ≤ _), (by decide : 6 + 0 ≤ _)⟩)
                dsimp only [Pt.U, Pt.locs, Pt.cells, Pt.slots] at X609 l609 y609 z609 st609 hQ609
                subst l609 y609 z609
                obtain ⟨rfl, N609q, e609⟩ := hQ609
                have N609 := Fr.app N581 N609q
                have pre610 := fun (t : State) (k : Steps p.tables e below (T609.setTop (mkF m 171 #[.val (.int p0), .val (.int p1), .val (.int p2), .val (.int p3), .val (.int ((p0 &&& (2147483647 : Int32)) % (6 : Int32))), .val (.int (j1g_0 ((p0 &&& (2147483647 : Int32)) % (6 : Int32)) ((p1 &&& (2147483647 : Int32)) % (6 : Int32)))), .val (.ref b293), .val (.int (1 : Int32))] [(.int (j1g_0 ((p0 &&& (2147483647 : Int32)) % (6 : Int32)) ((p1 &&& (2147483647 : Int32)) % (6 : Int32)))), (.int ((p0 &&& (2147483647 : Int32)) % (6 : Int32))), (.int (0 : Int32))])) t) => pre590 t (by
                  show Steps p.tables e below (T581.setTop (mkF m 124 #[.val (.int p0), .val (.int p1), .val (.int p2), .val (.int p3), .val (.int ((p0 &&& (2147483647 : Int32)) % (6 : Int32))), .val (.int (j1g_0 ((p0 &&& (2147483647 : Int32)) % (6 : Int32)) ((p1 &&& (2147483647 : Int32)) % (6 : Int32)))), .val (.ref b293), .val (.int (1 : Int32))] [(.int (2 : Int32)), (.int (j1g_0 ((p0 &&& (2147483647 : Int32)) % (6 : Int32)) ((p1 &&& (2147483647 : Int32)) % (6 : Int32))))])) _
                  refine XS.icmpYes X581.here hx rfl (pc0 := 124) (pc' := 133) rfl (hb hby at_124) rfl (flt hc589).2.2.2 (by decide) (by decide) ?_
                  show Steps p.tables e below (T581.setTop (mkF m 133 #[.val (.int p0), .val (.int p1), .val (.int p2), .val (.int p3), .val (.int ((p0 &&& (2147483647 : Int32)) % (6 : Int32))), .val (.int (j1g_0 ((p0 &&& (2147483647 : Int32)) % (6 : Int32)) ((p1 &&& (2147483647 : Int32)) % (6 : Int32)))), .val (.ref b293), .val (.int (1 : Int32))] [])) _
                  refine XS.iload X581.here hx rfl (hb hby at_133) rfl ?_
                  show Steps p.tables e below (T581.setTop (mkF m 135 #[.val (.int p0), .val (.int p1), .val (.int p2), .val (.int p3), .val (.int ((p0 &&& (2147483647 : Int32)) % (6 : Int32))), .val (.int (j1g_0 ((p0 &&& (2147483647 : Int32)) % (6 : Int32)) ((p1 &&& (2147483647 : Int32)) % (6 : Int32)))), .val (.ref b293), .val (.int (1 : Int32))] [(.int (j1g_0 ((p0 &&& (2147483647 : Int32)) % (6 : Int32)) ((p1 &&& (2147483647 : Int32)) % (6 : Int32))))])) _
                  refine XS.iconst X581.here hx rfl (hb hby at_135) ?_
                  show Steps p.tables e below (T581.setTop (mkF m 136 #[.val (.int p0), .val (.int p1), .val (.int p2), .val (.int p3), .val (.int ((p0 &&& (2147483647 : Int32)) % (6 : Int32))), .val (.int (j1g_0 ((p0 &&& (2147483647 : Int32)) % (6 : Int32)) ((p1 &&& (2147483647 : Int32)) % (6 : Int32)))), .val (.ref b293), .val (.int (1 : Int32))] [(.int (3 : Int32)), (.int (j1g_0 ((p0 &&& (2147483647 : Int32)) % (6 : Int32)) ((p1 &&& (2147483647 : Int32)) % (6 : Int32))))])) _
                  refine XS.icmpYes X581.here hx rfl (pc0 := 136) (pc' := 145) rfl (hb hby at_136) rfl (flt (own_mn (own_up hc340 (by decide)))).2.2.2 (by decide) (by decide) ?_
                  show Steps p.tables e below (T581.setTop (mkF m 145 #[.val (.int p0), .val (.int p1), .val (.int p2), .val (.int p3), .val (.int ((p0 &&& (2147483647 : Int32)) % (6 : Int32))), .val (.int (j1g_0 ((p0 &&& (2147483647 : Int32)) % (6 : Int32)) ((p1 &&& (2147483647 : Int32)) % (6 : Int32)))), .val (.ref b293), .val (.int (1 : Int32))] [])) _
                  refine XS.iload X581.here hx rfl (hb hby at_145) rfl ?_
                  show Steps p.tables e below (T581.setTop (mkF m 147 #[.val (.int p0), .val (.int p1), .val (.int p2), .val (.int p3), .val (.int ((p0 &&& (2147483647 : Int32)) % (6 : Int32))), .val (.int (j1g_0 ((p0 &&& (2147483647 : Int32)) % (6 : Int32)) ((p1 &&& (2147483647 : Int32)) % (6 : Int32)))), .val (.ref b293), .val (.int (1 : Int32))] [(.int (j1g_0 ((p0 &&& (2147483647 : Int32)) % (6 : Int32)) ((p1 &&& (2147483647 : Int32)) % (6 : Int32))))])) _
                  refine XS.iconst X581.here hx rfl (hb hby at_147) ?_
                  show Steps p.tables e below (T581.setTop (mkF m 148 #[.val (.int p0), .val (.int p1), .val (.int p2), .val (.int p3), .val (.int ((p0 &&& (2147483647 : Int32)) % (6 : Int32))), .val (.int (j1g_0 ((p0 &&& (2147483647 : Int32)) % (6 : Int32)) ((p1 &&& (2147483647 : Int32)) % (6 : Int32)))), .val (.ref b293), .val (.int (1 : Int32))] [(.int (4 : Int32)), (.int (j1g_0 ((p0 &&& (2147483647 : Int32)) % (6 : Int32)) ((p1 &&& (2147483647 : Int32)) % (6 : Int32))))])) _
                  refine XS.icmpYes X581.here hx rfl (pc0 := 148) (pc' := 157) rfl (hb hby at_148) rfl (flt (own_mn (own_up hc340 (by decide)))).2.2.2 (by decide) (by decide) ?_
                  show Steps p.tables e below (T581.setTop (mkF m 157 #[.val (.int p0), .val (.int p1), .val (.int p2), .val (.int p3), .val (.int ((p0 &&& (2147483647 : Int32)) % (6 : Int32))), .val (.int (j1g_0 ((p0 &&& (2147483647 : Int32)) % (6 : Int32)) ((p1 &&& (2147483647 : Int32)) % (6 : Int32)))), .val (.ref b293), .val (.int (1 : Int32))] [])) _
                  refine XS.iload X581.here hx rfl (hb hby at_157) rfl ?_
                  show Steps p.tables e below (T581.setTop (mkF m 159 #[.val (.int p0), .val (.int p1), .val (.int p2), .val (.int p3), .val (.int ((p0 &&& (2147483647 : Int32)) % (6 : Int32))), .val (.int (j1g_0 ((p0 &&& (2147483647 : Int32)) % (6 : Int32)) ((p1 &&& (2147483647 : Int32)) % (6 : Int32)))), .val (.ref b293), .val (.int (1 : Int32))] [(.int (1 : Int32))])) _
                  refine XS.ifNo X581.here hx rfl (hb hby at_159) rfl ((if0 _ _).trans (feq (by decide : ¬ ((1 : Int32) = (0 : Int32)))).1) ?_
                  show Steps p.tables e below (T581.setTop (mkF m 162 #[.val (.int p0), .val (.int p1), .val (.int p2), .val (.int p3), .val (.int ((p0 &&& (2147483647 : Int32)) % (6 : Int32))), .val (.int (j1g_0 ((p0 &&& (2147483647 : Int32)) % (6 : Int32)) ((p1 &&& (2147483647 : Int32)) % (6 : Int32)))), .val (.ref b293), .val (.int (1 : Int32))] [])) _
                  refine XS.aload X581.here hx rfl (hb hby at_162) rfl rfl ?_
                  show Steps p.tables e below (T581.setTop (mkF m 164 #[.val (.int p0), .val (.int p1), .val (.int p2), .val (.int p3), .val (.int ((p0 &&& (2147483647 : Int32)) % (6 : Int32))), .val (.int (j1g_0 ((p0 &&& (2147483647 : Int32)) % (6 : Int32)) ((p1 &&& (2147483647 : Int32)) % (6 : Int32)))), .val (.ref b293), .val (.int (1 : Int32))] [(.ref b293)])) _
                  refine st609.trans ?_
                  show Steps p.tables e below (T609.setTop (mkF m 167 #[.val (.int p0), .val (.int p1), .val (.int p2), .val (.int p3), .val (.int ((p0 &&& (2147483647 : Int32)) % (6 : Int32))), .val (.int (j1g_0 ((p0 &&& (2147483647 : Int32)) % (6 : Int32)) ((p1 &&& (2147483647 : Int32)) % (6 : Int32)))), .val (.ref b293), .val (.int (1 : Int32))] [(.int (0 : Int32))])) _
                  refine XS.iload X609.here hx rfl (hb hby at_167) rfl ?_
                  show Steps p.tables e below (T609.setTop (mkF m 169 #[.val (.int p0), .val (.int p1), .val (.int p2), .val (.int p3), .val (.int ((p0 &&& (2147483647 : Int32)) % (6 : Int32))), .val (.int (j1g_0 ((p0 &&& (2147483647 : Int32)) % (6 : Int32)) ((p1 &&& (2147483647 : Int32)) % (6 : Int32)))), .val (.ref b293), .val (.int (1 : Int32))] [(.int ((p0 &&& (2147483647 : Int32)) % (6 : Int32))), (.int (0 : Int32))])) _
                  refine XS.iload X609.here hx rfl (hb hby at_169) rfl ?_
                  exact k)
                have pre611 := fun (t : State) (k : Steps p.tables e below (T609.setTop (mkF m 179 #[.val (.int p0), .val (.int p1), .val (.int p2), .val (.int p3), .val (.int ((p0 &&& (2147483647 : Int32)) % (6 : Int32))), .val (.int (j1g_0 ((p0 &&& (2147483647 : Int32)) % (6 : Int32)) ((p1 &&& (2147483647 : Int32)) % (6 : Int32)))), .val (.ref b293), .val (.int (1 : Int32))] [(.int (j0_0 p0 p1)), (.int (0 : Int32))])) t) => pre610 t (by
                  by_cases hc612 : ((p0 &&& (2147483647 : Int32)) % (6 : Int32)) = (j1g_0 ((p0 &&& (2147483647 : Int32)) % (6 : Int32)) ((p1 &&& (2147483647 : Int32)) % (6 : Int32)))
                  · skip
                    show Steps p.tables e below (T609.setTop (mkF m 171 #[.val (.int p0), .val (.int p1), .val (.int p2), .val (.int p3), .val (.int ((p0 &&& (2147483647 : Int32)) % (6 : Int32))), .val (.int (j1g_0 ((p0 &&& (2147483647 : Int32)) % (6 : Int32)) ((p1 &&& (2147483647 : Int32)) % (6 : Int32)))), .val (.ref b293), .val (.int (1 : Int32))] [(.int (j1g_0 ((p0 &&& (2147483647 : Int32)) % (6 : Int32)) ((p1 &&& (2147483647 : Int32)) % (6 : Int32)))), (.int ((p0 &&& (2147483647 : Int32)) % (6 : Int32))), (.int (0 : Int32))])) _
                    refine XS.icmpNo X609.here hx rfl (hb hby at_171) rfl (teq hc612).2 ?_
                    show Steps p.tables e below (T609.setTop (mkF m 174 #[.val (.int p0), .val (.int p1), .val (.int p2), .val (.int p3), .val (.int ((p0 &&& (2147483647 : Int32)) % (6 : Int32))), .val (.int (j1g_0 ((p0 &&& (2147483647 : Int32)) % (6 : Int32)) ((p1 &&& (2147483647 : Int32)) % (6 : Int32)))), .val (.ref b293), .val (.int (1 : Int32))] [(.int (0 : Int32))])) _
                    refine XS.iconst X609.here hx rfl (hb hby at_174) ?_
                    show Steps p.tables e below (T609.setTop (mkF m 175 #[.val (.int p0), .val (.int p1), .val (.int p2), .val (.int p3), .val (.int ((p0 &&& (2147483647 : Int32)) % (6 : Int32))), .val (.int (j1g_0 ((p0 &&& (2147483647 : Int32)) % (6 : Int32)) ((p1 &&& (2147483647 : Int32)) % (6 : Int32)))), .val (.ref b293), .val (.int (1 : Int32))] [(.int (1 : Int32)), (.int (0 : Int32))])) _
                    refine XS.goto X609.here hx rfl (pc0 := 175) (pc' := 179) rfl (hb hby at_175) (by decide) (by decide) ?_
                    have hj613 : (j0_0 p0 p1) = (1 : Int32) := by unfold j0_0; first | (rw [if_pos hc612]) | (simp only [if_pos hc612])
                    rw [hj613] at k
                    exact k
                  · skip
                    show Steps p.tables e below (T609.setTop (mkF m 171 #[.val (.int p0), .val (.int p1), .val (.int p2), .val (.int p3), .val (.int ((p0 &&& (2147483647 : Int32)) % (6 : Int32))), .val (.int (j1g_0 ((p0 &&& (2147483647 : Int32)) % (6 : Int32)) ((p1 &&& (2147483647 : Int32)) % (6 : Int32)))), .val (.ref b293), .val (.int (1 : Int32))] [(.int (j1g_0 ((p0 &&& (2147483647 : Int32)) % (6 : Int32)) ((p1 &&& (2147483647 : Int32)) % (6 : Int32)))), (.int ((p0 &&& (2147483647 : Int32)) % (6 : Int32))), (.int (0 : Int32))])) _
                    refine XS.icmpYes X609.here hx rfl (pc0 := 171) (pc' := 178) rfl (hb hby at_171) rfl (feq hc612).2 (by decide) (by decide) ?_
                    show Steps p.tables e below (T609.setTop (mkF m 178 #[.val (.int p0), .val (.int p1), .val (.int p2), .val (.int p3), .val (.int ((p0 &&& (2147483647 : Int32)) % (6 : Int32))), .val (.int (j1g_0 ((p0 &&& (2147483647 : Int32)) % (6 : Int32)) ((p1 &&& (2147483647 : Int32)) % (6 : Int32)))), .val (.ref b293), .val (.int (1 : Int32))] [(.int (0 : Int32))])) _
                    refine XS.iconst X609.here hx rfl (hb hby at_178) ?_
                    have hj614 : (j0_0 p0 p1) = (0 : Int32) := by unfold j0_0; first | (rw [if_neg hc612]) | (simp only [if_neg hc612])
                    rw [hj614] at k
                    exact k)
                have pre615 := fun (t : State) (k : Steps p.tables e below (T609.setTop (mkF m 187 #[.val (.int p0), .val (.int p1), .val (.int p2), .val (.int p3), .val (.int ((p0 &&& (2147483647 : Int32)) % (6 : Int32))), .val (.int (j1g_0 ((p0 &&& (2147483647 : Int32)) % (6 : Int32)) ((p1 &&& (2147483647 : Int32)) % (6 : Int32)))), .val (.ref b293), .val (.int (1 : Int32))] [(.int (j0_2 p0 p1))])) t) => pre611 t (by
                  by_cases hc616 : (0 : Int32) = (j0_0 p0 p1)
                  · skip
                    show Steps p.tables e below (T609.setTop (mkF m 179 #[.val (.int p0), .val (.int p1), .val (.int p2), .val (.int p3), .val (.int ((p0 &&& (2147483647 : Int32)) % (6 : Int32))), .val (.int (j1g_0 ((p0 &&& (2147483647 : Int32)) % (6 : Int32)) ((p1 &&& (2147483647 : Int32)) % (6 : Int32)))), .val (.ref b293), .val (.int (1 : Int32))] [(.int (j0_0 p0 p1)), (.int (0 : Int32))])) _
                    refine XS.icmpNo X609.here hx rfl (hb hby at_179) rfl (teq hc616).2 ?_
                    show Steps p.tables e below (T609.setTop (mkF m 182 #[.val (.int p0), .val (.int p1), .val (.int p2), .val (.int p3), .val (.int ((p0 &&& (2147483647 : Int32)) % (6 : Int32))), .val (.int (j1g_0 ((p0 &&& (2147483647 : Int32)) % (6 : Int32)) ((p1 &&& (2147483647 : Int32)) % (6 : Int32)))), .val (.ref b293), .val (.int (1 : Int32))] [])) _
                    refine XS.iconst X609.here hx rfl (hb hby at_182) ?_
                    show Steps p.tables e below (T609.setTop (mkF m 183 #[.val (.int p0), .val (.int p1), .val (.int p2), .val (.int p3), .val (.int ((p0 &&& (2147483647 : Int32)) % (6 : Int32))), .val (.int (j1g_0 ((p0 &&& (2147483647 : Int32)) % (6 : Int32)) ((p1 &&& (2147483647 : Int32)) % (6 : Int32)))), .val (.ref b293), .val (.int (1 : Int32))] [(.int (1 : Int32))])) _
                    refine XS.goto X609.here hx rfl (pc0 := 183) (pc' := 187) rfl (hb hby at_183) (by decide) (by decide) ?_
                    have hj617 : (j0_2 p0 p1) = (1 : Int32) := by unfold j0_2; first | (rw [if_pos hc616]) | (simp only [if_pos hc616])
                    rw [hj617] at k
                    exact k
                  · skip
                    show Steps p.tables e below (T609.setTop (mkF m 179 #[.val (.int p0), .val (.int p1), .val (.int p2), .val (.int p3), .val (.int ((p0 &&& (2147483647 : Int32)) % (6 : Int32))), .val (.int (j1g_0 ((p0 &&& (2147483647 : Int32)) % (6 : Int32)) ((p1 &&& (2147483647 : Int32)) % (6 : Int32)))), .val (.ref b293), .val (.int (1 : Int32))] [(.int (j0_0 p0 p1)), (.int (0 : Int32))])) _
                    refine XS.icmpYes X609.here hx rfl (pc0 := 179) (pc' := 186) rfl (hb hby at_179) rfl (feq hc616).2 (by decide) (by decide) ?_
                    show Steps p.tables e below (T609.setTop (mkF m 186 #[.val (.int p0), .val (.int p1), .val (.int p2), .val (.int p3), .val (.int ((p0 &&& (2147483647 : Int32)) % (6 : Int32))), .val (.int (j1g_0 ((p0 &&& (2147483647 : Int32)) % (6 : Int32)) ((p1 &&& (2147483647 : Int32)) % (6 : Int32)))), .val (.ref b293), .val (.int (1 : Int32))] [])) _
                    refine XS.iconst X609.here hx rfl (hb hby at_186) ?_
                    have hj618 : (j0_2 p0 p1) = (0 : Int32) := by unfold j0_2; first | (rw [if_neg hc616]) | (simp only [if_neg hc616])
                    rw [hj618] at k
                    exact k)
                obtain ⟨fs, hr, hrun, hended, hW, hsame⟩ := X609.leave (v := some (.int (nar .boolean (j0_2 p0 p1)))) (fun h => by rw [Bd.returns] at h; cases h)
                refine ⟨_, _, pre615 _ ?_, hrun, hended, _, _, rfl, ?_, ⟨_, rfl⟩, hW, hsame.mono (by decide) (by decide)⟩
                · skip
                  show Steps p.tables e below (T609.setTop (mkF m 187 #[.val (.int p0), .val (.int p1), .val (.int p2), .val (.int p3), .val (.int ((p0 &&& (2147483647 : Int32)) % (6 : Int32))), .val (.int (j1g_0 ((p0 &&& (2147483647 : Int32)) % (6 : Int32)) ((p1 &&& (2147483647 : Int32)) % (6 : Int32)))), .val (.ref b293), .val (.int (1 : Int32))] [(.int (j0_2 p0 p1))])) _
                  exact retN X609 hx (t := .boolean) Bd.returns (by simp) (hb hby at_187) hr
                · show Q0 Z p0 p1 p2 p3 h0 n0 _ T609.heap _
                  rw [e609]
                  have hv : (nar .boolean (j0_2 p0 p1)) = (v0 p0 p1) := by unfold v0; first | (rw [if_pos hc307, if_pos hc318, if_pos hc329, if_neg hc340, if_pos hc569, if_pos hc579, if_neg hc589]) | (simp only [if_pos hc307, if_pos hc318, if_pos hc329, if_neg hc340, if_pos hc569, if_pos hc579, if_neg hc589])
                  exact ⟨(by rw [← hv]), N609⟩
            · skip
              obtain ⟨cq619, kq619, q619a, q619b, q619c⟩ := isOf hZ e571 f572
              obtain ⟨_, _, ⟨T619, L619, k619, n619⟩, -, X619, ⟨Lc619, hQ619, l619, y619, z619⟩, st619⟩ := X571.virtualBack hx (y := (⟨"com/example/subsumer/subsumer/classification/IntList", "isEmpty", "()Z"⟩ : MethodName)) (z := (⟨"com/example/subsumer/subsumer/classification/IntList", "isEmpty", "()Z"⟩ : MethodName)) hown (mvT hZ (hw _ (List.mem_of_getElem? (i := 17) rfl))) (mvT hZ (hw _ (List.mem_of_getElem? (i := 18) rfl))) (notFace_of_selects (args := #[]) (mvT hZ (hw _ (List.mem_of_getElem? (i := 20) rfl)))) (mvT hZ (hw _ (List.mem_of_getElem? (i := 20) rfl))) (mvT hZ (hw _ (List.mem_of_getElem? (i := 19) rfl))) (by decide) (backOf (W := 0) (rm4_2 l Z aw hw [] b293 h571 n0 Z571 f572 f573) hZ (hw _ (List.mem_of_getElem? (i := 21) rfl)) (hw _ (List.mem_of_getElem? (i := 7) rfl)) (by decide) (by decide)) q619a q619c (g := (mkF m 164 #[.val (.int p0), .val (.int p1), .val (.int p2), .val (.int p3), .val (.int ((p0 &&& (2147483647 : Int32)) % (6 : Int32))), .val (.int (j1g_0 ((p0 &&& (2147483647 : Int32)) % (6 : Int32)) ((p1 &&& (2147483647 : Int32)) % (6 : Int32)))), .val (.ref b293), .val (.int (1 : Int32))] [(.ref b293)])) rfl (by rw [hml]; rfl) (Steps.refl _) (argsL := []) (rest := []) (lenOf pd_5 rfl) rfl (by show 2 * 0 + _ ≤ _; exact Nat.le_of_eq rfl) (hb hby at_164) (fun _ _ => ⟨rfl, e571, (by decide : 2 + 0 ≤ _), (by decide : 6 + 0 ≤ _)⟩)
              dsimp only [Pt.U, Pt.locs, Pt.cells, Pt.slots] at X619 l619 y619 z619 st619 hQ619
              subst l619 y619 z619
              obtain ⟨rfl, N619q, e619⟩ := hQ619
              have N619 := Fr.app N571 N619q
              have pre620 := fun (t : State) (k : Steps p.tables e below (T619.setTop (mkF m 171 #[.val (.int p0), .val (.int p1), .val (.int p2), .val (.int p3), .val (.int ((p0 &&& (2147483647 : Int32)) % (6 : Int32))), .val (.int (j1g_0 ((p0 &&& (2147483647 : Int32)) % (6 : Int32)) ((p1 &&& (2147483647 : Int32)) % (6 : Int32)))), .val (.ref b293), .val (.int (1 : Int32))] [(.int (j1g_0 ((p0 &&& (2147483647 : Int32)) % (6 : Int32)) ((p1 &&& (2147483647 : Int32)) % (6 : Int32)))), (.int ((p0 &&& (2147483647 : Int32)) % (6 : Int32))), (.int (0 : Int32))])) t) => pre580 t (by
                show Steps p.tables e below (T571.setTop (mkF m 112 #[.val (.int p0), .val (.int p1), .val (.int p2), .val (.int p3), .val (.int ((p0 &&& (2147483647 : Int32)) % (6 : Int32))), .val (.int (j1g_0 ((p0 &&& (2147483647 : Int32)) % (6 : Int32)) ((p1 &&& (2147483647 : Int32)) % (6 : Int32)))), .val (.ref b293), .val (.int (1 : Int32))] [(.int (1 : Int32)), (.int (j1g_0 ((p0 &&& (2147483647 : Int32)) % (6 : Int32)) ((p1 &&& (2147483647 : Int32)) % (6 : Int32))))])) _
                refine XS.icmpYes X571.here hx rfl (pc0 := 112) (pc' := 121) rfl (hb hby at_112) rfl (flt hc579).2.2.2 (by decide) (by decide) ?_
                show Steps p.tables e below (T571.setTop (mkF m 121 #[.val (.int p0), .val (.int p1), .val (.int p2), .val (.int p3), .val (.int ((p0 &&& (2147483647 : Int32)) % (6 : Int32))), .val (.int (j1g_0 ((p0 &&& (2147483647 : Int32)) % (6 : Int32)) ((p1 &&& (2147483647 : Int32)) % (6 : Int32)))), .val (.ref b293), .val (.int (1 : Int32))] [])) _
                refine XS.iload X571.here hx rfl (hb hby at_121) rfl ?_
                show Steps p.tables e below (T571.setTop (mkF m 123 #[.val (.int p0), .val (.int p1), .val (.int p2), .val (.int p3), .val (.int ((p0 &&& (2147483647 : Int32)) % (6 : Int32))), .val (.int (j1g_0 ((p0 &&& (2147483647 : Int32)) % (6 : Int32)) ((p1 &&& (2147483647 : Int32)) % (6 : Int32)))), .val (.ref b293), .val (.int (1 : Int32))] [(.int (j1g_0 ((p0 &&& (2147483647 : Int32)) % (6 : Int32)) ((p1 &&& (2147483647 : Int32)) % (6 : Int32))))])) _
                refine XS.iconst X571.here hx rfl (hb hby at_123) ?_
                show Steps p.tables e below (T571.setTop (mkF m 124 #[.val (.int p0), .val (.int p1), .val (.int p2), .val (.int p3), .val (.int ((p0 &&& (2147483647 : Int32)) % (6 : Int32))), .val (.int (j1g_0 ((p0 &&& (2147483647 : Int32)) % (6 : Int32)) ((p1 &&& (2147483647 : Int32)) % (6 : Int32)))), .val (.ref b293), .val (.int (1 : Int32))] [(.int (2 : Int32)), (.int (j1g_0 ((p0 &&& (2147483647 : Int32)) % (6 : Int32)) ((p1 &&& (2147483647 : Int32)) % (6 : Int32))))])) _
                refine XS.icmpYes X571.here hx rfl (pc0 := 124) (pc' := 133) rfl (hb hby at_124) rfl (flt (own_up hc579 (by decide))).2.2.2 (by decide) (by decide) ?_
                show Steps p.tables e below (T571.setTop (mkF m 133 #[.val (.int p0), .val (.int p1), .val (.int p2), .val (.int p3), .val (.int ((p0 &&& (2147483647 : Int32)) % (6 : Int32))), .val (.int (j1g_0 ((p0 &&& (2147483647 : Int32)) % (6 : Int32)) ((p1 &&& (2147483647 : Int32)) % (6 : Int32)))), .val (.ref b293), .val (.int (1 : Int32))] [])) _
                refine XS.iload X571.here hx rfl (hb hby at_133) rfl ?_
                show Steps p.tables e below (T571.setTop (mkF m 135 #[.val (.int p0), .val (.int p1), .val (.int p2), .val (.int p3), .val (.int ((p0 &&& (2147483647 : Int32)) % (6 : Int32))), .val (.int (j1g_0 ((p0 &&& (2147483647 : Int32)) % (6 : Int32)) ((p1 &&& (2147483647 : Int32)) % (6 : Int32)))), .val (.ref b293), .val (.int (1 : Int32))] [(.int (j1g_0 ((p0 &&& (2147483647 : Int32)) % (6 : Int32)) ((p1 &&& (2147483647 : Int32)) % (6 : Int32))))])) _
                refine XS.iconst X571.here hx rfl (hb hby at_135) ?_
                show Steps p.tables e below (T571.setTop (mkF m 136 #[.val (.int p0), .val (.int p1), .val (.int p2), .val (.int p3), .val (.int ((p0 &&& (2147483647 : Int32)) % (6 : Int32))), .val (.int (j1g_0 ((p0 &&& (2147483647 : Int32)) % (6 : Int32)) ((p1 &&& (2147483647 : Int32)) % (6 : Int32)))), .val (.ref b293), .val (.int (1 : Int32))] [(.int (3 : Int32)), (.int (j1g_0 ((p0 &&& (2147483647 : Int32)) % (6 : Int32)) ((p1 &&& (2147483647 : Int32)) % (6 : Int32))))])) _
                refine XS.icmpYes X571.here hx rfl (pc0 := 136) (pc' := 145) rfl (hb hby at_136) rfl (flt (own_mn (own_up hc340 (by decide)))).2.2.2 (by decide) (by decide) ?_
                show Steps p.tables e below (T571.setTop (mkF m 145 #[.val (.int p0), .val (.int p1), .val (.int p2), .val (.int p3), .val (.int ((p0 &&& (2147483647 : Int32)) % (6 : Int32))), .val (.int (j1g_0 ((p0 &&& (2147483647 : Int32)) % (6 : Int32)) ((p1 &&& (2147483647 : Int32)) % (6 : Int32)))), .val (.ref b293), .val (.int (1 : Int32))] [])) _
                refine XS.iload X571.here hx rfl (hb hby at_145) rfl ?_
                show Steps p.tables e below (T571.setTop (mkF m 147 #[.val (.int p0), .val (.int p1), .val (.int p2), .val (.int p3), .val (.int ((p0 &&& (2147483647 : Int32)) % (6 : Int32))), .val (.int (j1g_0 ((p0 &&& (2147483647 : Int32)) % (6 : Int32)) ((p1 &&& (2147483647 : Int32)) % (6 : Int32)))), .val (.ref b293), .val (.int (1 : Int32))] [(.int (j1g_0 ((p0 &&& (2147483647 : Int32)) % (6 : Int32)) ((p1 &&& (2147483647 : Int32)) % (6 : Int32))))])) _
                refine XS.iconst X571.here hx rfl (hb hby at_147) ?_
                show Steps p.tables e below (T571.setTop (mkF m 148 #[.val (.int p0), .val (.int p1), .val (.int p2), .val (.int p3), .val (.int ((p0 &&& (2147483647 : Int32)) % (6 : Int32))), .val (.int (j1g_0 ((p0 &&& (2147483647 : Int32)) % (6 : Int32)) ((p1 &&& (2147483647 : Int32)) % (6 : Int32)))), .val (.ref b293), .val (.int (1 : Int32))] [(.int (4 : Int32)), (.int (j1g_0 ((p0 &&& (2147483647 : Int32)) % (6 : Int32)) ((p1 &&& (2147483647 : Int32)) % (6 : Int32))))])) _
                refine XS.icmpYes X571.here hx rfl (pc0 := 148) (pc' := 157) rfl (hb hby at_148) rfl (flt (own_mn (own_up hc340 (by decide)))).2.2.2 (by decide) (by decide) ?_
                show Steps p.tables e below (T571.setTop (mkF m 157 #[.val (.int p0), .val (.int p1), .val (.int p2), .val (.int p3), .val (.int ((p0 &&& (2147483647 : Int32)) % (6 : Int32))), .val (.int (j1g_0 ((p0 &&& (2147483647 : Int32)) % (6 : Int32)) ((p1 &&& (2147483647 : Int32)) % (6 : Int32)))), .val (.ref b293), .val (.int (1 : Int32))] [])) _
                refine XS.iload X571.here hx rfl (hb hby at_157) rfl ?_
                show Steps p.tables e below (T571.setTop (mkF m 159 #[.val (.int p0), .val (.int p1), .val (.int p2), .val (.int p3), .val (.int ((p0 &&& (2147483647 : Int32)) % (6 : Int32))), .val (.int (j1g_0 ((p0 &&& (2147483647 : Int32)) % (6 : Int32)) ((p1 &&& (2147483647 : Int32)) % (6 : Int32)))), .val (.ref b293), .val (.int (1 : Int32))] [(.int (1 : Int32))])) _
                refine XS.ifNo X571.here hx rfl (hb hby at_159) rfl ((if0 _ _).trans (feq (by decide : ¬ ((1 : Int32) = (0 : Int32)))).1) ?_
                show Steps p.tables e below (T571.setTop (mkF m 162 #[.val (.int p0), .val (.int p1), .val (.int p2), .val (.int p3), .val (.int ((p0 &&& (2147483647 : Int32)) % (6 : Int32))), .val (.int (j1g_0 ((p0 &&& (2147483647 : Int32)) % (6 : Int32)) ((p1 &&& (2147483647 : Int32)) % (6 : Int32)))), .val (.ref b293), .val (.int (1 : Int32))] [])) _
                refine XS.aload X571.here hx rfl (hb hby at_162) rfl rfl ?_
                show Steps p.tables e below (T571.setTop (mkF m 164 #[.val (.int p0), .val (.int p1), .val (.int p2), .val (.int p3), .val (.int ((p0 &&& (2147483647 : Int32)) % (6 : Int32))), .val (.int (j1g_0 ((p0 &&& (2147483647 : Int32)) % (6 : Int32)) ((p1 &&& (2147483647 : Int32)) % (6 : Int32)))), .val (.ref b293), .val (.int (1 : Int32))] [(.ref b293)])) _
                refine st619.trans ?_
                show Steps p.tables e below (T619.setTop (mkF m 167 #[.val (.int p0), .val (.int p1), .val (.int p2), .val (.int p3), .val (.int ((p0 &&& (2147483647 : Int32)) % (6 : Int32))), .val (.int (j1g_0 ((p0 &&& (2147483647 : Int32)) % (6 : Int32)) ((p1 &&& (2147483647 : Int32)) % (6 : Int32)))), .val (.ref b293), .val (.int (1 : Int32))] [(.int (0 : Int32))])) _
                refine XS.iload X619.here hx rfl (hb hby at_167) rfl ?_
                show Steps p.tables e below (T619.setTop (mkF m 169 #[.val (.int p0), .val (.int p1), .val (.int p2), .val (.int p3), .val (.int ((p0 &&& (2147483647 : Int32)) % (6 : Int32))), .val (.int (j1g_0 ((p0 &&& (2147483647 : Int32)) % (6 : Int32)) ((p1 &&& (2147483647 : Int32)) % (6 : Int32)))), .val (.ref b293), .val (.int (1 : Int32))] [(.int ((p0 &&& (2147483647 : Int32)) % (6 : Int32))), (.int (0 : Int32))])) _
                refine XS.iload X619.here hx rfl (hb hby at_169) rfl ?_
                exact k)
              have pre621 := fun (t : State) (k : Steps p.tables e below (T619.setTop (mkF m 179 #[.val (.int p0), .val (.int p1), .val (.int p2), .val (.int p3), .val (.int ((p0 &&& (2147483647 : Int32)) % (6 : Int32))), .val (.int (j1g_0 ((p0 &&& (2147483647 : Int32)) % (6 : Int32)) ((p1 &&& (2147483647 : Int32)) % (6 : Int32)))), .val (.ref b293), .val (.int (1 : Int32))] [(.int (j0_0 p0 p1)), (.int (0 : Int32))])) t) => pre620 t (by
                by_cases hc622 : ((p0 &&& (2147483647 : Int32)) % (6 : Int32)) = (j1g_0 ((p0 &&& (2147483647 : Int32)) % (6 : Int32)) ((p1 &&& (2147483647 : Int32)) % (6 : Int32)))
                · skip
                  show Steps p.tables e below (T619.setTop (mkF m 171 #[.val (.int p0), .val (.int p1), .val (.int p2), .val (.int p3), .val (.int ((p0 &&& (2147483647 : Int32)) % (6 : Int32))), .val (.int (j1g_0 ((p0 &&& (2147483647 : Int32)) % (6 : Int32)) ((p1 &&& (2147483647 : Int32)) % (6 : Int32)))), .val (.ref b293), .val (.int (1 : Int32))] [(.int (j1g_0 ((p0 &&& (2147483647 : Int32)) % (6 : Int32)) ((p1 &&& (2147483647 : Int32)) % (6 : Int32)))), (.int ((p0 &&& (2147483647 : Int32)) % (6 : Int32))), (.int (0 : Int32))])) _
                  refine XS.icmpNo X619.here hx rfl (hb hby at_171) rfl (teq hc622).2 ?_
                  show Steps p.tables e below (T619.setTop (mkF m 174 #[.val (.int p0), .val (.int p1), .val (.int p2), .val (.int p3), .val (.int ((p0 &&& (2147483647 : Int32)) % (6 : Int32))), .val (.int (j1g_0 ((p0 &&& (2147483647 : Int32)) % (6 : Int32)) ((p1 &&& (2147483647 : Int32)) % (6 : Int32)))), .val (.ref b293), .val (.int (1 : Int32))] [(.int (0 : Int32))])) _
                  refine XS.iconst X619.here hx rfl (hb hby at_174) ?_
                  show Steps p.tables e below (T619.setTop (mkF m 175 #[.val (.int p0), .val (.int p1), .val (.int p2), .val (.int p3), .val (.int ((p0 &&& (2147483647 : Int32)) % (6 : Int32))), .val (.int (j1g_0 ((p0 &&& (2147483647 : Int32)) % (6 : Int32)) ((p1 &&& (2147483647 : Int32)) % (6 : Int32)))), .val (.ref b293), .val (.int (1 : Int32))] [(.int (1 : Int32)), (.int (0 : Int32))])) _
                  refine XS.goto X619.here hx rfl (pc0 := 175) (pc' := 179) rfl (hb hby at_175) (by decide) (by decide) ?_
                  have hj623 : (j0_0 p0 p1) = (1 : Int32) := by unfold j0_0; first | (rw [if_pos hc622]) | (simp only [if_pos hc622])
                  rw [hj623] at k
                  exact k
                · skip
                  show Steps p.tables e below (T619.setTop (mkF m 171 #[.val (.int p0), .val (.int p1), .val (.int p2), .val (.int p3), .val (.int ((p0 &&& (2147483647 : Int32)) % (6 : Int32))), .val (.int (j1g_0 ((p0 &&& (2147483647 : Int32)) % (6 : Int32)) ((p1 &&& (2147483647 : Int32)) % (6 : Int32)))), .val (.ref b293), .val (.int (1 : Int32))] [(.int (j1g_0 ((p0 &&& (2147483647 : Int32)) % (6 : Int32)) ((p1 &&& (2147483647 : Int32)) % (6 : Int32)))), (.int ((p0 &&& (2147483647 : Int32)) % (6 : Int32))), (.int (0 : Int32))])) _
                  refine XS.icmpYes X619.here hx rfl (pc0 := 171) (pc' := 178) rfl (hb hby at_171) rfl (feq hc622).2 (by decide) (by decide) ?_
                  show Steps p.tables e below (T619.setTop (mkF m 178 #[.val (.int p0), .val (.int p1), .val (.int p2), .val (.int p3), .val (.int ((p0 &&& (2147483647 : Int32)) % (6 : Int32))), .val (.int (j1g_0 ((p0 &&& (2147483647 : Int32)) % (6 : Int32)) ((p1 &&& (2147483647 : Int32)) % (6 : Int32)))), .val (.ref b293), .val (.int (1 : Int32))] [(.int (0 : Int32))])) _
                  refine XS.iconst X619.here hx rfl (hb hby at_178) ?_
                  have hj624 : (j0_0 p0 p1) = (0 : Int32) := by unfold j0_0; first | (rw [if_neg hc622]) | (simp only [if_neg hc622])
                  rw [hj624] at k
                  exact k)
              have pre625 := fun (t : State) (k : Steps p.tables e below (T619.setTop (mkF m 187 #[.val (.int p0), .val (.int p1), .val (.int p2), .val (.int p3), .val (.int ((p0 &&& (2147483647 : Int32)) % (6 : Int32))), .val (.int (j1g_0 ((p0 &&& (2147483647 : Int32)) % (6 : Int32)) ((p1 &&& (2147483647 : Int32)) % (6 : Int32)))), .val (.ref b293), .val (.int (1 : Int32))] [(.int (j0_2 p0 p1))])) t) => pre621 t (by
                by_cases hc626 : (0 : Int32) = (j0_0 p0 p1)
                · skip
                  show Steps p.tables e below (T619.setTop (mkF m 179 #[.val (.int p0), .val (.int p1), .val (.int p2), .val (.int p3), .val (.int ((p0 &&& (2147483647 : Int32)) % (6 : Int32))), .val (.int (j1g_0 ((p0 &&& (2147483647 : Int32)) % (6 : Int32)) ((p1 &&& (2147483647 : Int32)) % (6 : Int32)))), .val (.ref b293), .val (.int (1 : Int32))] [(.int (j0_0 p0 p1)), (.int (0 : Int32))])) _
                  refine XS.icmpNo X619.here hx rfl (hb hby at_179) rfl (teq hc626).2 ?_
                  show Steps p.tables e below (T619.setTop (mkF m 182 #[.val (.int p0), .val (.int p1), .val (.int p2), .val (.int p3), .val (.int ((p0 &&& (2147483647 : Int32)) % (6 : Int32))), .val (.int (j1g_0 ((p0 &&& (2147483647 : Int32)) % (6 : Int32)) ((p1 &&& (2147483647 : Int32)) % (6 : Int32)))), .val (.ref b293), .val (.int (1 : Int32))] [])) _
                  refine XS.iconst X619.here hx rfl (hb hby at_182) ?_
                  show Steps p.tables e below (T619.setTop (mkF m 183 #[.val (.int p0), .val (.int p1), .val (.int p2), .val (.int p3), .val (.int ((p0 &&& (2147483647 : Int32)) % (6 : Int32))), .val (.int (j1g_0 ((p0 &&& (2147483647 : Int32)) % (6 : Int32)) ((p1 &&& (2147483647 : Int32)) % (6 : Int32)))), .val (.ref b293), .val (.int (1 : Int32))] [(.int (1 : Int32))])) _
                  refine XS.goto X619.here hx rfl (pc0 := 183) (pc' := 187) rfl (hb hby at_183) (by decide) (by decide) ?_
                  have hj627 : (j0_2 p0 p1) = (1 : Int32) := by unfold j0_2; first | (rw [if_pos hc626]) | (simp only [if_pos hc626])
                  rw [hj627] at k
                  exact k
                · skip
                  show Steps p.tables e below (T619.setTop (mkF m 179 #[.val (.int p0), .val (.int p1), .val (.int p2), .val (.int p3), .val (.int ((p0 &&& (2147483647 : Int32)) % (6 : Int32))), .val (.int (j1g_0 ((p0 &&& (2147483647 : Int32)) % (6 : Int32)) ((p1 &&& (2147483647 : Int32)) % (6 : Int32)))), .val (.ref b293), .val (.int (1 : Int32))] [(.int (j0_0 p0 p1)), (.int (0 : Int32))])) _
                  refine XS.icmpYes X619.here hx rfl (pc0 := 179) (pc' := 186) rfl (hb hby at_179) rfl (feq hc626).2 (by decide) (by decide) ?_
                  show Steps p.tables e below (T619.setTop (mkF m 186 #[.val (.int p0), .val (.int p1), .val (.int p2), .val (.int p3), .val (.int ((p0 &&& (2147483647 : Int32)) % (6 : Int32))), .val (.int (j1g_0 ((p0 &&& (2147483647 : Int32)) % (6 : Int32)) ((p1 &&& (2147483647 : Int32)) % (6 : Int32)))), .val (.ref b293), .val (.int (1 : Int32))] [])) _
                  refine XS.iconst X619.here hx rfl (hb hby at_186) ?_
                  have hj628 : (j0_2 p0 p1) = (0 : Int32) := by unfold j0_2; first | (rw [if_neg hc626]) | (simp only [if_neg hc626])
                  rw [hj628] at k
                  exact k)
              obtain ⟨fs, hr, hrun, hended, hW, hsame⟩ := X619.leave (v := some (.int (nar .boolean (j0_2 p0 p1)))) (fun h => by rw [Bd.returns] at h; cases h)
              refine ⟨_, _, pre625 _ ?_, hrun, hended, _, _, rfl, ?_, ⟨_, rfl⟩, hW, hsame.mono (by decide) (by decide)⟩
              · skip
                show Steps p.tables e below (T619.setTop (mkF m 187 #[.val (.int p0), .val (.int p1), .val (.int p2), .val (.int p3), .val (.int ((p0 &&& (2147483647 : Int32)) % (6 : Int32))), .val (.int (j1g_0 ((p0 &&& (2147483647 : Int32)) % (6 : Int32)) ((p1 &&& (2147483647 : Int32)) % (6 : Int32)))), .val (.ref b293), .val (.int (1 : Int32))] [(.int (j0_2 p0 p1))])) _
                exact retN X619 hx (t := .boolean) Bd.returns (by simp) (hb hby at_187) hr
              · show Q0 Z p0 p1 p2 p3 h0 n0 _ T619.heap _
                rw [e619]
                have hv : (nar .boolean (j0_2 p0 p1)) = (v0 p0 p1) := by unfold v0; first | (rw [if_pos hc307, if_pos hc318, if_pos hc329, if_neg hc340, if_pos hc569, if_neg hc579]) | (simp only [if_pos hc307, if_pos hc318, if_pos hc329, if_neg hc340, if_pos hc569, if_neg hc579])
                exact ⟨(by rw [← hv]), N619⟩
          · skip
            obtain ⟨cq629, kq629, q629a, q629b, q629c⟩ := isOf hZ e331 f332
            obtain ⟨_, _, ⟨T629, L629, k629, n629⟩, -, X629, ⟨Lc629, hQ629, l629, y629, z629⟩, st629⟩ := X331.virtualBack hx (y := (⟨"com/example/subsumer/subsumer/classification/IntList", "isEmpty", "()Z"⟩ : MethodName)) (z := (⟨"com/example/subsumer/subsumer/classification/IntList", "isEmpty", "()Z"⟩ : MethodName)) hown (mvT hZ (hw _ (List.mem_of_getElem? (i := 17) rfl))) (mvT hZ (hw _ (List.mem_of_getElem? (i := 18) rfl))) (notFace_of_selects (args := #[]) (mvT hZ (hw _ (List.mem_of_getElem? (i := 20) rfl)))) (mvT hZ (hw _ (List.mem_of_getElem? (i := 20) rfl))) (mvT hZ (hw _ (List.mem_of_getElem? (i := 19) rfl))) (by decide) (backOf (W := 0) (rm4_3 l Z aw hw [] b293 h331 n0 Z331 f332 f333) hZ (hw _ (List.mem_of_getElem? (i := 21) rfl)) (hw _ (List.mem_of_getElem? (i := 7) rfl)) (by decide) (by decide)) q629a q629c (g := (mkF m 164 #[.val (.int p0), .val (.int p1), .val (.int p2), .val (.int p3), .val (.int ((p0 &&& (2147483647 : Int32)) % (6 : Int32))), .val (.int (j1g_0 ((p0 &&& (2147483647 : Int32)) % (6 : Int32)) ((p1 &&& (2147483647 : Int32)) % (6 : Int32)))), .val (.ref b293), .val (.int (1 : Int32))] [(.ref b293)])) rfl (by rw [hml]; rfl) (Steps.refl _) (argsL := []) (rest := []) (lenOf pd_5 rfl) rfl (by show 2 * 0 + _ ≤ _; exact Nat.le_of_eq rfl) (hb hby at_164) (fun _ _ => ⟨rfl, e331, (by decide : 2 + 0 ≤ _), (by decide : 6 + 0 ≤ _)⟩)
            dsimp only [Pt.U, Pt.locs, Pt.cells, Pt.slots] at X629 l629 y629 z629 st629 hQ629
            subst l629 y629 z629
            obtain ⟨rfl, N629q, e629⟩ := hQ629
            have N629 := Fr.app N331 N629q
            have pre630 := fun (t : State) (k : Steps p.tables e below (T629.setTop (mkF m 171 #[.val (.int p0), .val (.int p1), .val (.int p2), .val (.int p3), .val (.int ((p0 &&& (2147483647 : Int32)) % (6 : Int32))), .val (.int (j1g_0 ((p0 &&& (2147483647 : Int32)) % (6 : Int32)) ((p1 &&& (2147483647 : Int32)) % (6 : Int32)))), .val (.ref b293), .val (.int (1 : Int32))] [(.int (j1g_0 ((p0 &&& (2147483647 : Int32)) % (6 : Int32)) ((p1 &&& (2147483647 : Int32)) % (6 : Int32)))), (.int ((p0 &&& (2147483647 : Int32)) % (6 : Int32))), (.int (0 : Int32))])) t) => pre570 t (by
              show Steps p.tables e below (T331.setTop (mkF m 100 #[.val (.int p0), .val (.int p1), .val (.int p2), .val (.int p3), .val (.int ((p0 &&& (2147483647 : Int32)) % (6 : Int32))), .val (.int (j1g_0 ((p0 &&& (2147483647 : Int32)) % (6 : Int32)) ((p1 &&& (2147483647 : Int32)) % (6 : Int32)))), .val (.ref b293), .val (.int (1 : Int32))] [(.int (j1g_0 ((p0 &&& (2147483647 : Int32)) % (6 : Int32)) ((p1 &&& (2147483647 : Int32)) % (6 : Int32))))])) _
              refine XS.ifYes X331.here hx rfl (pc0 := 100) (pc' := 109) rfl (hb hby at_100) rfl ((if0 _ _).trans (flt hc569).2.2.2) (by decide) (by decide) ?_
              show Steps p.tables e below (T331.setTop (mkF m 109 #[.val (.int p0), .val (.int p1), .val (.int p2), .val (.int p3), .val (.int ((p0 &&& (2147483647 : Int32)) % (6 : Int32))), .val (.int (j1g_0 ((p0 &&& (2147483647 : Int32)) % (6 : Int32)) ((p1 &&& (2147483647 : Int32)) % (6 : Int32)))), .val (.ref b293), .val (.int (1 : Int32))] [])) _
              refine XS.iload X331.here hx rfl (hb hby at_109) rfl ?_
              show Steps p.tables e below (T331.setTop (mkF m 111 #[.val (.int p0), .val (.int p1), .val (.int p2), .val (.int p3), .val (.int ((p0 &&& (2147483647 : Int32)) % (6 : Int32))), .val (.int (j1g_0 ((p0 &&& (2147483647 : Int32)) % (6 : Int32)) ((p1 &&& (2147483647 : Int32)) % (6 : Int32)))), .val (.ref b293), .val (.int (1 : Int32))] [(.int (j1g_0 ((p0 &&& (2147483647 : Int32)) % (6 : Int32)) ((p1 &&& (2147483647 : Int32)) % (6 : Int32))))])) _
              refine XS.iconst X331.here hx rfl (hb hby at_111) ?_
              show Steps p.tables e below (T331.setTop (mkF m 112 #[.val (.int p0), .val (.int p1), .val (.int p2), .val (.int p3), .val (.int ((p0 &&& (2147483647 : Int32)) % (6 : Int32))), .val (.int (j1g_0 ((p0 &&& (2147483647 : Int32)) % (6 : Int32)) ((p1 &&& (2147483647 : Int32)) % (6 : Int32)))), .val (.ref b293), .val (.int (1 : Int32))] [(.int (1 : Int32)), (.int (j1g_0 ((p0 &&& (2147483647 : Int32)) % (6 : Int32)) ((p1 &&& (2147483647 : Int32)) % (6 : Int32))))])) _
              refine XS.icmpYes X331.here hx rfl (pc0 := 112) (pc' := 121) rfl (hb hby at_112) rfl (flt (own_up hc569 (by decide))).2.2.2 (by decide) (by decide) ?_
              show Steps p.tables e below (T331.setTop (mkF m 121 #[.val (.int p0), .val (.int p1), .val (.int p2), .val (.int p3), .val (.int ((p0 &&& (2147483647 : Int32)) % (6 : Int32))), .val (.int (j1g_0 ((p0 &&& (2147483647 : Int32)) % (6 : Int32)) ((p1 &&& (2147483647 : Int32)) % (6 : Int32)))), .val (.ref b293), .val (.int (1 : Int32))] [])) _
              refine XS.iload X331.here hx rfl (hb hby at_121) rfl ?_
              show Steps p.tables e below (T331.setTop (mkF m 123 #[.val (.int p0), .val (.int p1), .val (.int p2), .val (.int p3), .val (.int ((p0 &&& (2147483647 : Int32)) % (6 : Int32))), .val (.int (j1g_0 ((p0 &&& (2147483647 : Int32)) % (6 : Int32)) ((p1 &&& (2147483647 : Int32)) % (6 : Int32)))), .val (.ref b293), .val (.int (1 : Int32))] [(.int (j1g_0 ((p0 &&& (2147483647 : Int32)) % (6 : Int32)) ((p1 &&& (2147483647 : Int32)) % (6 : Int32))))])) _
              refine XS.iconst X331.here hx rfl (hb hby at_123) ?_
              show Steps p.tables e below (T331.setTop (mkF m 124 #[.val (.int p0), .val (.int p1), .val (.int p2), .val (.int p3), .val (.int ((p0 &&& (2147483647 : Int32)) % (6 : Int32))), .val (.int (j1g_0 ((p0 &&& (2147483647 : Int32)) % (6 : Int32)) ((p1 &&& (2147483647 : Int32)) % (6 : Int32)))), .val (.ref b293), .val (.int (1 : Int32))] [(.int (2 : Int32)), (.int (j1g_0 ((p0 &&& (2147483647 : Int32)) % (6 : Int32)) ((p1 &&& (2147483647 : Int32)) % (6 : Int32))))])) _
              refine XS.icmpYes X331.here hx rfl (pc0 := 124) (pc' := 133) rfl (hb hby at_124) rfl (flt (own_up hc569 (by decide))).2.2.2 (by decide) (by decide) ?_
              show Steps p.tables e below (T331.setTop (mkF m 133 #[.val (.int p0), .val (.int p1), .val (.int p2), .val (.int p3), .val (.int ((p0 &&& (2147483647 : Int32)) % (6 : Int32))), .val (.int (j1g_0 ((p0 &&& (2147483647 : Int32)) % (6 : Int32)) ((p1 &&& (2147483647 : Int32)) % (6 : Int32)))), .val (.ref b293), .val (.int (1 : Int32))] [])) _
              refine XS.iload X331.here hx rfl (hb hby at_133) rfl ?_
              show Steps p.tables e below (T331.setTop (mkF m 135 #[.val (.int p0), .val (.int p1), .val (.int p2), .val (.int p3), .val (.int ((p0 &&& (2147483647 : Int32)) % (6 : Int32))), .val (.int (j1g_0 ((p0 &&& (2147483647 : Int32)) % (6 : Int32)) ((p1 &&& (2147483647 : Int32)) % (6 : Int32)))), .val (.ref b293), .val (.int (1 : Int32))] [(.int (j1g_0 ((p0 &&& (2147483647 : Int32)) % (6 : Int32)) ((p1 &&& (2147483647 : Int32)) % (6 : Int32))))])) _
              refine XS.iconst X331.here hx rfl (hb hby at_135) ?_
              show Steps p.tables e below (T331.setTop (mkF m 136 #[.val (.int p0), .val (.int p1), .val (.int p2), .val (.int p3), .val (.int ((p0 &&& (2147483647 : Int32)) % (6 : Int32))), .val (.int (j1g_0 ((p0 &&& (2147483647 : Int32)) % (6 : Int32)) ((p1 &&& (2147483647 : Int32)) % (6 : Int32)))), .val (.ref b293), .val (.int (1 : Int32))] [(.int (3 : Int32)), (.int (j1g_0 ((p0 &&& (2147483647 : Int32)) % (6 : Int32)) ((p1 &&& (2147483647 : Int32)) % (6 : Int32))))])) _
              refine XS.icmpYes X331.here hx rfl (pc0 := 136) (pc' := 145) rfl (hb hby at_136) rfl (flt (own_mn (own_up hc340 (by decide)))).2.2.2 (by decide) (by decide) ?_
              show Steps p.tables e below (T331.setTop (mkF m 145 #[.val (.int p0), .val (.int p1), .val (.int p2), .val (.int p3), .val (.int ((p0 &&& (2147483647 : Int32)) % (6 : Int32))), .val (.int (j1g_0 ((p0 &&& (2147483647 : Int32)) % (6 : Int32)) ((p1 &&& (2147483647 : Int32)) % (6 : Int32)))), .val (.ref b293), .val (.int (1 : Int32))] [])) _
              refine XS.iload X331.here hx rfl (hb hby at_145) rfl ?_
              show Steps p.tables e below (T331.setTop (mkF m 147 #[.val (.int p0), .val (.int p1), .val (.int p2), .val (.int p3), .val (.int ((p0 &&& (2147483647 : Int32)) % (6 : Int32))), .val (.int (j1g_0 ((p0 &&& (2147483647 : Int32)) % (6 : Int32)) ((p1 &&& (2147483647 : Int32)) % (6 : Int32)))), .val (.ref b293), .val (.int (1 : Int32))] [(.int (j1g_0 ((p0 &&& (2147483647 : Int32)) % (6 : Int32)) ((p1 &&& (2147483647 : Int32)) % (6 : Int32))))])) _
              refine XS.iconst X331.here hx rfl (hb hby at_147) ?_
              show Steps p.tables e below (T331.setTop (mkF m 148 #[.val (.int p0), .val (.int p1), .val (.int p2), .val (.int p3), .val (.int ((p0 &&& (2147483647 : Int32)) % (6 : Int32))), .val (.int (j1g_0 ((p0 &&& (2147483647 : Int32)) % (6 : Int32)) ((p1 &&& (2147483647 : Int32)) % (6 : Int32)))), .val (.ref b293), .val (.int (1 : Int32))] [(.int (4 : Int32)), (.int (j1g_0 ((p0 &&& (2147483647 : Int32)) % (6 : Int32)) ((p1 &&& (2147483647 : Int32)) % (6 : Int32))))])) _
              refine XS.icmpYes X331.here hx rfl (pc0 := 148) (pc' := 157) rfl (hb hby at_148) rfl (flt (own_mn (own_up hc340 (by decide)))).2.2.2 (by decide) (by decide) ?_
              show Steps p.tables e below (T331.setTop (mkF m 157 #[.val (.int p0), .val (.int p1), .val (.int p2), .val (.int p3), .val (.int ((p0 &&& (2147483647 : Int32)) % (6 : Int32))), .val (.int (j1g_0 ((p0 &&& (2147483647 : Int32)) % (6 : Int32)) ((p1 &&& (2147483647 : Int32)) % (6 : Int32)))), .val (.ref b293), .val (.int (1 : Int32))] [])) _
              refine XS.iload X331.here hx rfl (hb hby at_157) rfl ?_
              show Steps p.tables e below (T331.setTop (mkF m 159 #[.val (.int p0), .val (.int p1), .val (.int p2), .val (.int p3), .val (.int ((p0 &&& (2147483647 : Int32)) % (6 : Int32))), .val (.int (j1g_0 ((p0 &&& (2147483647 : Int32)) % (6 : Int32)) ((p1 &&& (2147483647 : Int32)) % (6 : Int32)))), .val (.ref b293), .val (.int (1 : Int32))] [(.int (1 : Int32))])) _
              refine XS.ifNo X331.here hx rfl (hb hby at_159) rfl ((if0 _ _).trans (feq (by decide : ¬ ((1 : Int32) = (0 : Int32)))).1) ?_
              show Steps p.tables e below (T331.setTop (mkF m 162 #[.val (.int p0), .val (.int p1), .val (.int p2), .val (.int p3), .val (.int ((p0 &&& (2147483647 : Int32)) % (6 : Int32))), .val (.int (j1g_0 ((p0 &&& (2147483647 : Int32)) % (6 : Int32)) ((p1 &&& (2147483647 : Int32)) % (6 : Int32)))), .val (.ref b293), .val (.int (1 : Int32))] [])) _
              refine XS.aload X331.here hx rfl (hb hby at_162) rfl rfl ?_
              show Steps p.tables e below (T331.setTop (mkF m 164 #[.val (.int p0), .val (.int p1), .val (.int p2), .val (.int p3), .val (.int ((p0 &&& (2147483647 : Int32)) % (6 : Int32))), .val (.int (j1g_0 ((p0 &&& (2147483647 : Int32)) % (6 : Int32)) ((p1 &&& (2147483647 : Int32)) % (6 : Int32)))), .val (.ref b293), .val (.int (1 : Int32))] [(.ref b293)])) _
              refine st629.trans ?_
              show Steps p.tables e below (T629.setTop (mkF m 167 #[.val (.int p0), .val (.int p1), .val (.int p2), .val (.int p3), .val (.int ((p0 &&& (2147483647 : Int32)) % (6 : Int32))), .val (.int (j1g_0 ((p0 &&& (2147483647 : Int32)) % (6 : Int32)) ((p1 &&& (2147483647 : Int32)) % (6 : Int32)))), .val (.ref b293), .val (.int (1 : Int32))] [(.int (0 : Int32))])) _
              refine XS.iload X629.here hx rfl (hb hby at_167) rfl ?_
              show Steps p.tables e below (T629.setTop (mkF m 169 #[.val (.int p0), .val (.int p1), .val (.int p2), .val (.int p3), .val (.int ((p0 &&& (2147483647 : Int32)) % (6 : Int32))), .val (.int (j1g_0 ((p0 &&& (2147483647 : Int32)) % (6 : Int32)) ((p1 &&& (2147483647 : Int32)) % (6 : Int32)))), .val (.ref b293), .val (.int (1 : Int32))] [(.int ((p0 &&& (2147483647 : Int32)) % (6 : Int32))), (.int (0 : Int32))])) _
              refine XS.iload X629.here hx rfl (hb hby at_169) rfl ?_
              exact k)
            have pre631 := fun (t : State) (k : Steps p.tables e below (T629.setTop (mkF m 179 #[.val (.int p0), .val (.int p1), .val (.int p2), .val (.int p3), .val (.int ((p0 &&& (2147483647 : Int32)) % (6 : Int32))), .val (.int (j1g_0 ((p0 &&& (2147483647 : Int32)) % (6 : Int32)) ((p1 &&& (2147483647 : Int32)) % (6 : Int32)))), .val (.ref b293), .val (.int (1 : Int32))] [(.int (j0_0 p0 p1)), (.int (0 : Int32))])) t) => pre630 t (by
              by_cases hc632 : ((p0 &&& (2147483647 : Int32)) % (6 : Int32)) = (j1g_0 ((p0 &&& (2147483647 : Int32)) % (6 : Int32)) ((p1 &&& (2147483647 : Int32)) % (6 : Int32)))
              · skip
                show Steps p.tables e below (T629.setTop (mkF m 171 #[.val (.int p0), .val (.int p1), .val (.int p2), .val (.int p3), .val (.int ((p0 &&& (2147483647 : Int32)) % (6 : Int32))), .val (.int (j1g_0 ((p0 &&& (2147483647 : Int32)) % (6 : Int32)) ((p1 &&& (2147483647 : Int32)) % (6 : Int32)))), .val (.ref b293), .val (.int (1 : Int32))] [(.int (j1g_0 ((p0 &&& (2147483647 : Int32)) % (6 : Int32)) ((p1 &&& (2147483647 : Int32)) % (6 : Int32)))), (.int ((p0 &&& (2147483647 : Int32)) % (6 : Int32))), (.int (0 : Int32))])) _
                refine XS.icmpNo X629.here hx rfl (hb hby at_171) rfl (teq hc632).2 ?_
                show Steps p.tables e below (T629.setTop (mkF m 174 #[.val (.int p0), .val (.int p1), .val (.int p2), .val (.int p3), .val (.int ((p0 &&& (2147483647 : Int32)) % (6 : Int32))), .val (.int (j1g_0 ((p0 &&& (2147483647 : Int32)) % (6 : Int32)) ((p1 &&& (2147483647 : Int32)) % (6 : Int32)))), .val (.ref b293), .val (.int (1 : Int32))] [(.int (0 : Int32))])) _
                refine XS.iconst X629.here hx rfl (hb hby at_174) ?_
                show Steps p.tables e below (T629.setTop (mkF m 175 #[.val (.int p0), .val (.int p1), .val (.int p2), .val (.int p3), .val (.int ((p0 &&& (2147483647 : Int32)) % (6 : Int32))), .val (.int (j1g_0 ((p0 &&& (2147483647 : Int32)) % (6 : Int32)) ((p1 &&& (2147483647 : Int32)) % (6 : Int32)))), .val (.ref b293), .val (.int (1 : Int32))] [(.int (1 : Int32)), (.int (0 : Int32))])) _
                refine XS.goto X629.here hx rfl (pc0 := 175) (pc' := 179) rfl (hb hby at_175) (by decide) (by decide) ?_
                have hj633 : (j0_0 p0 p1) = (1 : Int32) := by unfold j0_0; first | (rw [if_pos hc632]) | (simp only [if_pos hc632])
                rw [hj633] at k
                exact k
              · skip
                show Steps p.tables e below (T629.setTop (mkF m 171 #[.val (.int p0), .val (.int p1), .val (.int p2), .val (.int p3), .val (.int ((p0 &&& (2147483647 : Int32)) % (6 : Int32))), .val (.int (j1g_0 ((p0 &&& (2147483647 : Int32)) % (6 : Int32)) ((p1 &&& (2147483647 : Int32)) % (6 : Int32)))), .val (.ref b293), .val (.int (1 : Int32))] [(.int (j1g_0 ((p0 &&& (2147483647 : Int32)) % (6 : Int32)) ((p1 &&& (2147483647 : Int32)) % (6 : Int32)))), (.int ((p0 &&& (2147483647 : Int32)) % (6 : Int32))), (.int (0 : Int32))])) _
                refine XS.icmpYes X629.here hx rfl (pc0 := 171) (pc' := 178) rfl (hb hby at_171) rfl (feq hc632).2 (by decide) (by decide) ?_
                show Steps p.tables e below (T629.setTop (mkF m 178 #[.val (.int p0), .val (.int p1), .val (.int p2), .val (.int p3), .val (.int ((p0 &&& (2147483647 : Int32)) % (6 : Int32))), .val (.int (j1g_0 ((p0 &&& (2147483647 : Int32)) % (6 : Int32)) ((p1 &&& (2147483647 : Int32)) % (6 : Int32)))), .val (.ref b293), .val (.int (1 : Int32))] [(.int (0 : Int32))])) _
                refine XS.iconst X629.here hx rfl (hb hby at_178) ?_
                have hj634 : (j0_0 p0 p1) = (0 : Int32) := by unfold j0_0; first | (rw [if_neg hc632]) | (simp only [if_neg hc632])
                rw [hj634] at k
                exact k)
            have pre635 := fun (t : State) (k : Steps p.tables e below (T629.setTop (mkF m 187 #[.val (.int p0), .val (.int p1), .val (.int p2), .val (.int p3), .val (.int ((p0 &&& (2147483647 : Int32)) % (6 : Int32))), .val (.int (j1g_0 ((p0 &&& (2147483647 : Int32)) % (6 : Int32)) ((p1 &&& (2147483647 : Int32)) % (6 : Int32)))), .val (.ref b293), .val (.int (1 : Int32))] [(.int (j0_2 p0 p1))])) t) => pre631 t (by
              by_cases hc636 : (0 : Int32) = (j0_0 p0 p1)
              · skip
                show Steps p.tables e below (T629.setTop (mkF m 179 #[.val (.int p0), .val (.int p1), .val (.int p2), .val (.int p3), .val (.int ((p0 &&& (2147483647 : Int32)) % (6 : Int32))), .val (.int (j1g_0 ((p0 &&& (2147483647 : Int32)) % (6 : Int32)) ((p1 &&& (2147483647 : Int32)) % (6 : Int32)))), .val (.ref b293), .val (.int (1 : Int32))] [(.int (j0_0 p0 p1)), (.int (0 : Int32))])) _
                refine XS.icmpNo X629.here hx rfl (hb hby at_179) rfl (teq hc636).2 ?_
                show Steps p.tables e below (T629.setTop (mkF m 182 #[.val (.int p0), .val (.int p1), .val (.int p2), .val (.int p3), .val (.int ((p0 &&& (2147483647 : Int32)) % (6 : Int32))), .val (.int (j1g_0 ((p0 &&& (2147483647 : Int32)) % (6 : Int32)) ((p1 &&& (2147483647 : Int32)) % (6 : Int32)))), .val (.ref b293), .val (.int (1 : Int32))] [])) _
                refine XS.iconst X629.here hx rfl (hb hby at_182) ?_
                show Steps p.tables e below (T629.setTop (mkF m 183 #[.val (.int p0), .val (.int p1), .val (.int p2), .val (.int p3), .val (.int ((p0 &&& (2147483647 : Int32)) % (6 : Int32))), .val (.int (j1g_0 ((p0 &&& (2147483647 : Int32)) % (6 : Int32)) ((p1 &&& (2147483647 : Int32)) % (6 : Int32)))), .val (.ref b293), .val (.int (1 : Int32))] [(.int (1 : Int32))])) _
                refine XS.goto X629.here hx rfl (pc0 := 183) (pc' := 187) rfl (hb hby at_183) (by decide) (by decide) ?_
                have hj637 : (j0_2 p0 p1) = (1 : Int32) := by unfold j0_2; first | (rw [if_pos hc636]) | (simp only [if_pos hc636])
                rw [hj637] at k
                exact k
              · skip
                show Steps p.tables e below (T629.setTop (mkF m 179 #[.val (.int p0), .val (.int p1), .val (.int p2), .val (.int p3), .val (.int ((p0 &&& (2147483647 : Int32)) % (6 : Int32))), .val (.int (j1g_0 ((p0 &&& (2147483647 : Int32)) % (6 : Int32)) ((p1 &&& (2147483647 : Int32)) % (6 : Int32)))), .val (.ref b293), .val (.int (1 : Int32))] [(.int (j0_0 p0 p1)), (.int (0 : Int32))])) _
                refine XS.icmpYes X629.here hx rfl (pc0 := 179) (pc' := 186) rfl (hb hby at_179) rfl (feq hc636).2 (by decide) (by decide) ?_
                show Steps p.tables e below (T629.setTop (mkF m 186 #[.val (.int p0), .val (.int p1), .val (.int p2), .val (.int p3), .val (.int ((p0 &&& (2147483647 : Int32)) % (6 : Int32))), .val (.int (j1g_0 ((p0 &&& (2147483647 : Int32)) % (6 : Int32)) ((p1 &&& (2147483647 : Int32)) % (6 : Int32)))), .val (.ref b293), .val (.int (1 : Int32))] [])) _
                refine XS.iconst X629.here hx rfl (hb hby at_186) ?_
                have hj638 : (j0_2 p0 p1) = (0 : Int32) := by unfold j0_2; first | (rw [if_neg hc636]) | (simp only [if_neg hc636])
                rw [hj638] at k
                exact k)
            obtain ⟨fs, hr, hrun, hended, hW, hsame⟩ := X629.leave (v := some (.int (nar .boolean (j0_2 p0 p1)))) (fun h => by rw [Bd.returns] at h; cases h)
            refine ⟨_, _, pre635 _ ?_, hrun, hended, _, _, rfl, ?_, ⟨_, rfl⟩, hW, hsame.mono (by decide) (by decide)⟩
            · skip
              show Steps p.tables e below (T629.setTop (mkF m 187 #[.val (.int p0), .val (.int p1), .val (.int p2), .val (.int p3), .val (.int ((p0 &&& (2147483647 : Int32)) % (6 : Int32))), .val (.int (j1g_0 ((p0 &&& (2147483647 : Int32)) % (6 : Int32)) ((p1 &&& (2147483647 : Int32)) % (6 : Int32)))), .val (.ref b293), .val (.int (1 : Int32))] [(.int (j0_2 p0 p1))])) _
              exact retN X629 hx (t := .boolean) Bd.returns (by simp) (hb hby at_187) hr
            · show Q0 Z p0 p1 p2 p3 h0 n0 _ T629.heap _
              rw [e629]
              have hv : (nar .boolean (j0_2 p0 p1)) = (v0 p0 p1) := by unfold v0; first | (rw [if_pos hc307, if_pos hc318, if_pos hc329, if_neg hc340, if_neg hc569]) | (simp only [if_pos hc307, if_pos hc318, if_pos hc329, if_neg hc340, if_neg hc569])
              exact ⟨(by rw [← hv]), N629⟩
      · skip
        have pre640 := fun (t : State) (k : Steps p.tables e below (T320.setTop (mkF m 100 #[.val (.int p0), .val (.int p1), .val (.int p2), .val (.int p3), .val (.int ((p0 &&& (2147483647 : Int32)) % (6 : Int32))), .val (.int (j1g_0 ((p0 &&& (2147483647 : Int32)) % (6 : Int32)) ((p1 &&& (2147483647 : Int32)) % (6 : Int32)))), .val (.ref b293), .val (.int (1 : Int32))] [(.int (j1g_0 ((p0 &&& (2147483647 : Int32)) % (6 : Int32)) ((p1 &&& (2147483647 : Int32)) % (6 : Int32))))])) t) => pre330 t (by
          show Steps p.tables e below (T320.setTop (mkF m 65 #[.val (.int p0), .val (.int p1), .val (.int p2), .val (.int p3), .val (.int ((p0 &&& (2147483647 : Int32)) % (6 : Int32))), .val (.int (j1g_0 ((p0 &&& (2147483647 : Int32)) % (6 : Int32)) ((p1 &&& (2147483647 : Int32)) % (6 : Int32)))), .val (.ref b293), .val (.int (1 : Int32))] [(.int (2 : Int32)), (.int ((p0 &&& (2147483647 : Int32)) % (6 : Int32)))])) _
          refine XS.icmpYes X320.here hx rfl (pc0 := 65) (pc' := 74) rfl (hb hby at_65) rfl (flt hc329).2.2.2 (by decide) (by decide) ?_
          show Steps p.tables e below (T320.setTop (mkF m 74 #[.val (.int p0), .val (.int p1), .val (.int p2), .val (.int p3), .val (.int ((p0 &&& (2147483647 : Int32)) % (6 : Int32))), .val (.int (j1g_0 ((p0 &&& (2147483647 : Int32)) % (6 : Int32)) ((p1 &&& (2147483647 : Int32)) % (6 : Int32)))), .val (.ref b293), .val (.int (1 : Int32))] [])) _
          refine XS.iload X320.here hx rfl (hb hby at_74) rfl ?_
          show Steps p.tables e below (T320.setTop (mkF m 76 #[.val (.int p0), .val (.int p1), .val (.int p2), .val (.int p3), .val (.int ((p0 &&& (2147483647 : Int32)) % (6 : Int32))), .val (.int (j1g_0 ((p0 &&& (2147483647 : Int32)) % (6 : Int32)) ((p1 &&& (2147483647 : Int32)) % (6 : Int32)))), .val (.ref b293), .val (.int (1 : Int32))] [(.int ((p0 &&& (2147483647 : Int32)) % (6 : Int32)))])) _
          refine XS.iconst X320.here hx rfl (hb hby at_76) ?_
          show Steps p.tables e below (T320.setTop (mkF m 77 #[.val (.int p0), .val (.int p1), .val (.int p2), .val (.int p3), .val (.int ((p0 &&& (2147483647 : Int32)) % (6 : Int32))), .val (.int (j1g_0 ((p0 &&& (2147483647 : Int32)) % (6 : Int32)) ((p1 &&& (2147483647 : Int32)) % (6 : Int32)))), .val (.ref b293), .val (.int (1 : Int32))] [(.int (3 : Int32)), (.int ((p0 &&& (2147483647 : Int32)) % (6 : Int32)))])) _
          refine XS.icmpYes X320.here hx rfl (pc0 := 77) (pc' := 86) rfl (hb hby at_77) rfl (flt (own_up hc329 (by decide))).2.2.2 (by decide) (by decide) ?_
          show Steps p.tables e below (T320.setTop (mkF m 86 #[.val (.int p0), .val (.int p1), .val (.int p2), .val (.int p3), .val (.int ((p0 &&& (2147483647 : Int32)) % (6 : Int32))), .val (.int (j1g_0 ((p0 &&& (2147483647 : Int32)) % (6 : Int32)) ((p1 &&& (2147483647 : Int32)) % (6 : Int32)))), .val (.ref b293), .val (.int (1 : Int32))] [])) _
          refine XS.iload X320.here hx rfl (hb hby at_86) rfl ?_
          show Steps p.tables e below (T320.setTop (mkF m 88 #[.val (.int p0), .val (.int p1), .val (.int p2), .val (.int p3), .val (.int ((p0 &&& (2147483647 : Int32)) % (6 : Int32))), .val (.int (j1g_0 ((p0 &&& (2147483647 : Int32)) % (6 : Int32)) ((p1 &&& (2147483647 : Int32)) % (6 : Int32)))), .val (.ref b293), .val (.int (1 : Int32))] [(.int ((p0 &&& (2147483647 : Int32)) % (6 : Int32)))])) _
          refine XS.iconst X320.here hx rfl (hb hby at_88) ?_
          show Steps p.tables e below (T320.setTop (mkF m 89 #[.val (.int p0), .val (.int p1), .val (.int p2), .val (.int p3), .val (.int ((p0 &&& (2147483647 : Int32)) % (6 : Int32))), .val (.int (j1g_0 ((p0 &&& (2147483647 : Int32)) % (6 : Int32)) ((p1 &&& (2147483647 : Int32)) % (6 : Int32)))), .val (.ref b293), .val (.int (1 : Int32))] [(.int (4 : Int32)), (.int ((p0 &&& (2147483647 : Int32)) % (6 : Int32)))])) _
          refine XS.icmpYes X320.here hx rfl (pc0 := 89) (pc' := 98) rfl (hb hby at_89) rfl (flt (own_up hc329 (by decide))).2.2.2 (by decide) (by decide) ?_
          show Steps p.tables e below (T320.setTop (mkF m 98 #[.val (.int p0), .val (.int p1), .val (.int p2), .val (.int p3), .val (.int ((p0 &&& (2147483647 : Int32)) % (6 : Int32))), .val (.int (j1g_0 ((p0 &&& (2147483647 : Int32)) % (6 : Int32)) ((p1 &&& (2147483647 : Int32)) % (6 : Int32)))), .val (.ref b293), .val (.int (1 : Int32))] [])) _
          refine XS.iload X320.here hx rfl (hb hby at_98) rfl ?_
          exact k)
        by_cases hc639 : (0 : Int32) < (j1g_0 ((p0 &&& (2147483647 : Int32)) % (6 : Int32)) ((p1 &&& (2147483647 : Int32)) % (6 : Int32)))
        · skip
          obtain ⟨cq641, kq641, q641a, q641b, q641c⟩ := isOf hZ e320 f321
          obtain ⟨_, _, ⟨T641, L641, k641, n641⟩, -, X641, ⟨Lc641, hQ641, l641, y641, z641⟩, st641⟩ := X320.virtualBack hx (y := (⟨"com/example/subsumer/subsumer/classification/IntList", "pop", "()I"⟩ : MethodName)) (z := (⟨"com/example/subsumer/subsumer/classification/IntList", "pop", "()I"⟩ : MethodName)) hown (mvT hZ (hw _ (List.mem_of_getElem? (i := 29) rfl))) (mvT hZ (hw _ (List.mem_of_getElem? (i := 30) rfl))) (notFace_of_selects (args := #[]) (mvT hZ (hw _ (List.mem_of_getElem? (i := 32) rfl)))) (mvT hZ (hw _ (List.mem_of_getElem? (i := 32) rfl))) (mvT hZ (hw _ (List.mem_of_getElem? (i := 31) rfl))) (by decide) (backOf (W := 0) (rm6_4_2 l Z aw hw [] b293 cx0297 p2 p3 ((0 : Int32)) ((0 : Int32)) cy0297 h320 n0 Z320 f321 f323 f322 f324 g_b293 ne305) hZ (hw _ (List.mem_of_getElem? (i := 33) rfl)) (hw _ (List.mem_of_getElem? (i := 7) rfl)) (by decide) (by decide)) q641a q641c (g := (mkF m 105 #[.val (.int p0), .val (.int p1), .val (.int p2), .val (.int p3), .val (.int ((p0 &&& (2147483647 : Int32)) % (6 : Int32))), .val (.int (j1g_0 ((p0 &&& (2147483647 : Int32)) % (6 : Int32)) ((p1 &&& (2147483647 : Int32)) % (6 : Int32)))), .val (.ref b293), .val (.int (1 : Int32))] [(.ref b293)])) rfl (by rw [hml]; rfl) (Steps.refl _) (argsL := []) (rest := []) (lenOf pd_7 rfl) rfl (by show 2 * 0 + _ ≤ _; exact Nat.le_of_eq rfl) (hb hby at_105) (fun _ _ => ⟨rfl, e320, (by decide : 2 + 0 ≤ _), (by decide : 6 + 0 ≤ _)⟩)
          dsimp only [Pt.U, Pt.locs, Pt.cells, Pt.slots] at X641 l641 y641 z641 st641 hQ641
          subst l641 y641 z641
          obtain ⟨h641, e641⟩ : ∃ z, T641.heap = z := ⟨_, rfl⟩
          rw [e641] at hQ641
          obtain ⟨rfl, N641q, K641q, f642, f643, f644⟩ := hQ641
          have f645 := f321.keep K641q
          have f648 := f324.keep K641q (ninS (Ne.symm ne305) nin0)
          have Z641 := Nat.le_trans Z320 K641q.1
          have N641 := Fr.app N320 N641q
          have pre650 := fun (t : State) (k : Steps p.tables e below (T641.setTop (mkF m 112 #[.val (.int p0), .val (.int p1), .val (.int p2), .val (.int p3), .val (.int ((p0 &&& (2147483647 : Int32)) % (6 : Int32))), .val (.int (j1g_0 ((p0 &&& (2147483647 : Int32)) % (6 : Int32)) ((p1 &&& (2147483647 : Int32)) % (6 : Int32)))), .val (.ref b293), .val (.int (1 : Int32))] [(.int (1 : Int32)), (.int (j1g_0 ((p0 &&& (2147483647 : Int32)) % (6 : Int32)) ((p1 &&& (2147483647 : Int32)) % (6 : Int32))))])) t) => pre640 t (by
            show Steps p.tables e below (T320.setTop (mkF m 100 #[.val (.int p0), .val (.int p1), .val (.int p2), .val (.int p3), .val (.int ((p0 &&& (2147483647 : Int32)) % (6 : Int32))), .val (.int (j1g_0 ((p0 &&& (2147483647 : Int32)) % (6 : Int32)) ((p1 &&& (2147483647 : Int32)) % (6 : Int32)))), .val (.ref b293), .val (.int (1 : Int32))] [(.int (j1g_0 ((p0 &&& (2147483647 : Int32)) % (6 : Int32)) ((p1 &&& (2147483647 : Int32)) % (6 : Int32))))])) _
            refine XS.ifNo X320.here hx rfl (hb hby at_100) rfl ((if0 _ _).trans (tlt hc639).2.2.2) ?_
            show Steps p.tables e below (T320.setTop (mkF m 103 #[.val (.int p0), .val (.int p1), .val (.int p2), .val (.int p3), .val (.int ((p0 &&& (2147483647 : Int32)) % (6 : Int32))), .val (.int (j1g_0 ((p0 &&& (2147483647 : Int32)) % (6 : Int32)) ((p1 &&& (2147483647 : Int32)) % (6 : Int32)))), .val (.ref b293), .val (.int (1 : Int32))] [])) _
            refine XS.aload X320.here hx rfl (hb hby at_103) rfl rfl ?_
            show Steps p.tables e below (T320.setTop (mkF m 105 #[.val (.int p0), .val (.int p1), .val (.int p2), .val (.int p3), .val (.int ((p0 &&& (2147483647 : Int32)) % (6 : Int32))), .val (.int (j1g_0 ((p0 &&& (2147483647 : Int32)) % (6 : Int32)) ((p1 &&& (2147483647 : Int32)) % (6 : Int32)))), .val (.ref b293), .val (.int (1 : Int32))] [(.ref b293)])) _
            refine st641.trans ?_
            show Steps p.tables e below (T641.setTop (mkF m 108 #[.val (.int p0), .val (.int p1), .val (.int p2), .val (.int p3), .val (.int ((p0 &&& (2147483647 : Int32)) % (6 : Int32))), .val (.int (j1g_0 ((p0 &&& (2147483647 : Int32)) % (6 : Int32)) ((p1 &&& (2147483647 : Int32)) % (6 : Int32)))), .val (.ref b293), .val (.int (1 : Int32))] [(.int p3)])) _
            refine XS.pop X641.here hx rfl (hb hby at_108) rfl rfl ?_
            show Steps p.tables e below (T641.setTop (mkF m 109 #[.val (.int p0), .val (.int p1), .val (.int p2), .val (.int p3), .val (.int ((p0 &&& (2147483647 : Int32)) % (6 : Int32))), .val (.int (j1g_0 ((p0 &&& (2147483647 : Int32)) % (6 : Int32)) ((p1 &&& (2147483647 : Int32)) % (6 : Int32)))), .val (.ref b293), .val (.int (1 : Int32))] [])) _
            refine XS.iload X641.here hx rfl (hb hby at_109) rfl ?_
            show Steps p.tables e below (T641.setTop (mkF m 111 #[.val (.int p0), .val (.int p1), .val (.int p2), .val (.int p3), .val (.int ((p0 &&& (2147483647 : Int32)) % (6 : Int32))), .val (.int (j1g_0 ((p0 &&& (2147483647 : Int32)) % (6 : Int32)) ((p1 &&& (2147483647 : Int32)) % (6 : Int32)))), .val (.ref b293), .val (.int (1 : Int32))] [(.int (j1g_0 ((p0 &&& (2147483647 : Int32)) % (6 : Int32)) ((p1 &&& (2147483647 : Int32)) % (6 : Int32))))])) _
            refine XS.iconst X641.here hx rfl (hb hby at_111) ?_
            exact k)
          by_cases hc649 : (1 : Int32) < (j1g_0 ((p0 &&& (2147483647 : Int32)) % (6 : Int32)) ((p1 &&& (2147483647 : Int32)) % (6 : Int32)))
          · skip
            obtain ⟨cq651, kq651, q651a, q651b, q651c⟩ := isOf hZ e641 f642
            obtain ⟨_, _, ⟨T651, L651, k651, n651⟩, -, X651, ⟨Lc651, hQ651, l651, y651, z651⟩, st651⟩ := X641.virtualBack hx (y := (⟨"com/example/subsumer/subsumer/classification/IntList", "pop", "()I"⟩ : MethodName)) (z := (⟨"com/example/subsumer/subsumer/classification/IntList", "pop", "()I"⟩ : MethodName)) hown (mvT hZ (hw _ (List.mem_of_getElem? (i := 29) rfl))) (mvT hZ (hw _ (List.mem_of_getElem? (i := 30) rfl))) (notFace_of_selects (args := #[]) (mvT hZ (hw _ (List.mem_of_getElem? (i := 32) rfl)))) (mvT hZ (hw _ (List.mem_of_getElem? (i := 32) rfl))) (mvT hZ (hw _ (List.mem_of_getElem? (i := 31) rfl))) (by decide) (backOf (W := 0) (rm6_4_1 l Z aw hw [] b293 cx0297 p2 p3 ((0 : Int32)) ((0 : Int32)) cy0297 h641 n0 Z641 f642 f644 f643 f648 g_b293 ne305) hZ (hw _ (List.mem_of_getElem? (i := 33) rfl)) (hw _ (List.mem_of_getElem? (i := 7) rfl)) (by decide) (by decide)) q651a q651c (g := (mkF m 117 #[.val (.int p0), .val (.int p1), .val (.int p2), .val (.int p3), .val (.int ((p0 &&& (2147483647 : Int32)) % (6 : Int32))), .val (.int (j1g_0 ((p0 &&& (2147483647 : Int32)) % (6 : Int32)) ((p1 &&& (2147483647 : Int32)) % (6 : Int32)))), .val (.ref b293), .val (.int (1 : Int32))] [(.ref b293)])) rfl (by rw [hml]; rfl) (Steps.refl _) (argsL := []) (rest := []) (lenOf pd_7 rfl) rfl (by show 2 * 0 + _ ≤ _; exact Nat.le_of_eq rfl) (hb hby at_117) (fun _ _ => ⟨rfl, e641, (by decide : 2 + 0 ≤ _), (by decide : 6 + 0 ≤ _)⟩)
            dsimp only [Pt.U, Pt.locs, Pt.cells, Pt.slots] at X651 l651 y651 z651 st651 hQ651
            subst l651 y651 z651
            obtain ⟨h651, e651⟩ : ∃ z, T651.heap = z := ⟨_, rfl⟩
            rw [e651] at hQ651
            obtain ⟨rfl, N651q, K651q, f652, f653, f654⟩ := hQ651
            have f655 := f642.keep K651q
            have f656 := f648.keep K651q (ninS (Ne.symm ne305) nin0)
            have Z651 := Nat.le_trans Z641 K651q.1
            have N651 := Fr.app N641 N651q
            obtain ⟨cq659, kq659, q659a, q659b, q659c⟩ := isOf hZ e651 f652
            obtain ⟨_, _, ⟨T659, L659, k659, n659⟩, -, X659, ⟨Lc659, hQ659, l659, y659, z659⟩, st659⟩ := X651.virtualBack hx (y := (⟨"com/example/subsumer/subsumer/classification/IntList", "isEmpty", "()Z"⟩ : MethodName)) (z := (⟨"com/example/subsumer/subsumer/classification/IntList", "isEmpty", "()Z"⟩ : MethodName)) hown (mvT hZ (hw _ (List.mem_of_getElem? (i := 17) rfl))) (mvT hZ (hw _ (List.mem_of_getElem? (i := 18) rfl))) (notFace_of_selects (args := #[]) (mvT hZ (hw _ (List.mem_of_getElem? (i := 20) rfl)))) (mvT hZ (hw _ (List.mem_of_getElem? (i := 20) rfl))) (mvT hZ (hw _ (List.mem_of_getElem? (i := 19) rfl))) (by decide) (backOf (W := 0) (rm4z l Z aw hw [] b293 h651 n0 Z651 f652 f653) hZ (hw _ (List.mem_of_getElem? (i := 21) rfl)) (hw _ (List.mem_of_getElem? (i := 7) rfl)) (by decide) (by decide)) q659a q659c (g := (mkF m 164 #[.val (.int p0), .val (.int p1), .val (.int p2), .val (.int p3), .val (.int ((p0 &&& (2147483647 : Int32)) % (6 : Int32))), .val (.int (j1g_0 ((p0 &&& (2147483647 : Int32)) % (6 : Int32)) ((p1 &&& (2147483647 : Int32)) % (6 : Int32)))), .val (.ref b293), .val (.int (1 : Int32))] [(.ref b293)])) rfl (by rw [hml]; rfl) (Steps.refl _) (argsL := []) (rest := []) (lenOf pd_5 rfl) rfl (by show 2 * 0 + _ ≤ _; exact Nat.le_of_eq rfl) (hb hby at_164) (fun _ _ => ⟨rfl, e651, (by decide : 2 + 0 ≤ _), (by decide : 6 + 0 ≤ _)⟩)
            dsimp only [Pt.U, Pt.locs, Pt.cells, Pt.slots] at X659 l659 y659 z659 st659 hQ659
            subst l659 y659 z659
            obtain ⟨rfl, N659q, e659⟩ := hQ659
            have N659 := Fr.app N651 N659q
            have pre660 := fun (t : State) (k : Steps p.tables e below (T659.setTop (mkF m 171 #[.val (.int p0), .val (.int p1), .val (.int p2), .val (.int p3), .val (.int ((p0 &&& (2147483647 : Int32)) % (6 : Int32))), .val (.int (j1g_0 ((p0 &&& (2147483647 : Int32)) % (6 : Int32)) ((p1 &&& (2147483647 : Int32)) % (6 : Int32)))), .val (.ref b293), .val (.int (1 : Int32))] [(.int (j1g_0 ((p0 &&& (2147483647 : Int32)) % (6 : Int32)) ((p1 &&& (2147483647 : Int32)) % (6 : Int32)))), (.int ((p0 &&& (2147483647 : Int32)) % (6 : Int32))), (.int (1 : Int32))])) t) => pre650 t (by
              show Steps p.tables e below (T641.setTop (mkF m 112 #[.val (.int p0), .val (.int p1), .val (.int p2), .val (.int p3), .val (.int ((p0 &&& (2147483647 : Int32)) % (6 : Int32))), .val (.int (j1g_0 ((p0 &&& (2147483647 : Int32)) % (6 : Int32)) ((p1 &&& (2147483647 : Int32)) % (6 : Int32)))), .val (.ref b293), .val (.int (1 : Int32))] [(.int (1 : Int32)), (.int (j1g_0 ((p0 &&& (2147483647 : Int32)) % (6 : Int32)) ((p1 &&& (2147483647 : Int32)) % (6 : Int32))))])) _
              refine XS.icmpNo X641.here hx rfl (hb hby at_112) rfl (tlt hc649).2.2.2 ?_
              show Steps p.tables e below (T641.setTop (mkF m 115 #[.val (.int p0), .val (.int p1), .val (.int p2), .val (.int p3), .val (.int ((p0 &&& (2147483647 : Int32)) % (6 : Int32))), .val (.int (j1g_0 ((p0 &&& (2147483647 : Int32)) % (6 : Int32)) ((p1 &&& (2147483647 : Int32)) % (6 : Int32)))), .val (.ref b293), .val (.int (1 : Int32))] [])) _
              refine XS.aload X641.here hx rfl (hb hby at_115) rfl rfl ?_
              show Steps p.tables e below (T641.setTop (mkF m 117 #[.val (.int p0), .val (.int p1), .val (.int p2), .val (.int p3), .val (.int ((p0 &&& (2147483647 : Int32)) % (6 : Int32))), .val (.int (j1g_0 ((p0 &&& (2147483647 : Int32)) % (6 : Int32)) ((p1 &&& (2147483647 : Int32)) % (6 : Int32)))), .val (.ref b293), .val (.int (1 : Int32))] [(.ref b293)])) _
              refine st651.trans ?_
              show Steps p.tables e below (T651.setTop (mkF m 120 #[.val (.int p0), .val (.int p1), .val (.int p2), .val (.int p3), .val (.int ((p0 &&& (2147483647 : Int32)) % (6 : Int32))), .val (.int (j1g_0 ((p0 &&& (2147483647 : Int32)) % (6 : Int32)) ((p1 &&& (2147483647 : Int32)) % (6 : Int32)))), .val (.ref b293), .val (.int (1 : Int32))] [(.int p2)])) _
              refine XS.pop X651.here hx rfl (hb hby at_120) rfl rfl ?_
              show Steps p.tables e below (T651.setTop (mkF m 121 #[.val (.int p0), .val (.int p1), .val (.int p2), .val (.int p3), .val (.int ((p0 &&& (2147483647 : Int32)) % (6 : Int32))), .val (.int (j1g_0 ((p0 &&& (2147483647 : Int32)) % (6 : Int32)) ((p1 &&& (2147483647 : Int32)) % (6 : Int32)))), .val (.ref b293), .val (.int (1 : Int32))] [])) _
              refine XS.iload X651.here hx rfl (hb hby at_121) rfl ?_
              show Steps p.tables e below (T651.setTop (mkF m 123 #[.val (.int p0), .val (.int p1), .val (.int p2), .val (.int p3), .val (.int ((p0 &&& (2147483647 : Int32)) % (6 : Int32))), .val (.int (j1g_0 ((p0 &&& (2147483647 : Int32)) % (6 : Int32)) ((p1 &&& (2147483647 : Int32)) % (6 : Int32)))), .val (.ref b293), .val (.int (1 : Int32))] [(.int (j1g_0 ((p0 &&& (2147483647 : Int32)) % (6 : Int32)) ((p1 &&& (2147483647 : Int32)) % (6 : Int32))))])) _
              refine XS.iconst X651.here hx rfl (hb hby at_123) ?_
              show Steps p.tables e below (T651.setTop (mkF m 124 #[.val (.int p0), .val (.int p1), .val (.int p2), .val (.int p3), .val (.int ((p0 &&& (2147483647 : Int32)) % (6 : Int32))), .val (.int (j1g_0 ((p0 &&& (2147483647 : Int32)) % (6 : Int32)) ((p1 &&& (2147483647 : Int32)) % (6 : Int32)))), .val (.ref b293), .val (.int (1 : Int32))] [(.int (2 : Int32)), (.int (j1g_0 ((p0 &&& (2147483647 : Int32)) % (6 : Int32)) ((p1 &&& (2147483647 : Int32)) % (6 : Int32))))])) _
              refine XS.icmpYes X651.here hx rfl (pc0 := 124) (pc' := 133) rfl (hb hby at_124) rfl (flt (own_mn (own_up hc329 (by decide)))).2.2.2 (by decide) (by decide) ?_
              show Steps p.tables e below (T651.setTop (mkF m 133 #[.val (.int p0), .val (.int p1), .val (.int p2), .val (.int p3), .val (.int ((p0 &&& (2147483647 : Int32)) % (6 : Int32))), .val (.int (j1g_0 ((p0 &&& (2147483647 : Int32)) % (6 : Int32)) ((p1 &&& (2147483647 : Int32)) % (6 : Int32)))), .val (.ref b293), .val (.int (1 : Int32))] [])) _
              refine XS.iload X651.here hx rfl (hb hby at_133) rfl ?_
              show Steps p.tables e below (T651.setTop (mkF m 135 #[.val (.int p0), .val (.int p1), .val (.int p2), .val (.int p3), .val (.int ((p0 &&& (2147483647 : Int32)) % (6 : Int32))), .val (.int (j1g_0 ((p0 &&& (2147483647 : Int32)) % (6 : Int32)) ((p1 &&& (2147483647 : Int32)) % (6 : Int32)))), .val (.ref b293), .val (.int (1 : Int32))] [(.int (j1g_0 ((p0 &&& (2147483647 : Int32)) % (6 : Int32)) ((p1 &&& (2147483647 : Int32)) % (6 : Int32))))])) _
              refine XS.iconst X651.here hx rfl (hb hby at_135) ?_
              show Steps p.tables e below (T651.setTop (mkF m 136 #[.val (.int p0), .val (.int p1), .val (.int p2), .val (.int p3), .val (.int ((p0 &&& (2147483647 : Int32)) % (6 : Int32))), .val (.int (j1g_0 ((p0 &&& (2147483647 : Int32)) % (6 : Int32)) ((p1 &&& (2147483647 : Int32)) % (6 : Int32)))), .val (.ref b293), .val (.int (1 : Int32))] [(.int (3 : Int32)), (.int (j1g_0 ((p0 &&& (2147483647 : Int32)) % (6 : Int32)) ((p1 &&& (2147483647 : Int32)) % (6 : Int32))))])) _
              refine XS.icmpYes X651.here hx rfl (pc0 := 136) (pc' := 145) rfl (hb hby at_136) rfl (flt (own_mn (own_up hc329 (by decide)))).2.2.2 (by decide) (by decide) ?_
              show Steps p.tables e below (T651.setTop (mkF m 145 #[.val (.int p0), .val (.int p1), .val (.int p2), .val (.int p3), .val (.int ((p0 &&& (2147483647 : Int32)) % (6 : Int32))), .val (.int (j1g_0 ((p0 &&& (2147483647 : Int32)) % (6 : Int32)) ((p1 &&& (2147483647 : Int32)) % (6 : Int32)))), .val (.ref b293), .val (.int (1 : Int32))] [])) _
              refine XS.iload X651.here hx rfl (hb hby at_145) rfl ?_
              show Steps p.tables e below (T651.setTop (mkF m 147 #[.val (.int p0), .val (.int p1), .val (.int p2), .val (.int p3), .val (.int ((p0 &&& (2147483647 : Int32)) % (6 : Int32))), .val (.int (j1g_0 ((p0 &&& (2147483647 : Int32)) % (6 : Int32)) ((p1 &&& (2147483647 : Int32)) % (6 : Int32)))), .val (.ref b293), .val (.int (1 : Int32))] [(.int (j1g_0 ((p0 &&& (2147483647 : Int32)) % (6 : Int32)) ((p1 &&& (2147483647 : Int32)) % (6 : Int32))))])) _
              refine XS.iconst X651.here hx rfl (hb hby at_147) ?_
              show Steps p.tables e below (T651.setTop (mkF m 148 #[.val (.int p0), .val (.int p1), .val (.int p2), .val (.int p3), .val (.int ((p0 &&& (2147483647 : Int32)) % (6 : Int32))), .val (.int (j1g_0 ((p0 &&& (2147483647 : Int32)) % (6 : Int32)) ((p1 &&& (2147483647 : Int32)) % (6 : Int32)))), .val (.ref b293), .val (.int (1 : Int32))] [(.int (4 : Int32)), (.int (j1g_0 ((p0 &&& (2147483647 : Int32)) % (6 : Int32)) ((p1 &&& (2147483647 : Int32)) % (6 : Int32))))])) _
              refine XS.icmpYes X651.here hx rfl (pc0 := 148) (pc' := 157) rfl (hb hby at_148) rfl (flt (own_mn (own_up hc329 (by decide)))).2.2.2 (by decide) (by decide) ?_
              show Steps p.tables e below (T651.setTop (mkF m 157 #[.val (.int p0), .val (.int p1), .val (.int p2), .val (.int p3), .val (.int ((p0 &&& (2147483647 : Int32)) % (6 : Int32))), .val (.int (j1g_0 ((p0 &&& (2147483647 : Int32)) % (6 : Int32)) ((p1 &&& (2147483647 : Int32)) % (6 : Int32)))), .val (.ref b293), .val (.int (1 : Int32))] [])) _
              refine XS.iload X651.here hx rfl (hb hby at_157) rfl ?_
              show Steps p.tables e below (T651.setTop (mkF m 159 #[.val (.int p0), .val (.int p1), .val (.int p2), .val (.int p3), .val (.int ((p0 &&& (2147483647 : Int32)) % (6 : Int32))), .val (.int (j1g_0 ((p0 &&& (2147483647 : Int32)) % (6 : Int32)) ((p1 &&& (2147483647 : Int32)) % (6 : Int32)))), .val (.ref b293), .val (.int (1 : Int32))] [(.int (1 : Int32))])) _
              refine XS.ifNo X651.here hx rfl (hb hby at_159) rfl ((if0 _ _).trans (feq (by decide : ¬ ((1 : Int32) = (0 : Int32)))).1) ?_
              show Steps p.tables e below (T651.setTop (mkF m 162 #[.val (.int p0), .val (.int p1), .val (.int p2), .val (.int p3), .val (.int ((p0 &&& (2147483647 : Int32)) % (6 : Int32))), .val (.int (j1g_0 ((p0 &&& (2147483647 : Int32)) % (6 : Int32)) ((p1 &&& (2147483647 : Int32)) % (6 : Int32)))), .val (.ref b293), .val (.int (1 : Int32))] [])) _
              refine XS.aload X651.here hx rfl (hb hby at_162) rfl rfl ?_
              show Steps p.tables e below (T651.setTop (mkF m 164 #[.val (.int p0), .val (.int p1), .val (.int p2), .val (.int p3), .val (.int ((p0 &&& (2147483647 : Int32)) % (6 : Int32))), .val (.int (j1g_0 ((p0 &&& (2147483647 : Int32)) % (6 : Int32)) ((p1 &&& (2147483647 : Int32)) % (6 : Int32)))), .val (.ref b293), .val (.int (1 : Int32))] [(.ref b293)])) _
              refine st659.trans ?_
              show Steps p.tables e below (T659.setTop (mkF m 167 #[.val (.int p0), .val (.int p1), .val (.int p2), .val (.int p3), .val (.int ((p0 &&& (2147483647 : Int32)) % (6 : Int32))), .val (.int (j1g_0 ((p0 &&& (2147483647 : Int32)) % (6 : Int32)) ((p1 &&& (2147483647 : Int32)) % (6 : Int32)))), .val (.ref b293), .val (.int (1 : Int32))] [(.int (1 : Int32))])) _
              refine XS.iload X659.here hx rfl (hb hby at_167) rfl ?_
              show Steps p.tables e below (T659.setTop (mkF m 169 #[.val (.int p0), .val (.int p1), .val (.int p2), .val (.int p3), .val (.int ((p0 &&& (2147483647 : Int32)) % (6 : Int32))), .val (.int (j1g_0 ((p0 &&& (2147483647 : Int32)) % (6 : Int32)) ((p1 &&& (2147483647 : Int32)) % (6 : Int32)))), .val (.ref b293), .val (.int (1 : Int32))] [(.int ((p0 &&& (2147483647 : Int32)) % (6 : Int32))), (.int (1 : Int32))])) _
              refine XS.iload X659.here hx rfl (hb hby at_169) rfl ?_
              exact k)
            have pre661 := fun (t : State) (k : Steps p.tables e below (T659.setTop (mkF m 179 #[.val (.int p0), .val (.int p1), .val (.int p2), .val (.int p3), .val (.int ((p0 &&& (2147483647 : Int32)) % (6 : Int32))), .val (.int (j1g_0 ((p0 &&& (2147483647 : Int32)) % (6 : Int32)) ((p1 &&& (2147483647 : Int32)) % (6 : Int32)))), .val (.ref b293), .val (.int (1 : Int32))] [(.int (j0_0 p0 p1)), (.int (1 : Int32))])) t) => pre660 t (by
              by_cases hc662 : ((p0 &&& (2147483647 : Int32)) % (6 : Int32)) = (j1g_0 ((p0 &&& (2147483647 : Int32)) % (6 : Int32)) ((p1 &&& (2147483647 : Int32)) % (6 : Int32)))
              · skip
                show Steps p.tables e below (T659.setTop (mkF m 171 #[.val (.int p0), .val (.int p1), .val (.int p2), .val (.int p3), .val (.int ((p0 &&& (2147483647 : Int32)) % (6 : Int32))), .val (.int (j1g_0 ((p0 &&& (2147483647 : Int32)) % (6 : Int32)) ((p1 &&& (2147483647 : Int32)) % (6 : Int32)))), .val (.ref b293), .val (.int (1 : Int32))] [(.int (j1g_0 ((p0 &&& (2147483647 : Int32)) % (6 : Int32)) ((p1 &&& (2147483647 : Int32)) % (6 : Int32)))), (.int ((p0 &&& (2147483647 : Int32)) % (6 : Int32))), (.int (1 : Int32))])) _
                refine XS.icmpNo X659.here hx rfl (hb hby at_171) rfl (teq hc662).2 ?_
                show Steps p.tables e below (T659.setTop (mkF m 174 #[.val (.int p0), .val (.int p1), .val (.int p2), .val (.int p3), .val (.int ((p0 &&& (2147483647 : Int32)) % (6 : Int32))), .val (.int (j1g_0 ((p0 &&& (2147483647 : Int32)) % (6 : Int32)) ((p1 &&& (2147483647 : Int32)) % (6 : Int32)))), .val (.ref b293), .val (.int (1 : Int32))] [(.int (1 : Int32))])) _
                refine XS.iconst X659.here hx rfl (hb hby at_174) ?_
                show Steps p.tables e below (T659.setTop (mkF m 175 #[.val (.int p0), .val (.int p1), .val (.int p2), .val (.int p3), .val (.int ((p0 &&& (2147483647 : Int32)) % (6 : Int32))), .val (.int (j1g_0 ((p0 &&& (2147483647 : Int32)) % (6 : Int32)) ((p1 &&& (2147483647 : Int32)) % (6 : Int32)))), .val (.ref b293), .val (.int (1 : Int32))] [(.int (1 : Int32)), (.int (1 : Int32))])) _
                refine XS.goto X659.here hx rfl (pc0 := 175) (pc' := 179) rfl (hb hby at_175) (by decide) (by decide) ?_
                have hj663 : (j0_0 p0 p1) = (1 : Int32) := by unfold j0_0; first | (rw [if_pos hc662]) | (simp only [if_pos hc662])
                rw [hj663] at k
                exact k
              · skip
                show Steps p.tables e below (T659.setTop (mkF m 171 #[.val (.int p0), .val (.int p1), .val (.int p2), .val (.int p3), .val (.int ((p0 &&& (2147483647 : Int32)) % (6 : Int32))), .val (.int (j1g_0 ((p0 &&& (2147483647 : Int32)) % (6 : Int32)) ((p1 &&& (2147483647 : Int32)) % (6 : Int32)))), .val (.ref b293), .val (.int (1 : Int32))] [(.int (j1g_0 ((p0 &&& (2147483647 : Int32)) % (6 : Int32)) ((p1 &&& (2147483647 : Int32)) % (6 : Int32)))), (.int ((p0 &&& (2147483647 : Int32)) % (6 : Int32))), (.int (1 : Int32))])) _
                refine XS.icmpYes X659.here hx rfl (pc0 := 171) (pc' := 178) rfl (hb hby at_171) rfl (feq hc662).2 (by decide) (by decide) ?_
                show Steps p.tables e below (T659.setTop (mkF m 178 #[.val (.int p0), .val (.int p1), .val (.int p2), .val (.int p3), .val (.int ((p0 &&& (2147483647 : Int32)) % (6 : Int32))), .val (.int (j1g_0 ((p0 &&& (2147483647 : Int32)) % (6 : Int32)) ((p1 &&& (2147483647 : Int32)) % (6 : Int32)))), .val (.ref b293), .val (.int (1 : Int32))] [(.int (1 : Int32))])) _
                refine XS.iconst X659.here hx rfl (hb hby at_178) ?_
                have hj664 : (j0_0 p0 p1) = (0 : Int32) := by unfold j0_0; first | (rw [if_neg hc662]) | (simp only [if_neg hc662])
                rw [hj664] at k
                exact k)
            have pre665 := fun (t : State) (k : Steps p.tables e below (T659.setTop (mkF m 187 #[.val (.int p0), .val (.int p1), .val (.int p2), .val (.int p3), .val (.int ((p0 &&& (2147483647 : Int32)) % (6 : Int32))), .val (.int (j1g_0 ((p0 &&& (2147483647 : Int32)) % (6 : Int32)) ((p1 &&& (2147483647 : Int32)) % (6 : Int32)))), .val (.ref b293), .val (.int (1 : Int32))] [(.int (j0_1 p0 p1))])) t) => pre661 t (by
              by_cases hc666 : (1 : Int32) = (j0_0 p0 p1)
              · skip
                show Steps p.tables e below (T659.setTop (mkF m 179 #[.val (.int p0), .val (.int p1), .val (.int p2), .val (.int p3), .val (.int ((p0 &&& (2147483647 : Int32)) % (6 : Int32))), .val (.int (j1g_0 ((p0 &&& (2147483647 : Int32)) % (6 : Int32)) ((p1 &&& (2147483647 : Int32)) % (6 : Int32)))), .val (.ref b293), .val (.int (1 : Int32))] [(.int (j0_0 p0 p1)), (.int (1 : Int32))])) _
                refine XS.icmpNo X659.here hx rfl (hb hby at_179) rfl (teq hc666).2 ?_
                show Steps p.tables e below (T659.setTop (mkF m 182 #[.val (.int p0), .val (.int p1), .val (.int p2), .val (.int p3), .val (.int ((p0 &&& (2147483647 : Int32)) % (6 : Int32))), .val (.int (j1g_0 ((p0 &&& (2147483647 : Int32)) % (6 : Int32)) ((p1 &&& (2147483647 : Int32)) % (6 : Int32)))), .val (.ref b293), .val (.int (1 : Int32))] [])) _
                refine XS.iconst X659.here hx rfl (hb hby at_182) ?_
                show Steps p.tables e below (T659.setTop (mkF m 183 #[.val (.int p0), .val (.int p1), .val (.int p2), .val (.int p3), .val (.int ((p0 &&& (2147483647 : Int32)) % (6 : Int32))), .val (.int (j1g_0 ((p0 &&& (2147483647 : Int32)) % (6 : Int32)) ((p1 &&& (2147483647 : Int32)) % (6 : Int32)))), .val (.ref b293), .val (.int (1 : Int32))] [(.int (1 : Int32))])) _
                refine XS.goto X659.here hx rfl (pc0 := 183) (pc' := 187) rfl (hb hby at_183) (by decide) (by decide) ?_
                have hj667 : (j0_1 p0 p1) = (1 : Int32) := by unfold j0_1; first | (rw [if_pos hc666]) | (simp only [if_pos hc666])
                rw [hj667] at k
                exact k
              · skip
                show Steps p.tables e below (T659.setTop (mkF m 179 #[.val (.int p0), .val (.int p1), .val (.int p2), .val (.int p3), .val (.int ((p0 &&& (2147483647 : Int32)) % (6 : Int32))), .val (.int (j1g_0 ((p0 &&& (2147483647 : Int32)) % (6 : Int32)) ((p1 &&& (2147483647 : Int32)) % (6 : Int32)))), .val (.ref b293), .val (.int (1 : Int32))] [(.int (j0_0 p0 p1)), (.int (1 : Int32))])) _
                refine XS.icmpYes X659.here hx rfl (pc0 := 179) (pc' := 186) rfl (hb hby at_179) rfl (feq hc666).2 (by decide) (by decide) ?_
                show Steps p.tables e below (T659.setTop (mkF m 186 #[.val (.int p0), .val (.int p1), .val (.int p2), .val (.int p3), .val (.int ((p0 &&& (2147483647 : Int32)) % (6 : Int32))), .val (.int (j1g_0 ((p0 &&& (2147483647 : Int32)) % (6 : Int32)) ((p1 &&& (2147483647 : Int32)) % (6 : Int32)))), .val (.ref b293), .val (.int (1 : Int32))] [])) _
                refine XS.iconst X659.here hx rfl (hb hby at_186) ?_
                have hj668 : (j0_1 p0 p1) = (0 : Int32) := by unfold j0_1; first | (rw [if_neg hc666]) | (simp only [if_neg hc666])
                rw [hj668] at k
                exact k)
            obtain ⟨fs, hr, hrun, hended, hW, hsame⟩ := X659.leave (v := some (.int (nar .boolean (j0_1 p0 p1)))) (fun h => by rw [Bd.returns] at h; cases h)
            refine ⟨_, _, pre665 _ ?_, hrun, hended, _, _, rfl, ?_, ⟨_, rfl⟩, hW, hsame.mono (by decide) (by decide)⟩
            · skip
              show Steps p.tables e below (T659.setTop (mkF m 187 #[.val (.int p0), .val (.int p1), .val (.int p2), .val (.int p3), .val (.int ((p0 &&& (2147483647 : Int32)) % (6 : Int32))), .val (.int (j1g_0 ((p0 &&& (2147483647 : Int32)) % (6 : Int32)) ((p1 &&& (2147483647 : Int32)) % (6 : Int32)))), .val (.ref b293), .val (.int (1 : Int32))] [(.int (j0_1 p0 p1))])) _
              exact retN X659 hx (t := .boolean) Bd.returns (by simp) (hb hby at_187) hr
            · show Q0 Z p0 p1 p2 p3 h0 n0 _ T659.heap _
              rw [e659]
              have hv : (nar .boolean (j0_1 p0 p1)) = (v0 p0 p1) := by unfold v0; first | (rw [if_pos hc307, if_pos hc318, if_neg hc329, if_pos hc639, if_pos hc649]) | (simp only [if_pos hc307, if_pos hc318, if_neg hc329, if_pos hc639, if_pos hc649])
              exact ⟨(by rw [← hv]), N659⟩
          · skip
            obtain ⟨cq669, kq669, q669a, q669b, q669c⟩ := isOf hZ e641 f642
            obtain ⟨_, _, ⟨T669, L669, k669, n669⟩, -, X669, ⟨Lc669, hQ669, l669, y669, z669⟩, st669⟩ := X641.virtualBack hx (y := (⟨"com/example/subsumer/subsumer/classification/IntList", "isEmpty", "()Z"⟩ : MethodName)) (z := (⟨"com/example/subsumer/subsumer/classification/IntList", "isEmpty", "()Z"⟩ : MethodName)) hown (mvT hZ (hw _ (List.mem_of_getElem? (i := 17) rfl))) (mvT hZ (hw _ (List.mem_of_getElem? (i := 18) rfl))) (notFace_of_selects (args := #[]) (mvT hZ (hw _ (List.mem_of_getElem? (i := 20) rfl)))) (mvT hZ (hw _ (List.mem_of_getElem? (i := 20) rfl))) (mvT hZ (hw _ (List.mem_of_getElem? (i := 19) rfl))) (by decide) (backOf (W := 0) (rm4_1 l Z aw hw [] b293 h641 n0 Z641 f642 f643) hZ (hw _ (List.mem_of_getElem? (i := 21) rfl)) (hw _ (List.mem_of_getElem? (i := 7) rfl)) (by decide) (by decide)) q669a q669c (g := (mkF m 164 #[.val (.int p0), .val (.int p1), .val (.int p2), .val (.int p3), .val (.int ((p0 &&& (2147483647 : Int32)) % (6 : Int32))), .val (.int (j1g_0 ((p0 &&& (2147483647 : Int32)) % (6 : Int32)) ((p1 &&& (2147483647 : Int32)) % (6 : Int32)))), .val (.ref b293), .val (.int (1 : Int32))] [(.ref b293)])) rfl (by rw [hml]; rfl) (Steps.refl _) (argsL := []) (rest := []) (lenOf pd_5 rfl) rfl (by show 2 * 0 + _ ≤ _; exact Nat.le_of_eq rfl) (hb hby at_164) (fun _ _ => ⟨rfl, e641, (by decide : 2 + 0 ≤ _), (by decide : 6 + 0 ≤ _)⟩)
            dsimp only [Pt.U, Pt.locs, Pt.cells, Pt.slots] at X669 l669 y669 z669 st669 hQ669
            subst l669 y669 z669
            obtain ⟨rfl, N669q, e669⟩ := hQ669
            have N669 := Fr.app N641 N669q
            have pre670 := fun (t : State) (k : Steps p.tables e below (T669.setTop (mkF m 171 #[.val (.int p0), .val (.int p1), .val (.int p2), .val (.int p3), .val (.int ((p0 &&& (2147483647 : Int32)) % (6 : Int32))), .val (.int (j1g_0 ((p0 &&& (2147483647 : Int32)) % (6 : Int32)) ((p1 &&& (2147483647 : Int32)) % (6 : Int32)))), .val (.ref b293), .val (.int (1 : Int32))] [(.int (j1g_0 ((p0 &&& (2147483647 : Int32)) % (6 : Int32)) ((p1 &&& (2147483647 : Int32)) % (6 : Int32)))), (.int ((p0 &&& (2147483647 : Int32)) % (6 : Int32))), (.int (0 : Int32))])) t) => pre650 t (by
              show Steps p.tables e below (T641.setTop (mkF m 112 #[.val (.int p0), .val (.int p1), .val (.int p2), .val (.int p3), .val (.int ((p0 &&& (2147483647 : Int32)) % (6 : Int32))), .val (.int (j1g_0 ((p0 &&& (2147483647 : Int32)) % (6 : Int32)) ((p1 &&& (2147483647 : Int32)) % (6 : Int32)))), .val (.ref b293), .val (.int (1 : Int32))] [(.int (1 : Int32)), (.int (j1g_0 ((p0 &&& (2147483647 : Int32)) % (6 : Int32)) ((p1 &&& (2147483647 : Int32)) % (6 : Int32))))])) _
              refine XS.icmpYes X641.here hx rfl (pc0 := 112) (pc' := 121) rfl (hb hby at_112) rfl (flt hc649).2.2.2 (by decide) (by decide) ?_
              show Steps p.tables e below (T641.setTop (mkF m 121 #[.val (.int p0), .val (.int p1), .val (.int p2), .val (.int p3), .val (.int ((p0 &&& (2147483647 : Int32)) % (6 : Int32))), .val (.int (j1g_0 ((p0 &&& (2147483647 : Int32)) % (6 : Int32)) ((p1 &&& (2147483647 : Int32)) % (6 : Int32)))), .val (.ref b293), .val (.int (1 : Int32))] [])) _
              refine XS.iload X641.here hx rfl (hb hby at_121) rfl ?_
              show Steps p.tables e below (T641.setTop (mkF m 123 #[.val (.int p0), .val (.int p1), .val (.int p2), .val (.int p3), .val (.int ((p0 &&& (2147483647 : Int32)) % (6 : Int32))), .val (.int (j1g_0 ((p0 &&& (2147483647 : Int32)) % (6 : Int32)) ((p1 &&& (2147483647 : Int32)) % (6 : Int32)))), .val (.ref b293), .val (.int (1 : Int32))] [(.int (j1g_0 ((p0 &&& (2147483647 : Int32)) % (6 : Int32)) ((p1 &&& (2147483647 : Int32)) % (6 : Int32))))])) _
              refine XS.iconst X641.here hx rfl (hb hby at_123) ?_
              show Steps p.tables e below (T641.setTop (mkF m 124 #[.val (.int p0), .val (.int p1), .val (.int p2), .val (.int p3), .val (.int ((p0 &&& (2147483647 : Int32)) % (6 : Int32))), .val (.int (j1g_0 ((p0 &&& (2147483647 : Int32)) % (6 : Int32)) ((p1 &&& (2147483647 : Int32)) % (6 : Int32)))), .val (.ref b293), .val (.int (1 : Int32))] [(.int (2 : Int32)), (.int (j1g_0 ((p0 &&& (2147483647 : Int32)) % (6 : Int32)) ((p1 &&& (2147483647 : Int32)) % (6 : Int32))))])) _
              refine XS.icmpYes X641.here hx rfl (pc0 := 124) (pc' := 133) rfl (hb hby at_124) rfl (flt (own_mn (own_up hc329 (by decide)))).2.2.2 (by decide) (by decide) ?_
              show Steps p.tables e below (T641.setTop (mkF m 133 #[.val (.int p0), .val (.int p1), .val (.int p2), .val (.int p3), .val (.int ((p0 &&& (2147483647 : Int32)) % (6 : Int32))), .val (.int (j1g_0 ((p0 &&& (2147483647 : Int32)) % (6 : Int32)) ((p1 &&& (2147483647 : Int32)) % (6 : Int32)))), .val (.ref b293), .val (.int (1 : Int32))] [])) _
              refine XS.iload X641.here hx rfl (hb hby at_133) rfl ?_
              show Steps p.tables e below (T641.setTop (mkF m 135 #[.val (.int p0), .val (.int p1), .val (.int p2), .val (.int p3), .val (.int ((p0 &&& (2147483647 : Int32)) % (6 : Int32))), .val (.int (j1g_0 ((p0 &&& (2147483647 : Int32)) % (6 : Int32)) ((p1 &&& (2147483647 : Int32)) % (6 : Int32)))), .val (.ref b293), .val (.int (1 : Int32))] [(.int (j1g_0 ((p0 &&& (2147483647 : Int32)) % (6 : Int32)) ((p1 &&& (2147483647 : Int32)) % (6 : Int32))))])) _
              refine XS.iconst X641.here hx rfl (hb hby at_135) ?_
              show Steps p.tables e below (T641.setTop (mkF m 136 #[.val (.int p0), .val (.int p1), .val (.int p2), .val (.int p3), .val (.int ((p0 &&& (2147483647 : Int32)) % (6 : Int32))), .val (.int (j1g_0 ((p0 &&& (2147483647 : Int32)) % (6 : Int32)) ((p1 &&& (2147483647 : Int32)) % (6 : Int32)))), .val (.ref b293), .val (.int (1 : Int32))] [(.int (3 : Int32)), (.int (j1g_0 ((p0 &&& (2147483647 : Int32)) % (6 : Int32)) ((p1 &&& (2147483647 : Int32)) % (6 : Int32))))])) _
              refine XS.icmpYes X641.here hx rfl (pc0 := 136) (pc' := 145) rfl (hb hby at_136) rfl (flt (own_mn (own_up hc329 (by decide)))).2.2.2 (by decide) (by decide) ?_
              show Steps p.tables e below (T641.setTop (mkF m 145 #[.val (.int p0), .val (.int p1), .val (.int p2), .val (.int p3), .val (.int ((p0 &&& (2147483647 : Int32)) % (6 : Int32))), .val (.int (j1g_0 ((p0 &&& (2147483647 : Int32)) % (6 : Int32)) ((p1 &&& (2147483647 : Int32)) % (6 : Int32)))), .val (.ref b293), .val (.int (1 : Int32))] [])) _
              refine XS.iload X641.here hx rfl (hb hby at_145) rfl ?_
              show Steps p.tables e below (T641.setTop (mkF m 147 #[.val (.int p0), .val (.int p1), .val (.int p2), .val (.int p3), .val (.int ((p0 &&& (2147483647 : Int32)) % (6 : Int32))), .val (.int (j1g_0 ((p0 &&& (2147483647 : Int32)) % (6 : Int32)) ((p1 &&& (2147483647 : Int32)) % (6 : Int32)))), .val (.ref b293), .val (.int (1 : Int32))] [(.int (j1g_0 ((p0 &&& (2147483647 : Int32)) % (6 : Int32)) ((p1 &&& (2147483647 : Int32)) % (6 : Int32))))])) _
              refine XS.iconst X641.here hx rfl (hb hby at_147) ?_
              show Steps p.tables e below (T641.setTop (mkF m 148 #[.val (.int p0), .val (.int p1), .val (.int p2), .val (.int p3), .val (.int ((p0 &&& (2147483647 : Int32)) % (6 : Int32))), .val (.int (j1g_0 ((p0 &&& (2147483647 : Int32)) % (6 : Int32)) ((p1 &&& (2147483647 : Int32)) % (6 : Int32)))), .val (.ref b293), .val (.int (1 : Int32))] [(.int (4 : Int32)), (.int (j1g_0 ((p0 &&& (2147483647 : Int32)) % (6 : Int32)) ((p1 &&& (2147483647 : Int32)) % (6 : Int32))))])) _
              refine XS.icmpYes X641.here hx rfl (pc0 := 148) (pc' := 157) rfl (hb hby at_148) rfl (flt (own_mn (own_up hc329 (by decide)))).2.2.2 (by decide) (by decide) ?_
              show Steps p.tables e below (T641.setTop (mkF m 157 #[.val (.int p0), .val (.int p1), .val (.int p2), .val (.int p3), .val (.int ((p0 &&& (2147483647 : Int32)) % (6 : Int32))), .val (.int (j1g_0 ((p0 &&& (2147483647 : Int32)) % (6 : Int32)) ((p1 &&& (2147483647 : Int32)) % (6 : Int32)))), .val (.ref b293), .val (.int (1 : Int32))] [])) _
              refine XS.iload X641.here hx rfl (hb hby at_157) rfl ?_
              show Steps p.tables e below (T641.setTop (mkF m 159 #[.val (.int p0), .val (.int p1), .val (.int p2), .val (.int p3), .val (.int ((p0 &&& (2147483647 : Int32)) % (6 : Int32))), .val (.int (j1g_0 ((p0 &&& (2147483647 : Int32)) % (6 : Int32)) ((p1 &&& (2147483647 : Int32)) % (6 : Int32)))), .val (.ref b293), .val (.int (1 : Int32))] [(.int (1 : Int32))])) _
              refine XS.ifNo X641.here hx rfl (hb hby at_159) rfl ((if0 _ _).trans (feq (by decide : ¬ ((1 : Int32) = (0 : Int32)))).1) ?_
              show Steps p.tables e below (T641.setTop (mkF m 162 #[.val (.int p0), .val (.int p1), .val (.int p2), .val (.int p3), .val (.int ((p0 &&& (2147483647 : Int32)) % (6 : Int32))), .val (.int (j1g_0 ((p0 &&& (2147483647 : Int32)) % (6 : Int32)) ((p1 &&& (2147483647 : Int32)) % (6 : Int32)))), .val (.ref b293), .val (.int (1 : Int32))] [])) _
              refine XS.aload X641.here hx rfl (hb hby at_162) rfl rfl ?_
              show Steps p.tables e below (T641.setTop (mkF m 164 #[.val (.int p0), .val (.int p1), .val (.int p2), .val (.int p3), .val (.int ((p0 &&& (2147483647 : Int32)) % (6 : Int32))), .val (.int (j1g_0 ((p0 &&& (2147483647 : Int32)) % (6 : Int32)) ((p1 &&& (2147483647 : Int32)) % (6 : Int32)))), .val (.ref b293), .val (.int (1 : Int32))] [(.ref b293)])) _
              refine st669.trans ?_
              show Steps p.tables e below (T669.setTop (mkF m 167 #[.val (.int p0), .val (.int p1), .val (.int p2), .val (.int p3), .val (.int ((p0 &&& (2147483647 : Int32)) % (6 : Int32))), .val (.int (j1g_0 ((p0 &&& (2147483647 : Int32)) % (6 : Int32)) ((p1 &&& (2147483647 : Int32)) % (6 : Int32)))), .val (.ref b293), .val (.int (1 : Int32))] [(.int (0 : Int32))])) _
              refine XS.iload X669.here hx rfl (hb hby at_167) rfl ?_
              show Steps p.tables e below (T669.setTop (mkF m 169 #[.val (.int p0), .val (.int p1), .val (.int p2), .val (.int p3), .val (.int ((p0 &&& (2147483647 : Int32)) % (6 : Int32))), .val (.int (j1g_0 ((p0 &&& (2147483647 : Int32)) % (6 : Int32)) ((p1 &&& (2147483647 : Int32)) % (6 : Int32)))), .val (.ref b293), .val (.int (1 : Int32))] [(.int ((p0 &&& (2147483647 : Int32)) % (6 : Int32))), (.int (0 : Int32))])) _
              refine XS.iload X669.here hx rfl (hb hby at_169) rfl ?_
              exact k)
            have pre671 := fun (t : State) (k : Steps p.tables e below (T669.setTop (mkF m 179 #[.val (.int p0), .val (.int p1), .val (.int p2), .val (.int p3), .val (.int ((p0 &&& (2147483647 : Int32)) % (6 : Int32))), .val (.int (j1g_0 ((p0 &&& (2147483647 : Int32)) % (6 : Int32)) ((p1 &&& (2147483647 : Int32)) % (6 : Int32)))), .val (.ref b293), .val (.int (1 : Int32))] [(.int (j0_0 p0 p1)), (.int (0 : Int32))])) t) => pre670 t (by
              by_cases hc672 : ((p0 &&& (2147483647 : Int32)) % (6 : Int32)) = (j1g_0 ((p0 &&& (2147483647 : Int32)) % (6 : Int32)) ((p1 &&& (2147483647 : Int32)) % (6 : Int32)))
              · skip
                show Steps p.tables e below (T669.setTop (mkF m 171 #[.val (.int p0), .val (.int p1), .val (.int p2), .val (.int p3), .val (.int ((p0 &&& (2147483647 : Int32)) % (6 : Int32))), .val (.int (j1g_0 ((p0 &&& (2147483647 : Int32)) % (6 : Int32)) ((p1 &&& (2147483647 : Int32)) % (6 : Int32)))), .val (.ref b293), .val (.int (1 : Int32))] [(.int (j1g_0 ((p0 &&& (2147483647 : Int32)) % (6 : Int32)) ((p1 &&& (2147483647 : Int32)) % (6 : Int32)))), (.int ((p0 &&& (2147483647 : Int32)) % (6 : Int32))), (.int (0 : Int32))])) _
                refine XS.icmpNo X669.here hx rfl (hb hby at_171) rfl (teq hc672).2 ?_
                show Steps p.tables e below (T669.setTop (mkF m 174 #[.val (.int p0), .val (.int p1), .val (.int p2), .val (.int p3), .val (.int ((p0 &&& (2147483647 : Int32)) % (6 : Int32))), .val (.int (j1g_0 ((p0 &&& (2147483647 : Int32)) % (6 : Int32)) ((p1 &&& (2147483647 : Int32)) % (6 : Int32)))), .val (.ref b293), .val (.int (1 : Int32))] [(.int (0 : Int32))])) _
                refine XS.iconst X669.here hx rfl (hb hby at_174) ?_
                show Steps p.tables e below (T669.setTop (mkF m 175 #[.val (.int p0), .val (.int p1), .val (.int p2), .val (.int p3), .val (.int ((p0 &&& (2147483647 : Int32)) % (6 : Int32))), .val (.int (j1g_0 ((p0 &&& (2147483647 : Int32)) % (6 : Int32)) ((p1 &&& (2147483647 : Int32)) % (6 : Int32)))), .val (.ref b293), .val (.int (1 : Int32))] [(.int (1 : Int32)), (.int (0 : Int32))])) _
                refine XS.goto X669.here hx rfl (pc0 := 175) (pc' := 179) rfl (hb hby at_175) (by decide) (by decide) ?_
                have hj673 : (j0_0 p0 p1) = (1 : Int32) := by unfold j0_0; first | (rw [if_pos hc672]) | (simp only [if_pos hc672])
                rw [hj673] at k
                exact k
              · skip
                show Steps p.tables e below (T669.setTop (mkF m 171 #[.val (.int p0), .val (.int p1), .val (.int p2), .val (.int p3), .val (.int ((p0 &&& (2147483647 : Int32)) % (6 : Int32))), .val (.int (j1g_0 ((p0 &&& (2147483647 : Int32)) % (6 : Int32)) ((p1 &&& (2147483647 : Int32)) % (6 : Int32)))), .val (.ref b293), .val (.int (1 : Int32))] [(.int (j1g_0 ((p0 &&& (2147483647 : Int32)) % (6 : Int32)) ((p1 &&& (2147483647 : Int32)) % (6 : Int32)))), (.int ((p0 &&& (2147483647 : Int32)) % (6 : Int32))), (.int (0 : Int32))])) _
                refine XS.icmpYes X669.here hx rfl (pc0 := 171) (pc' := 178) rfl (hb hby at_171) rfl (feq hc672).2 (by decide) (by decide) ?_
                show Steps p.tables e below (T669.setTop (mkF m 178 #[.val (.int p0), .val (.int p1), .val (.int p2), .val (.int p3), .val (.int ((p0 &&& (2147483647 : Int32)) % (6 : Int32))), .val (.int (j1g_0 ((p0 &&& (2147483647 : Int32)) % (6 : Int32)) ((p1 &&& (2147483647 : Int32)) % (6 : Int32)))), .val (.ref b293), .val (.int (1 : Int32))] [(.int (0 : Int32))])) _
                refine XS.iconst X669.here hx rfl (hb hby at_178) ?_
                have hj674 : (j0_0 p0 p1) = (0 : Int32) := by unfold j0_0; first | (rw [if_neg hc672]) | (simp only [if_neg hc672])
                rw [hj674] at k
                exact k)
            have pre675 := fun (t : State) (k : Steps p.tables e below (T669.setTop (mkF m 187 #[.val (.int p0), .val (.int p1), .val (.int p2), .val (.int p3), .val (.int ((p0 &&& (2147483647 : Int32)) % (6 : Int32))), .val (.int (j1g_0 ((p0 &&& (2147483647 : Int32)) % (6 : Int32)) ((p1 &&& (2147483647 : Int32)) % (6 : Int32)))), .val (.ref b293), .val (.int (1 : Int32))] [(.int (j0_2 p0 p1))])) t) => pre671 t (by
              by_cases hc676 : (0 : Int32) = (j0_0 p0 p1)
              · skip
                show Steps p.tables e below (T669.setTop (mkF m 179 #[.val (.int p0), .val (.int p1), .val (.int p2), .val (.int p3), .val (.int ((p0 &&& (2147483647 : Int32)) % (6 : Int32))), .val (.int (j1g_0 ((p0 &&& (2147483647 : Int32)) % (6 : Int32)) ((p1 &&& (2147483647 : Int32)) % (6 : Int32)))), .val (.ref b293), .val (.int (1 : Int32))] [(.int (j0_0 p0 p1)), (.int (0 : Int32))])) _
                refine XS.icmpNo X669.here hx rfl (hb hby at_179) rfl (teq hc676).2 ?_
                show Steps p.tables e below (T669.setTop (mkF m 182 #[.val (.int p0), .val (.int p1), .val (.int p2), .val (.int p3), .val (.int ((p0 &&& (2147483647 : Int32)) % (6 : Int32))), .val (.int (j1g_0 ((p0 &&& (2147483647 : Int32)) % (6 : Int32)) ((p1 &&& (2147483647 : Int32)) % (6 : Int32)))), .val (.ref b293), .val (.int (1 : Int32))] [])) _
                refine XS.iconst X669.here hx rfl (hb hby at_182) ?_
                show Steps p.tables e below (T669.setTop (mkF m 183 #[.val (.int p0), .val (.int p1), .val (.int p2), .val (.int p3), .val (.int ((p0 &&& (2147483647 : Int32)) % (6 : Int32))), .val (.int (j1g_0 ((p0 &&& (2147483647 : Int32)) % (6 : Int32)) ((p1 &&& (2147483647 : Int32)) % (6 : Int32)))), .val (.ref b293), .val (.int (1 : Int32))] [(.int (1 : Int32))])) _
                refine XS.goto X669.here hx rfl (pc0 := 183) (pc' := 187) rfl (hb hby at_183) (by decide) (by decide) ?_
                have hj677 : (j0_2 p0 p1) = (1 : Int32) := by unfold j0_2; first | (rw [if_pos hc676]) | (simp only [if_pos hc676])
                rw [hj677] at k
                exact k
              · skip
                show Steps p.tables e below (T669.setTop (mkF m 179 #[.val (.int p0), .val (.int p1), .val (.int p2), .val (.int p3), .val (.int ((p0 &&& (2147483647 : Int32)) % (6 : Int32))), .val (.int (j1g_0 ((p0 &&& (2147483647 : Int32)) % (6 : Int32)) ((p1 &&& (2147483647 : Int32)) % (6 : Int32)))), .val (.ref b293), .val (.int (1 : Int32))] [(.int (j0_0 p0 p1)), (.int (0 : Int32))])) _
                refine XS.icmpYes X669.here hx rfl (pc0 := 179) (pc' := 186) rfl (hb hby at_179) rfl (feq hc676).2 (by decide) (by decide) ?_
                show Steps p.tables e below (T669.setTop (mkF m 186 #[.val (.int p0), .val (.int p1), .val (.int p2), .val (.int p3), .val (.int ((p0 &&& (2147483647 : Int32)) % (6 : Int32))), .val (.int (j1g_0 ((p0 &&& (2147483647 : Int32)) % (6 : Int32)) ((p1 &&& (2147483647 : Int32)) % (6 : Int32)))), .val (.ref b293), .val (.int (1 : Int32))] [])) _
                refine XS.iconst X669.here hx rfl (hb hby at_186) ?_
                have hj678 : (j0_2 p0 p1) = (0 : Int32) := by unfold j0_2; first | (rw [if_neg hc676]) | (simp only [if_neg hc676])
                rw [hj678] at k
                exact k)
            obtain ⟨fs, hr, hrun, hended, hW, hsame⟩ := X669.leave (v := some (.int (nar .boolean (j0_2 p0 p1)))) (fun h => by rw [Bd.returns] at h; cases h)
            refine ⟨_, _, pre675 _ ?_, hrun, hended, _, _, rfl, ?_, ⟨_, rfl⟩, hW, hsame.mono (by decide) (by decide)⟩
            · skip
              show Steps p.tables e below (T669.setTop (mkF m 187 #[.val (.int p0), .val (.int p1), .val (.int p2), .val (.int p3), .val (.int ((p0 &&& (2147483647 : Int32)) % (6 : Int32))), .val (.int (j1g_0 ((p0 &&& (2147483647 : Int32)) % (6 : Int32)) ((p1 &&& (2147483647 : Int32)) % (6 : Int32)))), .val (.ref b293), .val (.int (1 : Int32))] [(.int (j0_2 p0 p1))])) _
              exact retN X669 hx (t := .boolean) Bd.returns (by simp) (hb hby at_187) hr
            · show Q0 Z p0 p1 p2 p3 h0 n0 _ T669.heap _
              rw [e669]
              have hv : (nar .boolean (j0_2 p0 p1)) = (v0 p0 p1) := by unfold v0; first | (rw [if_pos hc307, if_pos hc318, if_neg hc329, if_pos hc639, if_neg hc649]) | (simp only [if_pos hc307, if_pos hc318, if_neg hc329, if_pos hc639, if_neg hc649])
              exact ⟨(by rw [← hv]), N669⟩
        · skip
          obtain ⟨cq679, kq679, q679a, q679b, q679c⟩ := isOf hZ e320 f321
          obtain ⟨_, _, ⟨T679, L679, k679, n679⟩, -, X679, ⟨Lc679, hQ679, l679, y679, z679⟩, st679⟩ := X320.virtualBack hx (y := (⟨"com/example/subsumer/subsumer/classification/IntList", "isEmpty", "()Z"⟩ : MethodName)) (z := (⟨"com/example/subsumer/subsumer/classification/IntList", "isEmpty", "()Z"⟩ : MethodName)) hown (mvT hZ (hw _ (List.mem_of_getElem? (i := 17) rfl))) (mvT hZ (hw _ (List.mem_of_getElem? (i := 18) rfl))) (notFace_of_selects (args := #[]) (mvT hZ (hw _ (List.mem_of_getElem? (i := 20) rfl)))) (mvT hZ (hw _ (List.mem_of_getElem? (i := 20) rfl))) (mvT hZ (hw _ (List.mem_of_getElem? (i := 19) rfl))) (by decide) (backOf (W := 0) (rm4_2 l Z aw hw [] b293 h320 n0 Z320 f321 f322) hZ (hw _ (List.mem_of_getElem? (i := 21) rfl)) (hw _ (List.mem_of_getElem? (i := 7) rfl)) (by decide) (by decide)) q679a q679c (g := (mkF m 164 #[.val (.int p0), .val (.int p1), .val (.int p2), .val (.int p3), .val (.int ((p0 &&& (2147483647 : Int32)) % (6 : Int32))), .val (.int (j1g_0 ((p0 &&& (2147483647 : Int32)) % (6 : Int32)) ((p1 &&& (2147483647 : Int32)) % (6 : Int32)))), .val (.ref b293), .val (.int (1 : Int32))] [(.ref b293)])) rfl (by rw [hml]; rfl) (Steps.refl _) (argsL := []) (rest := []) (lenOf pd_5 rfl) rfl (by show 2 * 0 + _ ≤ _; exact Nat.le_of_eq rfl) (hb hby at_164) (fun _ _ => ⟨rfl, e320, (by decide : 2 + 0 ≤ _), (by decide : 6 + 0 ≤ _)⟩)
          dsimp only [Pt.U, Pt.locs, Pt.cells, Pt.slots] at X679 l679 y679 z679 st679 hQ679
          subst l679 y679 z679
          obtain ⟨rfl, N679q, e679⟩ := hQ679
          have N679 := Fr.app N320 N679q
          have pre680 := fun (t : State) (k : Steps p.tables e below (T679.setTop (mkF m 171 #[.val (.int p0), .val (.int p1), .val (.int p2), .val (.int p3), .val (.int ((p0 &&& (2147483647 : Int32)) % (6 : Int32))), .val (.int (j1g_0 ((p0 &&& (2147483647 : Int32)) % (6 : Int32)) ((p1 &&& (2147483647 : Int32)) % (6 : Int32)))), .val (.ref b293), .val (.int (1 : Int32))] [(.int (j1g_0 ((p0 &&& (2147483647 : Int32)) % (6 : Int32)) ((p1 &&& (2147483647 : Int32)) % (6 : Int32)))), (.int ((p0 &&& (2147483647 : Int32)) % (6 : Int32))), (.int (0 : Int32))])) t) => pre640 t (by
            show Steps p.tables e below (T320.setTop (mkF m 100 #[.val (.int p0), .val (.int p1), .val (.int p2), .val (.int p3), .val (.int ((p0 &&& (2147483647 : Int32)) % (6 : Int32))), .val (.int (j1g_0 ((p0 &&& (2147483647 : Int32)) % (6 : Int32)) ((p1 &&& (2147483647 : Int32)) % (6 : Int32)))), .val (.ref b293), .val (.int (1 : Int32))] [(.int (j1g_0 ((p0 &&& (2147483647 : Int32)) % (6 : Int32)) ((p1 &&& (2147483647 : Int32)) % (6 : Int32))))])) _
            refine XS.ifYes X320.here hx rfl (pc0 := 100) (pc' := 109) rfl (hb hby at_100) rfl ((if0 _ _).trans (flt hc639).2.2.2) (by decide) (by decide) ?_
            show Steps p.tables e below (T320.setTop (mkF m 109 #[.val (.int p0), .val (.int p1), .val (.int p2), .val (.int p3), .val (.int ((p0 &&& (2147483647 : Int32)) % (6 : Int32))), .val (.int (j1g_0 ((p0 &&& (2147483647 : Int32)) % (6 : Int32)) ((p1 &&& (2147483647 : Int32)) % (6 : Int32)))), .val (.ref b293), .val (.int (1 : Int32))] [])) _
            refine XS.iload X320.here hx rfl (hb hby at_109) rfl ?_
            show Steps p.tables e below (T320.setTop (mkF m 111 #[.val (.int p0), .val (.int p1), .val (.int p2), .val (.int p3), .val (.int ((p0 &&& (2147483647 : Int32)) % (6 : Int32))), .val (.int (j1g_0 ((p0 &&& (2147483647 : Int32)) % (6 : Int32)) ((p1 &&& (2147483647 : Int32)) % (6 : Int32)))), .val (.ref b293), .val (.int (1 : Int32))] [(.int (j1g_0 ((p0 &&& (2147483647 : Int32)) % (6 : Int32)) ((p1 &&& (2147483647 : Int32)) % (6 : Int32))))])) _
            refine XS.iconst X320.here hx rfl (hb hby at_111) ?_
            show Steps p.tables e below (T320.setTop (mkF m 112 #[.val (.int p0), .val (.int p1), .val (.int p2), .val (.int p3), .val (.int ((p0 &&& (2147483647 : Int32)) % (6 : Int32))), .val (.int (j1g_0 ((p0 &&& (2147483647 : Int32)) % (6 : Int32)) ((p1 &&& (2147483647 : Int32)) % (6 : Int32)))), .val (.ref b293), .val (.int (1 : Int32))] [(.int (1 : Int32)), (.int (j1g_0 ((p0 &&& (2147483647 : Int32)) % (6 : Int32)) ((p1 &&& (2147483647 : Int32)) % (6 : Int32))))])) _
            refine XS.icmpYes X320.here hx rfl (pc0 := 112) (pc' := 121) rfl (hb hby at_112) rfl (flt (own_up hc639 (by decide))).2.2.2 (by decide) (by decide) ?_
            show Steps p.tables e below (T320.setTop (mkF m 121 #[.val (.int p0), .val (.int p1), .val (.int p2), .val (.int p3), .val (.int ((p0 &&& (2147483647 : Int32)) % (6 : Int32))), .val (.int (j1g_0 ((p0 &&& (2147483647 : Int32)) % (6 : Int32)) ((p1 &&& (2147483647 : Int32)) % (6 : Int32)))), .val (.ref b293), .val (.int (1 : Int32))] [])) _
            refine XS.iload X320.here hx rfl (hb hby at_121) rfl ?_
            show Steps p.tables e below (T320.setTop (mkF m 123 #[.val (.int p0), .val (.int p1), .val (.int p2), .val (.int p3), .val (.int ((p0 &&& (2147483647 : Int32)) % (6 : Int32))), .val (.int (j1g_0 ((p0 &&& (2147483647 : Int32)) % (6 : Int32)) ((p1 &&& (2147483647 : Int32)) % (6 : Int32)))), .val (.ref b293), .val (.int (1 : Int32))] [(.int (j1g_0 ((p0 &&& (2147483647 : Int32)) % (6 : Int32)) ((p1 &&& (2147483647 : Int32)) % (6 : Int32))))])) _
            refine XS.iconst X320.here hx rfl (hb hby at_123) ?_
            show Steps p.tables e below (T320.setTop (mkF m 124 #[.val (.int p0), .val (.int p1), .val (.int p2), .val (.int p3), .val (.int ((p0 &&& (2147483647 : Int32)) % (6 : Int32))), .val (.int (j1g_0 ((p0 &&& (2147483647 : Int32)) % (6 : Int32)) ((p1 &&& (2147483647 : Int32)) % (6 : Int32)))), .val (.ref b293), .val (.int (1 : Int32))] [(.int (2 : Int32)), (.int (j1g_0 ((p0 &&& (2147483647 : Int32)) % (6 : Int32)) ((p1 &&& (2147483647 : Int32)) % (6 : Int32))))])) _
            refine XS.icmpYes X320.here hx rfl (pc0 := 124) (pc' := 133) rfl (hb hby at_124) rfl (flt (own_mn (own_up hc329 (by decide)))).2.2.2 (by decide) (by decide) ?_
            show Steps p.tables e below (T320.setTop (mkF m 133 #[.val (.int p0), .val (.int p1), .val (.int p2), .val (.int p3), .val (.int ((p0 &&& (2147483647 : Int32)) % (6 : Int32))), .val (.int (j1g_0 ((p0 &&& (2147483647 : Int32)) % (6 : Int32)) ((p1 &&& (2147483647 : Int32)) % (6 : Int32)))), .val (.ref b293), .val (.int (1 : Int32))] [])) _
            refine XS.iload X320.here hx rfl (hb hby at_133) rfl ?_
            show Steps p.tables e below (T320.setTop (mkF m 135 #[.val (.int p0), .val (.int p1), .val (.int p2), .val (.int p3), .val (.int ((p0 &&& (2147483647 : Int32)) % (6 : Int32))), .val (.int (j1g_0 ((p0 &&& (2147483647 : Int32)) % (6 : Int32)) ((p1 &&& (2147483647 : Int32)) % (6 : Int32)))), .val (.ref b293), .val (.int (1 : Int32))] [(.int (j1g_0 ((p0 &&& (2147483647 : Int32)) % (6 : Int32)) ((p1 &&& (2147483647 : Int32)) % (6 : Int32))))])) _
            refine XS.iconst X320.here hx rfl (hb hby at_135) ?_
            show Steps p.tables e below (T320.setTop (mkF m 136 #[.val (.int p0), .val (.int p1), .val (.int p2), .val (.int p3), .val (.int ((p0 &&& (2147483647 : Int32)) % (6 : Int32))), .val (.int (j1g_0 ((p0 &&& (2147483647 : Int32)) % (6 : Int32)) ((p1 &&& (2147483647 : Int32)) % (6 : Int32)))), .val (.ref b293), .val (.int (1 : Int32))] [(.int (3 : Int32)), (.int (j1g_0 ((p0 &&& (2147483647 : Int32)) % (6 : Int32)) ((p1 &&& (2147483647 : Int32)) % (6 : Int32))))])) _
            refine XS.icmpYes X320.here hx rfl (pc0 := 136) (pc' := 145) rfl (hb hby at_136) rfl (flt (own_mn (own_up hc329 (by decide)))).2.2.2 (by decide) (by decide) ?_
            show Steps p.tables e below (T320.setTop (mkF m 145 #[.val (.int p0), .val (.int p1), .val (.int p2), .val (.int p3), .val (.int ((p0 &&& (2147483647 : Int32)) % (6 : Int32))), .val (.int (j1g_0 ((p0 &&& (2147483647 : Int32)) % (6 : Int32)) ((p1 &&& (2147483647 : Int32)) % (6 : Int32)))), .val (.ref b293), .val (.int (1 : Int32))] [])) _
            refine XS.iload X320.here hx rfl (hb hby at_145) rfl ?_
            show Steps p.tables e below (T320.setTop (mkF m 147 #[.val (.int p0), .val (.int p1), .val (.int p2), .val (.int p3), .val (.int ((p0 &&& (2147483647 : Int32)) % (6 : Int32))), .val (.int (j1g_0 ((p0 &&& (2147483647 : Int32)) % (6 : Int32)) ((p1 &&& (2147483647 : Int32)) % (6 : Int32)))), .val (.ref b293), .val (.int (1 : Int32))] [(.int (j1g_0 ((p0 &&& (2147483647 : Int32)) % (6 : Int32)) ((p1 &&& (2147483647 : Int32)) % (6 : Int32))))])) _
            refine XS.iconst X320.here hx rfl (hb hby at_147) ?_
            show Steps p.tables e below (T320.setTop (mkF m 148 #[.val (.int p0), .val (.int p1), .val (.int p2), .val (.int p3), .val (.int ((p0 &&& (2147483647 : Int32)) % (6 : Int32))), .val (.int (j1g_0 ((p0 &&& (2147483647 : Int32)) % (6 : Int32)) ((p1 &&& (2147483647 : Int32)) % (6 : Int32)))), .val (.ref b293), .val (.int (1 : Int32))] [(.int (4 : Int32)), (.int (j1g_0 ((p0 &&& (2147483647 : Int32)) % (6 : Int32)) ((p1 &&& (2147483647 : Int32)) % (6 : Int32))))])) _
            refine XS.icmpYes X320.here hx rfl (pc0 := 148) (pc' := 157) rfl (hb hby at_148) rfl (flt (own_mn (own_up hc329 (by decide)))).2.2.2 (by decide) (by decide) ?_
            show Steps p.tables e below (T320.setTop (mkF m 157 #[.val (.int p0), .val (.int p1), .val (.int p2), .val (.int p3), .val (.int ((p0 &&& (2147483647 : Int32)) % (6 : Int32))), .val (.int (j1g_0 ((p0 &&& (2147483647 : Int32)) % (6 : Int32)) ((p1 &&& (2147483647 : Int32)) % (6 : Int32)))), .val (.ref b293), .val (.int (1 : Int32))] [])) _
            refine XS.iload X320.here hx rfl (hb hby at_157) rfl ?_
            show Steps p.tables e below (T320.setTop (mkF m 159 #[.val (.int p0), .val (.int p1), .val (.int p2), .val (.int p3), .val (.int ((p0 &&& (2147483647 : Int32)) % (6 : Int32))), .val (.int (j1g_0 ((p0 &&& (2147483647 : Int32)) % (6 : Int32)) ((p1 &&& (2147483647 : Int32)) % (6 : Int32)))), .val (.ref b293), .val (.int (1 : Int32))] [(.int (1 : Int32))])) _
            refine XS.ifNo X320.here hx rfl (hb hby at_159) rfl ((if0 _ _).trans (feq (by decide : ¬ ((1 : Int32) = (0 : Int32)))).1) ?_
            show Steps p.tables e below (T320.setTop (mkF m 162 #[.val (.int p0), .val (.int p1), .val (.int p2), .val (.int p3), .val (.int ((p0 &&& (2147483647 : Int32)) % (6 : Int32))), .val (.int (j1g_0 ((p0 &&& (2147483647 : Int32)) % (6 : Int32)) ((p1 &&& (2147483647 : Int32)) % (6 : Int32)))), .val (.ref b293), .val (.int (1 : Int32))] [])) _
            refine XS.aload X320.here hx rfl (hb hby at_162) rfl rfl ?_
            show Steps p.tables e below (T320.setTop (mkF m 164 #[.val (.int p0), .val (.int p1), .val (.int p2), .val (.int p3), .val (.int ((p0 &&& (2147483647 : Int32)) % (6 : Int32))), .val (.int (j1g_0 ((p0 &&& (2147483647 : Int32)) % (6 : Int32)) ((p1 &&& (2147483647 : Int32)) % (6 : Int32)))), .val (.ref b293), .val (.int (1 : Int32))] [(.ref b293)])) _
            refine st679.trans ?_
            show Steps p.tables e below (T679.setTop (mkF m 167 #[.val (.int p0), .val (.int p1), .val (.int p2), .val (.int p3), .val (.int ((p0 &&& (2147483647 : Int32)) % (6 : Int32))), .val (.int (j1g_0 ((p0 &&& (2147483647 : Int32)) % (6 : Int32)) ((p1 &&& (2147483647 : Int32)) % (6 : Int32)))), .val (.ref b293), .val (.int (1 : Int32))] [(.int (0 : Int32))])) _
            refine XS.iload X679.here hx rfl (hb hby at_167) rfl ?_
            show Steps p.tables e below (T679.setTop (mkF m 169 #[.val (.int p0), .val (.int p1), .val (.int p2), .val (.int p3), .val (.int ((p0 &&& (2147483647 : Int32)) % (6 : Int32))), .val (.int (j1g_0 ((p0 &&& (2147483647 : Int32)) % (6 : Int32)) ((p1 &&& (2147483647 : Int32)) % (6 : Int32)))), .val (.ref b293), .val (.int (1 : Int32))] [(.int ((p0 &&& (2147483647 : Int32)) % (6 : Int32))), (.int (0 : Int32))])) _
            refine XS.iload X679.here hx rfl (hb hby at_169) rfl ?_
            exact k)
          have pre681 := fun (t : State) (k : Steps p.tables e below (T679.setTop (mkF m 179 #[.val (.int p0), .val (.int p1), .val (.int p2), .val (.int p3), .val (.int ((p0 &&& (2147483647 : Int32)) % (6 : Int32))), .val (.int (j1g_0 ((p0 &&& (2147483647 : Int32)) % (6 : Int32)) ((p1 &&& (2147483647 : Int32)) % (6 : Int32)))), .val (.ref b293), .val (.int (1 : Int32))] [(.int (j0_0 p0 p1)), (.int (0 : Int32))])) t) => pre680 t (by
            by_cases hc682 : ((p0 &&& (2147483647 : Int32)) % (6 : Int32)) = (j1g_0 ((p0 &&& (2147483647 : Int32)) % (6 : Int32)) ((p1 &&& (2147483647 : Int32)) % (6 : Int32)))
            · skip
              show Steps p.tables e below (T679.setTop (mkF m 171 #[.val (.int p0), .val (.int p1), .val (.int p2), .val (.int p3), .val (.int ((p0 &&& (2147483647 : Int32)) % (6 : Int32))), .val (.int (j1g_0 ((p0 &&& (2147483647 : Int32)) % (6 : Int32)) ((p1 &&& (2147483647 : Int32)) % (6 : Int32)))), .val (.ref b293), .val (.int (1 : Int32))] [(.int (j1g_0 ((p0 &&& (2147483647 : Int32)) % (6 : Int32)) ((p1 &&& (2147483647 : Int32)) % (6 : Int32)))), (.int ((p0 &&& (2147483647 : Int32)) % (6 : Int32))), (.int (0 : Int32))])) _
              refine XS.icmpNo X679.here hx rfl (hb hby at_171) rfl (teq hc682).2 ?_
              show Steps p.tables e below (T679.setTop (mkF m 174 #[.val (.int p0), .val (.int p1), .val (.int p2), .val (.int p3), .val (.int ((p0 &&& (2147483647 : Int32)) % (6 : Int32))), .val (.int (j1g_0 ((p0 &&& (2147483647 : Int32)) % (6 : Int32)) ((p1 &&& (2147483647 : Int32)) % (6 : Int32)))), .val (.ref b293), .val (.int (1 : Int32))] [(.int (0 : Int32))])) _
              refine XS.iconst X679.here hx rfl (hb hby at_174) ?_
              show Steps p.tables e below (T679.setTop (mkF m 175 #[.val (.int p0), .val (.int p1), .val (.int p2), .val (.int p3), .val (.int ((p0 &&& (2147483647 : Int32)) % (6 : Int32))), .val (.int (j1g_0 ((p0 &&& (2147483647 : Int32)) % (6 : Int32)) ((p1 &&& (2147483647 : Int32)) % (6 : Int32)))), .val (.ref b293), .val (.int (1 : Int32))] [(.int (1 : Int32)), (.int (0 : Int32))])) _
              refine XS.goto X679.here hx rfl (pc0 := 175) (pc' := 179) rfl (hb hby at_175) (by decide) (by decide) ?_
              have hj683 : (j0_0 p0 p1) = (1 : Int32) := by unfold j0_0; first | (rw [if_pos hc682]) | (simp only [if_pos hc682])
              rw [hj683] at k
              exact k
            · skip
              show Steps p.tables e below (T679.setTop (mkF m 171 #[.val (.int p0), .val (.int p1), .val (.int p2), .val (.int p3), .val (.int ((p0 &&& (2147483647 : Int32)) % (6 : Int32))), .val (.int (j1g_0 ((p0 &&& (2147483647 : Int32)) % (6 : Int32)) ((p1 &&& (2147483647 : Int32)) % (6 : Int32)))), .val (.ref b293), .val (.int (1 : Int32))] [(.int (j1g_0 ((p0 &&& (2147483647 : Int32)) % (6 : Int32)) ((p1 &&& (2147483647 : Int32)) % (6 : Int32)))), (.int ((p0 &&& (2147483647 : Int32)) % (6 : Int32))), (.int (0 : Int32))])) _
              refine XS.icmpYes X679.here hx rfl (pc0 := 171) (pc' := 178) rfl (hb hby at_171) rfl (feq hc682).2 (by decide) (by decide) ?_
              show Steps p.tables e below (T679.setTop (mkF m 178 #[.val (.int p0), .val (.int p1), .val (.int p2), .val (.int p3), .val (.int ((p0 &&& (2147483647 : Int32)) % (6 : Int32))), .val (.int (j1g_0 ((p0 &&& (2147483647 : Int32)) % (6 : Int32)) ((p1 &&& (2147483647 : Int32)) % (6 : Int32)))), .val (.ref b293), .val (.int (1 : Int32))] [(.int (0 : Int32))])) _
              refine XS.iconst X679.here hx rfl (hb hby at_178) ?_
              have hj684 : (j0_0 p0 p1) = (0 : Int32) := by unfold j0_0; first | (rw [if_neg hc682]) | (simp only [if_neg hc682])
              rw [hj684] at k
              exact k)
          have pre685 := fun (t : State) (k : Steps p.tables e below (T679.setTop (mkF m 187 #[.val (.int p0), .val (.int p1), .val (.int p2), .val (.int p3), .val (.int ((p0 &&& (2147483647 : Int32)) % (6 : Int32))), .val (.int (j1g_0 ((p0 &&& (2147483647 : Int32)) % (6 : Int32)) ((p1 &&& (2147483647 : Int32)) % (6 : Int32)))), .val (.ref b293), .val (.int (1 : Int32))] [(.int (j0_2 p0 p1))])) t) => pre681 t (by
            by_cases hc686 : (0 : Int32) = (j0_0 p0 p1)
            · skip
              show Steps p.tables e below (T679.setTop (mkF m 179 #[.val (.int p0), .val (.int p1), .val (.int p2), .val (.int p3), .val (.int ((p0 &&& (2147483647 : Int32)) % (6 : Int32))), .val (.int (j1g_0 ((p0 &&& (2147483647 : Int32)) % (6 : Int32)) ((p1 &&& (2147483647 : Int32)) % (6 : Int32)))), .val (.ref b293), .val (.int (1 : Int32))] [(.int (j0_0 p0 p1)), (.int (0 : Int32))])) _
              refine XS.icmpNo X679.here hx rfl (hb hby at_179) rfl (teq hc686).2 ?_
              show Steps p.tables e below (T679.setTop (mkF m 182 #[.val (.int p0), .val (.int p1), .val (.int p2), .val (.int p3), .val (.int ((p0 &&& (2147483647 : Int32)) % (6 : Int32))), .val (.int (j1g_0 ((p0 &&& (2147483647 : Int32)) % (6 : Int32)) ((p1 &&& (2147483647 : Int32)) % (6 : Int32)))), .val (.ref b293), .val (.int (1 : Int32))] [])) _
              refine XS.iconst X679.here hx rfl (hb hby at_182) ?_
              show Steps p.tables e below (T679.setTop (mkF m 183 #[.val (.int p0), .val (.int p1), .val (.int p2), .val (.int p3), .val (.int ((p0 &&& (2147483647 : Int32)) % (6 : Int32))), .val (.int (j1g_0 ((p0 &&& (2147483647 : Int32)) % (6 : Int32)) ((p1 &&& (2147483647 : Int32)) % (6 : Int32)))), .val (.ref b293), .val (.int (1 : Int32))] [(.int (1 : Int32))])) _
              refine XS.goto X679.here hx rfl (pc0 := 183) (pc' := 187) rfl (hb hby at_183) (by decide) (by decide) ?_
              have hj687 : (j0_2 p0 p1) = (1 : Int32) := by unfold j0_2; first | (rw [if_pos hc686]) | (simp only [if_pos hc686])
              rw [hj687] at k
              exact k
            · skip
              show Steps p.tables e below (T679.setTop (mkF m 179 #[.val (.int p0), .val (.int p1), .val (.int p2), .val (.int p3), .val (.int ((p0 &&& (2147483647 : Int32)) % (6 : Int32))), .val (.int (j1g_0 ((p0 &&& (2147483647 : Int32)) % (6 : Int32)) ((p1 &&& (2147483647 : Int32)) % (6 : Int32)))), .val (.ref b293), .val (.int (1 : Int32))] [(.int (j0_0 p0 p1)), (.int (0 : Int32))])) _
              refine XS.icmpYes X679.here hx rfl (pc0 := 179) (pc' := 186) rfl (hb hby at_179) rfl (feq hc686).2 (by decide) (by decide) ?_
              show Steps p.tables e below (T679.setTop (mkF m 186 #[.val (.int p0), .val (.int p1), .val (.int p2), .val (.int p3), .val (.int ((p0 &&& (2147483647 : Int32)) % (6 : Int32))), .val (.int (j1g_0 ((p0 &&& (2147483647 : Int32)) % (6 : Int32)) ((p1 &&& (2147483647 : Int32)) % (6 : Int32)))), .val (.ref b293), .val (.int (1 : Int32))] [])) _
              refine XS.iconst X679.here hx rfl (hb hby at_186) ?_
              have hj688 : (j0_2 p0 p1) = (0 : Int32) := by unfold j0_2; first | (rw [if_neg hc686]) | (simp only [if_neg hc686])
              rw [hj688] at k
              exact k)
          obtain ⟨fs, hr, hrun, hended, hW, hsame⟩ := X679.leave (v := some (.int (nar .boolean (j0_2 p0 p1)))) (fun h => by rw [Bd.returns] at h; cases h)
          refine ⟨_, _, pre685 _ ?_, hrun, hended, _, _, rfl, ?_, ⟨_, rfl⟩, hW, hsame.mono (by decide) (by decide)⟩
          · skip
            show Steps p.tables e below (T679.setTop (mkF m 187 #[.val (.int p0), .val (.int p1), .val (.int p2), .val (.int p3), .val (.int ((p0 &&& (2147483647 : Int32)) % (6 : Int32))), .val (.int (j1g_0 ((p0 &&& (2147483647 : Int32)) % (6 : Int32)) ((p1 &&& (2147483647 : Int32)) % (6 : Int32)))), .val (.ref b293), .val (.int (1 : Int32))] [(.int (j0_2 p0 p1))])) _
            exact retN X679 hx (t := .boolean) Bd.returns (by simp) (hb hby at_187) hr
          · show Q0 Z p0 p1 p2 p3 h0 n0 _ T679.heap _
            rw [e679]
            have hv : (nar .boolean (j0_2 p0 p1)) = (v0 p0 p1) := by unfold v0; first | (rw [if_pos hc307, if_pos hc318, if_neg hc329, if_neg hc639]) | (simp only [if_pos hc307, if_pos hc318, if_neg hc329, if_neg hc639])
            exact ⟨(by rw [← hv]), N679⟩
    · skip
      have pre690 := fun (t : State) (k : Steps p.tables e below (T309.setTop (mkF m 100 #[.val (.int p0), .val (.int p1), .val (.int p2), .val (.int p3), .val (.int ((p0 &&& (2147483647 : Int32)) % (6 : Int32))), .val (.int (j1g_0 ((p0 &&& (2147483647 : Int32)) % (6 : Int32)) ((p1 &&& (2147483647 : Int32)) % (6 : Int32)))), .val (.ref b293), .val (.int (1 : Int32))] [(.int (j1g_0 ((p0 &&& (2147483647 : Int32)) % (6 : Int32)) ((p1 &&& (2147483647 : Int32)) % (6 : Int32))))])) t) => pre319 t (by
        show Steps p.tables e below (T309.setTop (mkF m 53 #[.val (.int p0), .val (.int p1), .val (.int p2), .val (.int p3), .val (.int ((p0 &&& (2147483647 : Int32)) % (6 : Int32))), .val (.int (j1g_0 ((p0 &&& (2147483647 : Int32)) % (6 : Int32)) ((p1 &&& (2147483647 : Int32)) % (6 : Int32)))), .val (.ref b293), .val (.int (1 : Int32))] [(.int (1 : Int32)), (.int ((p0 &&& (2147483647 : Int32)) % (6 : Int32)))])) _
        refine XS.icmpYes X309.here hx rfl (pc0 := 53) (pc' := 62) rfl (hb hby at_53) rfl (flt hc318).2.2.2 (by decide) (by decide) ?_
        show Steps p.tables e below (T309.setTop (mkF m 62 #[.val (.int p0), .val (.int p1), .val (.int p2), .val (.int p3), .val (.int ((p0 &&& (2147483647 : Int32)) % (6 : Int32))), .val (.int (j1g_0 ((p0 &&& (2147483647 : Int32)) % (6 : Int32)) ((p1 &&& (2147483647 : Int32)) % (6 : Int32)))), .val (.ref b293), .val (.int (1 : Int32))] [])) _
        refine XS.iload X309.here hx rfl (hb hby at_62) rfl ?_
        show Steps p.tables e below (T309.setTop (mkF m 64 #[.val (.int p0), .val (.int p1), .val (.int p2), .val (.int p3), .val (.int ((p0 &&& (2147483647 : Int32)) % (6 : Int32))), .val (.int (j1g_0 ((p0 &&& (2147483647 : Int32)) % (6 : Int32)) ((p1 &&& (2147483647 : Int32)) % (6 : Int32)))), .val (.ref b293), .val (.int (1 : Int32))] [(.int ((p0 &&& (2147483647 : Int32)) % (6 : Int32)))])) _
        refine XS.iconst X309.here hx rfl (hb hby at_64) ?_
        show Steps p.tables e below (T309.setTop (mkF m 65 #[.val (.int p0), .val (.int p1), .val (.int p2), .val (.int p3), .val (.int ((p0 &&& (2147483647 : Int32)) % (6 : Int32))), .val (.int (j1g_0 ((p0 &&& (2147483647 : Int32)) % (6 : Int32)) ((p1 &&& (2147483647 : Int32)) % (6 : Int32)))), .val (.ref b293), .val (.int (1 : Int32))] [(.int (2 : Int32)), (.int ((p0 &&& (2147483647 : Int32)) % (6 : Int32)))])) _
        refine XS.icmpYes X309.here hx rfl (pc0 := 65) (pc' := 74) rfl (hb hby at_65) rfl (flt (own_up hc318 (by decide))).2.2.2 (by decide) (by decide) ?_
        show Steps p.tables e below (T309.setTop (mkF m 74 #[.val (.int p0), .val (.int p1), .val (.int p2), .val (.int p3), .val (.int ((p0 &&& (2147483647 : Int32)) % (6 : Int32))), .val (.int (j1g_0 ((p0 &&& (2147483647 : Int32)) % (6 : Int32)) ((p1 &&& (2147483647 : Int32)) % (6 : Int32)))), .val (.ref b293), .val (.int (1 : Int32))] [])) _
        refine XS.iload X309.here hx rfl (hb hby at_74) rfl ?_
        show Steps p.tables e below (T309.setTop (mkF m 76 #[.val (.int p0), .val (.int p1), .val (.int p2), .val (.int p3), .val (.int ((p0 &&& (2147483647 : Int32)) % (6 : Int32))), .val (.int (j1g_0 ((p0 &&& (2147483647 : Int32)) % (6 : Int32)) ((p1 &&& (2147483647 : Int32)) % (6 : Int32)))), .val (.ref b293), .val (.int (1 : Int32))] [(.int ((p0 &&& (2147483647 : Int32)) % (6 : Int32)))])) _
        refine XS.iconst X309.here hx rfl (hb hby at_76) ?_
        show Steps p.tables e below (T309.setTop (mkF m 77 #[.val (.int p0), .val (.int p1), .val (.int p2), .val (.int p3), .val (.int ((p0 &&& (2147483647 : Int32)) % (6 : Int32))), .val (.int (j1g_0 ((p0 &&& (2147483647 : Int32)) % (6 : Int32)) ((p1 &&& (2147483647 : Int32)) % (6 : Int32)))), .val (.ref b293), .val (.int (1 : Int32))] [(.int (3 : Int32)), (.int ((p0 &&& (2147483647 : Int32)) % (6 : Int32)))])) _
        refine XS.icmpYes X309.here hx rfl (pc0 := 77) (pc' := 86) rfl (hb hby at_77) rfl (flt (own_up hc318 (by decide))).2.2.2 (by decide) (by decide) ?_
        show Steps p.tables e below (T309.setTop (mkF m 86 #[.val (.int p0), .val (.int p1), .val (.int p2), .val (.int p3), .val (.int ((p0 &&& (2147483647 : Int32)) % (6 : Int32))), .val (.int (j1g_0 ((p0 &&& (2147483647 : Int32)) % (6 : Int32)) ((p1 &&& (2147483647 : Int32)) % (6 : Int32)))), .val (.ref b293), .val (.int (1 : Int32))] [])) _
        refine XS.iload X309.here hx rfl (hb hby at_86) rfl ?_
        show Steps p.tables e below (T309.setTop (mkF m 88 #[.val (.int p0), .val (.int p1), .val (.int p2), .val (.int p3), .val (.int ((p0 &&& (2147483647 : Int32)) % (6 : Int32))), .val (.int (j1g_0 ((p0 &&& (2147483647 : Int32)) % (6 : Int32)) ((p1 &&& (2147483647 : Int32)) % (6 : Int32)))), .val (.ref b293), .val (.int (1 : Int32))] [(.int ((p0 &&& (2147483647 : Int32)) % (6 : Int32)))])) _
        refine XS.iconst X309.here hx rfl (hb hby at_88) ?_
        show Steps p.tables e below (T309.setTop (mkF m 89 #[.val (.int p0), .val (.int p1), .val (.int p2), .val (.int p3), .val (.int ((p0 &&& (2147483647 : Int32)) % (6 : Int32))), .val (.int (j1g_0 ((p0 &&& (2147483647 : Int32)) % (6 : Int32)) ((p1 &&& (2147483647 : Int32)) % (6 : Int32)))), .val (.ref b293), .val (.int (1 : Int32))] [(.int (4 : Int32)), (.int ((p0 &&& (2147483647 : Int32)) % (6 : Int32)))])) _
        refine XS.icmpYes X309.here hx rfl (pc0 := 89) (pc' := 98) rfl (hb hby at_89) rfl (flt (own_up hc318 (by decide))).2.2.2 (by decide) (by decide) ?_
        show Steps p.tables e below (T309.setTop (mkF m 98 #[.val (.int p0), .val (.int p1), .val (.int p2), .val (.int p3), .val (.int ((p0 &&& (2147483647 : Int32)) % (6 : Int32))), .val (.int (j1g_0 ((p0 &&& (2147483647 : Int32)) % (6 : Int32)) ((p1 &&& (2147483647 : Int32)) % (6 : Int32)))), .val (.ref b293), .val (.int (1 : Int32))] [])) _
        refine XS.iload X309.here hx rfl (hb hby at_98) rfl ?_
        exact k)
      by_cases hc689 : (0 : Int32) < (j1g_0 ((p0 &&& (2147483647 : Int32)) % (6 : Int32)) ((p1 &&& (2147483647 : Int32)) % (6 : Int32)))
      · skip
        obtain ⟨cq691, kq691, q691a, q691b, q691c⟩ := isOf hZ e309 f310
        obtain ⟨_, _, ⟨T691, L691, k691, n691⟩, -, X691, ⟨Lc691, hQ691, l691, y691, z691⟩, st691⟩ := X309.virtualBack hx (y := (⟨"com/example/subsumer/subsumer/classification/IntList", "pop", "()I"⟩ : MethodName)) (z := (⟨"com/example/subsumer/subsumer/classification/IntList", "pop", "()I"⟩ : MethodName)) hown (mvT hZ (hw _ (List.mem_of_getElem? (i := 29) rfl))) (mvT hZ (hw _ (List.mem_of_getElem? (i := 30) rfl))) (notFace_of_selects (args := #[]) (mvT hZ (hw _ (List.mem_of_getElem? (i := 32) rfl)))) (mvT hZ (hw _ (List.mem_of_getElem? (i := 32) rfl))) (mvT hZ (hw _ (List.mem_of_getElem? (i := 31) rfl))) (by decide) (backOf (W := 0) (rm6_4_1 l Z aw hw [] b293 cx0297 p2 ((0 : Int32)) ((0 : Int32)) ((0 : Int32)) cy0297 h309 n0 Z309 f310 f312 f311 f313 g_b293 ne305) hZ (hw _ (List.mem_of_getElem? (i := 33) rfl)) (hw _ (List.mem_of_getElem? (i := 7) rfl)) (by decide) (by decide)) q691a q691c (g := (mkF m 105 #[.val (.int p0), .val (.int p1), .val (.int p2), .val (.int p3), .val (.int ((p0 &&& (2147483647 : Int32)) % (6 : Int32))), .val (.int (j1g_0 ((p0 &&& (2147483647 : Int32)) % (6 : Int32)) ((p1 &&& (2147483647 : Int32)) % (6 : Int32)))), .val (.ref b293), .val (.int (1 : Int32))] [(.ref b293)])) rfl (by rw [hml]; rfl) (Steps.refl _) (argsL := []) (rest := []) (lenOf pd_7 rfl) rfl (by show 2 * 0 + _ ≤ _; exact Nat.le_of_eq rfl) (hb hby at_105) (fun _ _ => ⟨rfl, e309, (by decide : 2 + 0 ≤ _), (by decide : 6 + 0 ≤ _)⟩)
        dsimp only [Pt.U, Pt.locs, Pt.cells, Pt.slots] at X691 l691 y691 z691 st691 hQ691
        subst l691 y691 z691
        obtain ⟨h691, e691⟩ : ∃ z, T691.heap = z := ⟨_, rfl⟩
        rw [e691] at hQ691
        obtain ⟨rfl, N691q, K691q, f692, f693, f694⟩ := hQ691
        have f695 := f310.keep K691q
        have f698 := f313.keep K691q (ninS (Ne.symm ne305) nin0)
        have Z691 := Nat.le_trans Z309 K691q.1
        have N691 := Fr.app N309 N691q
        obtain ⟨cq699, kq699, q699a, q699b, q699c⟩ := isOf hZ e691 f692
        obtain ⟨_, _, ⟨T699, L699, k699, n699⟩, -, X699, ⟨Lc699, hQ699, l699, y699, z699⟩, st699⟩ := X691.virtualBack hx (y := (⟨"com/example/subsumer/subsumer/classification/IntList", "isEmpty", "()Z"⟩ : MethodName)) (z := (⟨"com/example/subsumer/subsumer/classification/IntList", "isEmpty", "()Z"⟩ : MethodName)) hown (mvT hZ (hw _ (List.mem_of_getElem? (i := 17) rfl))) (mvT hZ (hw _ (List.mem_of_getElem? (i := 18) rfl))) (notFace_of_selects (args := #[]) (mvT hZ (hw _ (List.mem_of_getElem? (i := 20) rfl)))) (mvT hZ (hw _ (List.mem_of_getElem? (i := 20) rfl))) (mvT hZ (hw _ (List.mem_of_getElem? (i := 19) rfl))) (by decide) (backOf (W := 0) (rm4z l Z aw hw [] b293 h691 n0 Z691 f692 f693) hZ (hw _ (List.mem_of_getElem? (i := 21) rfl)) (hw _ (List.mem_of_getElem? (i := 7) rfl)) (by decide) (by decide)) q699a q699c (g := (mkF m 164 #[.val (.int p0), .val (.int p1), .val (.int p2), .val (.int p3), .val (.int ((p0 &&& (2147483647 : Int32)) % (6 : Int32))), .val (.int (j1g_0 ((p0 &&& (2147483647 : Int32)) % (6 : Int32)) ((p1 &&& (2147483647 : Int32)) % (6 : Int32)))), .val (.ref b293), .val (.int (1 : Int32))] [(.ref b293)])) rfl (by rw [hml]; rfl) (Steps.refl _) (argsL := []) (rest := []) (lenOf pd_5 rfl) rfl (by show 2 * 0 + _ ≤ _; exact Nat.le_of_eq rfl) (hb hby at_164) (fun _ _ => ⟨rfl, e691, (by decide : 2 + 0 ≤ _), (by decide : 6 + 0 ≤ _)⟩)
        dsimp only [Pt.U, Pt.locs, Pt.cells, Pt.slots] at X699 l699 y699 z699 st699 hQ699
        subst l699 y699 z699
        obtain ⟨rfl, N699q, e699⟩ := hQ699
        have N699 := Fr.app N691 N699q
        have pre700 := fun (t : State) (k : Steps p.tables e below (T699.setTop (mkF m 171 #[.val (.int p0), .val (.int p1), .val (.int p2), .val (.int p3), .val (.int ((p0 &&& (2147483647 : Int32)) % (6 : Int32))), .val (.int (j1g_0 ((p0 &&& (2147483647 : Int32)) % (6 : Int32)) ((p1 &&& (2147483647 : Int32)) % (6 : Int32)))), .val (.ref b293), .val (.int (1 : Int32))] [(.int (j1g_0 ((p0 &&& (2147483647 : Int32)) % (6 : Int32)) ((p1 &&& (2147483647 : Int32)) % (6 : Int32)))), (.int ((p0 &&& (2147483647 : Int32)) % (6 : Int32))), (.int (1 : Int32))])) t) => pre690 t (by
          show Steps p.tables e below (T309.setTop (mkF m 100 #[.val (.int p0), .val (.int p1), .val (.int p2), .val (.int p3), .val (.int ((p0 &&& (2147483647 : Int32)) % (6 : Int32))), .val (.int (j1g_0 ((p0 &&& (2147483647 : Int32)) % (6 : Int32)) ((p1 &&& (2147483647 : Int32)) % (6 : Int32)))), .val (.ref b293), .val (.int (1 : Int32))] [(.int (j1g_0 ((p0 &&& (2147483647 : Int32)) % (6 : Int32)) ((p1 &&& (2147483647 : Int32)) % (6 : Int32))))])) _
          refine XS.ifNo X309.here hx rfl (hb hby at_100) rfl ((if0 _ _).trans (tlt hc689).2.2.2) ?_
          show Steps p.tables e below (T309.setTop (mkF m 103 #[.val (.int p0), .val (.int p1), .val (.int p2), .val (.int p3), .val (.int ((p0 &&& (2147483647 : Int32)) % (6 : Int32))), .val (.int (j1g_0 ((p0 &&& (2147483647 : Int32)) % (6 : Int32)) ((p1 &&& (2147483647 : Int32)) % (6 : Int32)))), .val (.ref b293), .val (.int (1 : Int32))] [])) _
          refine XS.aload X309.here hx rfl (hb hby at_103) rfl rfl ?_
          show Steps p.tables e below (T309.setTop (mkF m 105 #[.val (.int p0), .val (.int p1), .val (.int p2), .val (.int p3), .val (.int ((p0 &&& (2147483647 : Int32)) % (6 : Int32))), .val (.int (j1g_0 ((p0 &&& (2147483647 : Int32)) % (6 : Int32)) ((p1 &&& (2147483647 : Int32)) % (6 : Int32)))), .val (.ref b293), .val (.int (1 : Int32))] [(.ref b293)])) _
          refine st691.trans ?_
          show Steps p.tables e below (T691.setTop (mkF m 108 #[.val (.int p0), .val (.int p1), .val (.int p2), .val (.int p3), .val (.int ((p0 &&& (2147483647 : Int32)) % (6 : Int32))), .val (.int (j1g_0 ((p0 &&& (2147483647 : Int32)) % (6 : Int32)) ((p1 &&& (2147483647 : Int32)) % (6 : Int32)))), .val (.ref b293), .val (.int (1 : Int32))] [(.int p2)])) _
          refine XS.pop X691.here hx rfl (hb hby at_108) rfl rfl ?_
          show Steps p.tables e below (T691.setTop (mkF m 109 #[.val (.int p0), .val (.int p1), .val (.int p2), .val (.int p3), .val (.int ((p0 &&& (2147483647 : Int32)) % (6 : Int32))), .val (.int (j1g_0 ((p0 &&& (2147483647 : Int32)) % (6 : Int32)) ((p1 &&& (2147483647 : Int32)) % (6 : Int32)))), .val (.ref b293), .val (.int (1 : Int32))] [])) _
          refine XS.iload X691.here hx rfl (hb hby at_109) rfl ?_
          show Steps p.tables e below (T691.setTop (mkF m 111 #[.val (.int p0), .val (.int p1), .val (.int p2), .val (.int p3), .val (.int ((p0 &&& (2147483647 : Int32)) % (6 : Int32))), .val (.int (j1g_0 ((p0 &&& (2147483647 : Int32)) % (6 : Int32)) ((p1 &&& (2147483647 : Int32)) % (6 : Int32)))), .val (.ref b293), .val (.int (1 : Int32))] [(.int (j1g_0 ((p0 &&& (2147483647 : Int32)) % (6 : Int32)) ((p1 &&& (2147483647 : Int32)) % (6 : Int32))))])) _
          refine XS.iconst X691.here hx rfl (hb hby at_111) ?_
          show Steps p.tables e below (T691.setTop (mkF m 112 #[.val (.int p0), .val (.int p1), .val (.int p2), .val (.int p3), .val (.int ((p0 &&& (2147483647 : Int32)) % (6 : Int32))), .val (.int (j1g_0 ((p0 &&& (2147483647 : Int32)) % (6 : Int32)) ((p1 &&& (2147483647 : Int32)) % (6 : Int32)))), .val (.ref b293), .val (.int (1 : Int32))] [(.int (1 : Int32)), (.int (j1g_0 ((p0 &&& (2147483647 : Int32)) % (6 : Int32)) ((p1 &&& (2147483647 : Int32)) % (6 : Int32))))])) _
          refine XS.icmpYes X691.here hx rfl (pc0 := 112) (pc' := 121) rfl (hb hby at_112) rfl (flt (own_mn (own_up hc318 (by decide)))).2.2.2 (by decide) (by decide) ?_
          show Steps p.tables e below (T691.setTop (mkF m 121 #[.val (.int p0), .val (.int p1), .val (.int p2), .val (.int p3), .val (.int ((p0 &&& (2147483647 : Int32)) % (6 : Int32))), .val (.int (j1g_0 ((p0 &&& (2147483647 : Int32)) % (6 : Int32)) ((p1 &&& (2147483647 : Int32)) % (6 : Int32)))), .val (.ref b293), .val (.int (1 : Int32))] [])) _
          refine XS.iload X691.here hx rfl (hb hby at_121) rfl ?_
          show Steps p.tables e below (T691.setTop (mkF m 123 #[.val (.int p0), .val (.int p1), .val (.int p2), .val (.int p3), .val (.int ((p0 &&& (2147483647 : Int32)) % (6 : Int32))), .val (.int (j1g_0 ((p0 &&& (2147483647 : Int32)) % (6 : Int32)) ((p1 &&& (2147483647 : Int32)) % (6 : Int32)))), .val (.ref b293), .val (.int (1 : Int32))] [(.int (j1g_0 ((p0 &&& (2147483647 : Int32)) % (6 : Int32)) ((p1 &&& (2147483647 : Int32)) % (6 : Int32))))])) _
          refine XS.iconst X691.here hx rfl (hb hby at_123) ?_
          show Steps p.tables e below (T691.setTop (mkF m 124 #[.val (.int p0), .val (.int p1), .val (.int p2), .val (.int p3), .val (.int ((p0 &&& (2147483647 : Int32)) % (6 : Int32))), .val (.int (j1g_0 ((p0 &&& (2147483647 : Int32)) % (6 : Int32)) ((p1 &&& (2147483647 : Int32)) % (6 : Int32)))), .val (.ref b293), .val (.int (1 : Int32))] [(.int (2 : Int32)), (.int (j1g_0 ((p0 &&& (2147483647 : Int32)) % (6 : Int32)) ((p1 &&& (2147483647 : Int32)) % (6 : Int32))))])) _
          refine XS.icmpYes X691.here hx rfl (pc0 := 124) (pc' := 133) rfl (hb hby at_124) rfl (flt (own_mn (own_up hc318 (by decide)))).2.2.2 (by decide) (by decide) ?_
          show Steps p.tables e below (T691.setTop (mkF m 133 #[.val (.int p0), .val (.int p1), .val (.int p2), .val (.int p3), .val (.int ((p0 &&& (2147483647 : Int32)) % (6 : Int32))), .val (.int (j1g_0 ((p0 &&& (2147483647 : Int32)) % (6 : Int32)) ((p1 &&& (2147483647 : Int32)) % (6 : Int32)))), .val (.ref b293), .val (.int (1 : Int32))] [])) _
          refine XS.iload X691.here hx rfl (hb hby at_133) rfl ?_
          show Steps p.tables e below (T691.setTop (mkF m 135 #[.val (.int p0), .val (.int p1), .val (.int p2), .val (.int p3), .val (.int ((p0 &&& (2147483647 : Int32)) % (6 : Int32))), .val (.int (j1g_0 ((p0 &&& (2147483647 : Int32)) % (6 : Int32)) ((p1 &&& (2147483647 : Int32)) % (6 : Int32)))), .val (.ref b293), .val (.int (1 : Int32))] [(.int (j1g_0 ((p0 &&& (2147483647 : Int32)) % (6 : Int32)) ((p1 &&& (2147483647 : Int32)) % (6 : Int32))))])) _
          refine XS.iconst X691.here hx rfl (hb hby at_135) ?_
          show Steps p.tables e below (T691.setTop (mkF m 136 #[.val (.int p0), .val (.int p1), .val (.int p2), .val (.int p3), .val (.int ((p0 &&& (2147483647 : Int32)) % (6 : Int32))), .val (.int (j1g_0 ((p0 &&& (2147483647 : Int32)) % (6 : Int32)) ((p1 &&& (2147483647 : Int32)) % (6 : Int32)))), .val (.ref b293), .val (.int (1 : Int32))] [(.int (3 : Int32)), (.int (j1g_0 ((p0 &&& (2147483647 : Int32)) % (6 : Int32)) ((p1 &&& (2147483647 : Int32)) % (6 : Int32))))])) _
          refine XS.icmpYes X691.here hx rfl (pc0 := 136) (pc' := 145) rfl (hb hby at_136) rfl (flt (own_mn (own_up hc318 (by decide)))).2.2.2 (by decide) (by decide) ?_
          show Steps p.tables e below (T691.setTop (mkF m 145 #[.val (.int p0), .val (.int p1), .val (.int p2), .val (.int p3), .val (.int ((p0 &&& (2147483647 : Int32)) % (6 : Int32))), .val (.int (j1g_0 ((p0 &&& (2147483647 : Int32)) % (6 : Int32)) ((p1 &&& (2147483647 : Int32)) % (6 : Int32)))), .val (.ref b293), .val (.int (1 : Int32))] [])) _
          refine XS.iload X691.here hx rfl (hb hby at_145) rfl ?_
          show Steps p.tables e below (T691.setTop (mkF m 147 #[.val (.int p0), .val (.int p1), .val (.int p2), .val (.int p3), .val (.int ((p0 &&& (2147483647 : Int32)) % (6 : Int32))), .val (.int (j1g_0 ((p0 &&& (2147483647 : Int32)) % (6 : Int32)) ((p1 &&& (2147483647 : Int32)) % (6 : Int32)))), .val (.ref b293), .val (.int (1 : Int32))] [(.int (j1g_0 ((p0 &&& (2147483647 : Int32)) % (6 : Int32)) ((p1 &&& (2147483647 : Int32)) % (6 : Int32))))])) _
          refine XS.iconst X691.here hx rfl (hb hby at_147) ?_
          show Steps p.tables e below (T691.setTop (mkF m 148 #[.val (.int p0), .val (.int p1), .val (.int p2), .val (.int p3), .val (.int ((p0 &&& (2147483647 : Int32)) % (6 : Int32))), .val (.int (j1g_0 ((p0 &&& (2147483647 : Int32)) % (6 : Int32)) ((p1 &&& (2147483647 : Int32)) % (6 : Int32)))), .val (.ref b293), .val (.int (1 : Int32))] [(.int (4 : Int32)), (.int (j1g_0 ((p0 &&& (2147483647 : Int32)) % (6 : Int32)) ((p1 &&& (2147483647 : Int32)) % (6 : Int32))))])) _
          refine XS.icmpYes X691.here hx rfl (pc0 := 148) (pc' := 157) rfl (hb hby at_148) rfl (flt (own_mn (own_up hc318 (by decide)))).2.2.2 (by decide) (by decide) ?_
          show Steps p.tables e below (T691.setTop (mkF m 157 #[.val (.int p0), .val (.int p1), .val (.int p2), .val (.int p3), .val (.int ((p0 &&& (2147483647 : Int32)) % (6 : Int32))), .val (.int (j1g_0 ((p0 &&& (2147483647 : Int32)) % (6 : Int32)) ((p1 &&& (2147483647 : Int32)) % (6 : Int32)))), .val (.ref b293), .val (.int (1 : Int32))] [])) _
          refine XS.iload X691.here hx rfl (hb hby at_157) rfl ?_
          show Steps p.tables e below (T691.setTop (mkF m 159 #[.val (.int p0), .val (.int p1), .val (.int p2), .val (.int p3), .val (.int ((p0 &&& (2147483647 : Int32)) % (6 : Int32))), .val (.int (j1g_0 ((p0 &&& (2147483647 : Int32)) % (6 : Int32)) ((p1 &&& (2147483647 : Int32)) % (6 : Int32)))), .val (.ref b293), .val (.int (1 : Int32))] [(.int (1 : Int32))])) _
          refine XS.ifNo X691.here hx rfl (hb hby at_159) rfl ((if0 _ _).trans (feq (by decide : ¬ ((1 : Int32) = (0 : Int32)))).1) ?_
          show Steps p.tables e below (T691.setTop (mkF m 162 #[.val (.int p0), .val (.int p1), .val (.int p2), .val (.int p3), .val (.int ((p0 &&& (2147483647 : Int32)) % (6 : Int32))), .val (.int (j1g_0 ((p0 &&& (2147483647 : Int32)) % (6 : Int32)) ((p1 &&& (2147483647 : Int32)) % (6 : Int32)))), .val (.ref b293), .val (.int (1 : Int32))] [])) _
          refine XS.aload X691.here hx rfl (hb hby at_162) rfl rfl ?_
          show Steps p.tables e below (T691.setTop (mkF m 164 #[.val (.int p0), .val (.int p1), .val (.int p2), .val (.int p3), .val (.int ((p0 &&& (2147483647 : Int32)) % (6 : Int32))), .val (.int (j1g_0 ((p0 &&& (2147483647 : Int32)) % (6 : Int32)) ((p1 &&& (2147483647 : Int32)) % (6 : Int32)))), .val (.ref b293), .val (.int (1 : Int32))] [(.ref b293)])) _
          refine st699.trans ?_
          show Steps p.tables e below (T699.setTop (mkF m 167 #[.val (.int p0), .val (.int p1), .val (.int p2), .val (.int p3), .val (.int ((p0 &&& (2147483647 : Int32)) % (6 : Int32))), .val (.int (j1g_0 ((p0 &&& (2147483647 : Int32)) % (6 : Int32)) ((p1 &&& (2147483647 : Int32)) % (6 : Int32)))), .val (.ref b293), .val (.int (1 : Int32))] [(.int (1 : Int32))])) _
          refine XS.iload X699.here hx rfl (hb hby at_167) rfl ?_
          show Steps p.tables e below (T699.setTop (mkF m 169 #[.val (.int p0), .val (.int p1), .val (.int p2), .val (.int p3), .val (.int ((p0 &&& (2147483647 : Int32)) % (6 : Int32))), .val (.int (j1g_0 ((p0 &&& (2147483647 : Int32)) % (6 : Int32)) ((p1 &&& (2147483647 : Int32)) % (6 : Int32)))), .val (.ref b293), .val (.int (1 : Int32))] [(.int ((p0 &&& (2147483647 : Int32)) % (6 : Int32))), (.int (1 : Int32))])) _
          refine XS.iload X699.here hx rfl (hb hby at_169) rfl ?_
          exact k)
        have pre701 := fun (t : State) (k : Steps p.tables e below (T699.setTop (mkF m 179 #[.val (.int p0), .val (.int p1), .val (.int p2), .val (.int p3), .val (.int ((p0 &&& (2147483647 : Int32)) % (6 : Int32))), .val (.int (j1g_0 ((p0 &&& (2147483647 : Int32)) % (6 : Int32)) ((p1 &&& (2147483647 : Int32)) % (6 : Int32)))), .val (.ref b293), .val (.int (1 : Int32))] [(.int (j0_0 p0 p1)), (.int (1 : Int32))])) t) => pre700 t (by
          by_cases hc702 : ((p0 &&& (2147483647 : Int32)) % (6 : Int32)) = (j1g_0 ((p0 &&& (2147483647 : Int32)) % (6 : Int32)) ((p1 &&& (2147483647 : Int32)) % (6 : Int32)))
          · skip
            show Steps p.tables e below (T699.setTop (mkF m 171 #[.val (.int p0), .val (.int p1), .val (.int p2), .val (.int p3), .val (.int ((p0 &&& (2147483647 : Int32)) % (6 : Int32))), .val (.int (j1g_0 ((p0 &&& (2147483647 : Int32)) % (6 : Int32)) ((p1 &&& (2147483647 : Int32)) % (6 : Int32)))), .val (.ref b293), .val (.int (1 : Int32))] [(.int (j1g_0 ((p0 &&& (2147483647 : Int32)) % (6 : Int32)) ((p1 &&& (2147483647 : Int32)) % (6 : Int32)))), (.int ((p0 &&& (2147483647 : Int32)) % (6 : Int32))), (.int (1 : Int32))])) _
            refine XS.icmpNo X699.here hx rfl (hb hby at_171) rfl (teq hc702).2 ?_
            show Steps p.tables e below (T699.setTop (mkF m 174 #[.val (.int p0), .val (.int p1), .val (.int p2), .val (.int p3), .val (.int ((p0 &&& (2147483647 : Int32)) % (6 : Int32))), .val (.int (j1g_0 ((p0 &&& (2147483647 : Int32)) % (6 : Int32)) ((p1 &&& (2147483647 : Int32)) % (6 : Int32)))), .val (.ref b293), .val (.int (1 : Int32))] [(.int (1 : Int32))])) _
            refine XS.iconst X699.here hx rfl (hb hby at_174) ?_
            show Steps p.tables e below (T699.setTop (mkF m 175 #[.val (.int p0), .val (.int p1), .val (.int p2), .val (.int p3), .val (.int ((p0 &&& (2147483647 : Int32)) % (6 : Int32))), .val (.int (j1g_0 ((p0 &&& (2147483647 : Int32)) % (6 : Int32)) ((p1 &&& (2147483647 : Int32)) % (6 : Int32)))), .val (.ref b293), .val (.int (1 : Int32))] [(.int (1 : Int32)), (.int (1 : Int32))])) _
            refine XS.goto X699.here hx rfl (pc0 := 175) (pc' := 179) rfl (hb hby at_175) (by decide) (by decide) ?_
            have hj703 : (j0_0 p0 p1) = (1 : Int32) := by unfold j0_0; first | (rw [if_pos hc702]) | (simp only [if_pos hc702])
            rw [hj703] at k
            exact k
          · skip
            show Steps p.tables e below (T699.setTop (mkF m 171 #[.val (.int p0), .val (.int p1), .val (.int p2), .val (.int p3), .val (.int ((p0 &&& (2147483647 : Int32)) % (6 : Int32))), .val (.int (j1g_0 ((p0 &&& (2147483647 : Int32)) % (6 : Int32)) ((p1 &&& (2147483647 : Int32)) % (6 : Int32)))), .val (.ref b293), .val (.int (1 : Int32))] [(.int (j1g_0 ((p0 &&& (2147483647 : Int32)) % (6 : Int32)) ((p1 &&& (2147483647 : Int32)) % (6 : Int32)))), (.int ((p0 &&& (2147483647 : Int32)) % (6 : Int32))), (.int (1 : Int32))])) _
            refine XS.icmpYes X699.here hx rfl (pc0 := 171) (pc' := 178) rfl (hb hby at_171) rfl (feq hc702).2 (by decide) (by decide) ?_
            show Steps p.tables e below (T699.setTop (mkF m 178 #[.val (.int p0), .val (.int p1), .val (.int p2), .val (.int p3), .val (.int ((p0 &&& (2147483647 : Int32)) % (6 : Int32))), .val (.int (j1g_0 ((p0 &&& (2147483647 : Int32)) % (6 : Int32)) ((p1 &&& (2147483647 : Int32)) % (6 : Int32)))), .val (.ref b293), .val (.int (1 : Int32))] [(.int (1 : Int32))])) _
            refine XS.iconst X699.here hx rfl (hb hby at_178) ?_
            have hj704 : (j0_0 p0 p1) = (0 : Int32) := by unfold j0_0; first | (rw [if_neg hc702]) | (simp only [if_neg hc702])
            rw [hj704] at k
            exact k)
        have pre705 := fun (t : State) (k : Steps p.tables e below (T699.setTop (mkF m 187 #[.val (.int p0), .val (.int p1), .val (.int p2), .val (.int p3), .val (.int ((p0 &&& (2147483647 : Int32)) % (6 : Int32))), .val (.int (j1g_0 ((p0 &&& (2147483647 : Int32)) % (6 : Int32)) ((p1 &&& (2147483647 : Int32)) % (6 : Int32)))), .val (.ref b293), .val (.int (1 : Int32))] [(.int (j0_1 p0 p1))])) t) => pre701 t (by
          by_cases hc706 : (1 : Int32) = (j0_0 p0 p1)
          · skip
            show Steps p.tables e below (T699.setTop (mkF m 179 #[.val (.int p0), .val (.int p1), .val (.int p2), .val (.int p3), .val (.int ((p0 &&& (2147483647 : Int32)) % (6 : Int32))), .val (.int (j1g_0 ((p0 &&& (2147483647 : Int32)) % (6 : Int32)) ((p1 &&& (2147483647 : Int32)) % (6 : Int32)))), .val (.ref b293), .val (.int (1 : Int32))] [(.int (j0_0 p0 p1)), (.int (1 : Int32))])) _
            refine XS.icmpNo X699.here hx rfl (hb hby at_179) rfl (teq hc706).2 ?_
            show Steps p.tables e below (T699.setTop (mkF m 182 #[.val (.int p0), .val (.int p1), .val (.int p2), .val (.int p3), .val (.int ((p0 &&& (2147483647 : Int32)) % (6 : Int32))), .val (.int (j1g_0 ((p0 &&& (2147483647 : Int32)) % (6 : Int32)) ((p1 &&& (2147483647 : Int32)) % (6 : Int32)))), .val (.ref b293), .val (.int (1 : Int32))] [])) _
            refine XS.iconst X699.here hx rfl (hb hby at_182) ?_
            show Steps p.tables e below (T699.setTop (mkF m 183 #[.val (.int p0), .val (.int p1), .val (.int p2), .val (.int p3), .val (.int ((p0 &&& (2147483647 : Int32)) % (6 : Int32))), .val (.int (j1g_0 ((p0 &&& (2147483647 : Int32)) % (6 : Int32)) ((p1 &&& (2147483647 : Int32)) % (6 : Int32)))), .val (.ref b293), .val (.int (1 : Int32))] [(.int (1 : Int32))])) _
            refine XS.goto X699.here hx rfl (pc0 := 183) (pc' := 187) rfl (hb hby at_183) (by decide) (by decide) ?_
            have hj707 : (j0_1 p0 p1) = (1 : Int32) := by unfold j0_1; first | (rw [if_pos hc706]) | (simp only [if_pos hc706])
            rw [hj707] at k
            exact k
          · skip
            show Steps p.tables e below (T699.setTop (mkF m 179 #[.val (.int p0), .val (.int p1), .val (.int p2), .val (.int p3), .val (.int ((p0 &&& (2147483647 : Int32)) % (6 : Int32))), .val (.int (j1g_0 ((p0 &&& (2147483647 : Int32)) % (6 : Int32)) ((p1 &&& (2147483647 : Int32)) % (6 : Int32)))), .val (.ref b293), .val (.int (1 : Int32))] [(.int (j0_0 p0 p1)), (.int (1 : Int32))])) _
            refine XS.icmpYes X699.here hx rfl (pc0 := 179) (pc' := 186) rfl (hb hby at_179) rfl (feq hc706).2 (by decide) (by decide) ?_
            show Steps p.tables e below (T699.setTop (mkF m 186 #[.val (.int p0), .val (.int p1), .val (.int p2), .val (.int p3), .val (.int ((p0 &&& (2147483647 : Int32)) % (6 : Int32))), .val (.int (j1g_0 ((p0 &&& (2147483647 : Int32)) % (6 : Int32)) ((p1 &&& (2147483647 : Int32)) % (6 : Int32)))), .val (.ref b293), .val (.int (1 : Int32))] [])) _
            refine XS.iconst X699.here hx rfl (hb hby at_186) ?_
            have hj708 : (j0_1 p0 p1) = (0 : Int32) := by unfold j0_1; first | (rw [if_neg hc706]) | (simp only [if_neg hc706])
            rw [hj708] at k
            exact k)
        obtain ⟨fs, hr, hrun, hended, hW, hsame⟩ := X699.leave (v := some (.int (nar .boolean (j0_1 p0 p1)))) (fun h => by rw [Bd.returns] at h; cases h)
        refine ⟨_, _, pre705 _ ?_, hrun, hended, _, _, rfl, ?_, ⟨_, rfl⟩, hW, hsame.mono (by decide) (by decide)⟩
        · skip
          show Steps p.tables e below (T699.setTop (mkF m 187 #[.val (.int p0), .val (.int p1), .val (.int p2), .val (.int p3), .val (.int ((p0 &&& (2147483647 : Int32)) % (6 : Int32))), .val (.int (j1g_0 ((p0 &&& (2147483647 : Int32)) % (6 : Int32)) ((p1 &&& (2147483647 : Int32)) % (6 : Int32)))), .val (.ref b293), .val (.int (1 : Int32))] [(.int (j0_1 p0 p1))])) _
          exact retN X699 hx (t := .boolean) Bd.returns (by simp) (hb hby at_187) hr
        · show Q0 Z p0 p1 p2 p3 h0 n0 _ T699.heap _
          rw [e699]
          have hv : (nar .boolean (j0_1 p0 p1)) = (v0 p0 p1) := by unfold v0; first | (rw [if_pos hc307, if_neg hc318, if_pos hc689]) | (simp only [if_pos hc307, if_neg hc318, if_pos hc689])
          exact ⟨(by rw [← hv]), N699⟩
      · skip
        obtain ⟨cq709, kq709, q709a, q709b, q709c⟩ := isOf hZ e309 f310
        obtain ⟨_, _, ⟨T709, L709, k709, n709⟩, -, X709, ⟨Lc709, hQ709, l709, y709, z709⟩, st709⟩ := X309.virtualBack hx (y := (⟨"com/example/subsumer/subsumer/classification/IntList", "isEmpty", "()Z"⟩ : MethodName)) (z := (⟨"com/example/subsumer/subsumer/classification/IntList", "isEmpty", "()Z"⟩ : MethodName)) hown (mvT hZ (hw _ (List.mem_of_getElem? (i := 17) rfl))) (mvT hZ (hw _ (List.mem_of_getElem? (i := 18) rfl))) (notFace_of_selects (args := #[]) (mvT hZ (hw _ (List.mem_of_getElem? (i := 20) rfl)))) (mvT hZ (hw _ (List.mem_of_getElem? (i := 20) rfl))) (mvT hZ (hw _ (List.mem_of_getElem? (i := 19) rfl))) (by decide) (backOf (W := 0) (rm4_1 l Z aw hw [] b293 h309 n0 Z309 f310 f311) hZ (hw _ (List.mem_of_getElem? (i := 21) rfl)) (hw _ (List.mem_of_getElem? (i := 7) rfl)) (by decide) (by decide)) q709a q709c (g := (mkF m 164 #[.val (.int p0), .val (.int p1), .val (.int p2), .val (.int p3), .val (.int ((p0 &&& (2147483647 : Int32)) % (6 : Int32))), .val (.int (j1g_0 ((p0 &&& (2147483647 : Int32)) % (6 : Int32)) ((p1 &&& (2147483647 : Int32)) % (6 : Int32)))), .val (.ref b293), .val (.int (1 : Int32))] [(.ref b293)])) rfl (by rw [hml]; rfl) (Steps.refl _) (argsL := []) (rest := []) (lenOf pd_5 rfl) rfl (by show 2 * 0 + _ ≤ _; exact Nat.le_of_eq rfl) (hb hby at_164) (fun _ _ => ⟨rfl, e309, (by decide : 2 + 0 ≤ _), (by decide : 6 + 0 ≤ _)⟩)
        dsimp only [Pt.U, Pt.locs, Pt.cells, Pt.slots] at X709 l709 y709 z709 st709 hQ709
        subst l709 y709 z709
        obtain ⟨rfl, N709q, e709⟩ := hQ709
        have N709 := Fr.app N309 N709q
        have pre710 := fun (t : State) (k : Steps p.tables e below (T709.setTop (mkF m 171 #[.val (.int p0), .val (.int p1), .val (.int p2), .val (.int p3), .val (.int ((p0 &&& (2147483647 : Int32)) % (6 : Int32))), .val (.int (j1g_0 ((p0 &&& (2147483647 : Int32)) % (6 : Int32)) ((p1 &&& (2147483647 : Int32)) % (6 : Int32)))), .val (.ref b293), .val (.int (1 : Int32))] [(.int (j1g_0 ((p0 &&& (2147483647 : Int32)) % (6 : Int32)) ((p1 &&& (2147483647 : Int32)) % (6 : Int32)))), (.int ((p0 &&& (2147483647 : Int32)) % (6 : Int32))), (.int (0 : Int32))])) t) => pre690 t (by
          show Steps p.tables e below (T309.setTop (mkF m 100 #[.val (.int p0), .val (.int p1), .val (.int p2), .val (.int p3), .val (.int ((p0 &&& (2147483647 : Int32)) % (6 : Int32))), .val (.int (j1g_0 ((p0 &&& (2147483647 : Int32)) % (6 : Int32)) ((p1 &&& (2147483647 : Int32)) % (6 : Int32)))), .val (.ref b293), .val (.int (1 : Int32))] [(.int (j1g_0 ((p0 &&& (2147483647 : Int32)) % (6 : Int32)) ((p1 &&& (2147483647 : Int32)) % (6 : Int32))))])) _
          refine XS.ifYes X309.here hx rfl (pc0 := 100) (pc' := 109) rfl (hb hby at_100) rfl ((if0 _ _).trans (flt hc689).2.2.2) (by decide) (by decide) ?_
          show Steps p.tables e below (T309.setTop (mkF m 109 #[.val (.int p0), .val (.int p1), .val (.int p2), .val (.int p3), .val (.int ((p0 &&& (2147483647 : Int32)) % (6 : Int32))), .val (.int (j1g_0 ((p0 &&& (2147483647 : Int32)) % (6 : Int32)) ((p1 &&& (2147483647 : Int32)) % (6 : Int32)))), .val (.ref b293), .val (.int (1 : Int32))] [])) _
          refine XS.iload X309.here hx rfl (hb hby at_109) rfl ?_
          show Steps p.tables e below (T309.setTop (mkF m 111 #[.val (.int p0), .val (.int p1), .val (.int p2), .val (.int p3), .val (.int ((p0 &&& (2147483647 : Int32)) % (6 : Int32))), .val (.int (j1g_0 ((p0 &&& (2147483647 : Int32)) % (6 : Int32)) ((p1 &&& (2147483647 : Int32)) % (6 : Int32)))), .val (.ref b293), .val (.int (1 : Int32))] [(.int (j1g_0 ((p0 &&& (2147483647 : Int32)) % (6 : Int32)) ((p1 &&& (2147483647 : Int32)) % (6 : Int32))))])) _
          refine XS.iconst X309.here hx rfl (hb hby at_111) ?_
          show Steps p.tables e below (T309.setTop (mkF m 112 #[.val (.int p0), .val (.int p1), .val (.int p2), .val (.int p3), .val (.int ((p0 &&& (2147483647 : Int32)) % (6 : Int32))), .val (.int (j1g_0 ((p0 &&& (2147483647 : Int32)) % (6 : Int32)) ((p1 &&& (2147483647 : Int32)) % (6 : Int32)))), .val (.ref b293), .val (.int (1 : Int32))] [(.int (1 : Int32)), (.int (j1g_0 ((p0 &&& (2147483647 : Int32)) % (6 : Int32)) ((p1 &&& (2147483647 : Int32)) % (6 : Int32))))])) _
          refine XS.icmpYes X309.here hx rfl (pc0 := 112) (pc' := 121) rfl (hb hby at_112) rfl (flt (own_mn (own_up hc318 (by decide)))).2.2.2 (by decide) (by decide) ?_
          show Steps p.tables e below (T309.setTop (mkF m 121 #[.val (.int p0), .val (.int p1), .val (.int p2), .val (.int p3), .val (.int ((p0 &&& (2147483647 : Int32)) % (6 : Int32))), .val (.int (j1g_0 ((p0 &&& (2147483647 : Int32)) % (6 : Int32)) ((p1 &&& (2147483647 : Int32)) % (6 : Int32)))), .val (.ref b293), .val (.int (1 : Int32))] [])) _
          refine XS.iload X309.here hx rfl (hb hby at_121) rfl ?_
          show Steps p.tables e below (T309.setTop (mkF m 123 #[.val (.int p0), .val (.int p1), .val (.int p2), .val (.int p3), .val (.int ((p0 &&& (2147483647 : Int32)) % (6 : Int32))), .val (.int (j1g_0 ((p0 &&& (2147483647 : Int32)) % (6 : Int32)) ((p1 &&& (2147483647 : Int32)) % (6 : Int32)))), .val (.ref b293), .val (.int (1 : Int32))] [(.int (j1g_0 ((p0 &&& (2147483647 : Int32)) % (6 : Int32)) ((p1 &&& (2147483647 : Int32)) % (6 : Int32))))])) _
          refine XS.iconst X309.here hx rfl (hb hby at_123) ?_
          show Steps p.tables e below (T309.setTop (mkF m 124 #[.val (.int p0), .val (.int p1), .val (.int p2), .val (.int p3), .val (.int ((p0 &&& (2147483647 : Int32)) % (6 : Int32))), .val (.int (j1g_0 ((p0 &&& (2147483647 : Int32)) % (6 : Int32)) ((p1 &&& (2147483647 : Int32)) % (6 : Int32)))), .val (.ref b293), .val (.int (1 : Int32))] [(.int (2 : Int32)), (.int (j1g_0 ((p0 &&& (2147483647 : Int32)) % (6 : Int32)) ((p1 &&& (2147483647 : Int32)) % (6 : Int32))))])) _
          refine XS.icmpYes X309.here hx rfl (pc0 := 124) (pc' := 133) rfl (hb hby at_124) rfl (flt (own_mn (own_up hc318 (by decide)))).2.2.2 (by decide) (by decide) ?_
          show Steps p.tables e below (T309.setTop (mkF m 133 #[.val (.int p0), .val (.int p1), .val (.int p2), .val (.int p3), .val (.int ((p0 &&& (2147483647 : Int32)) % (6 : Int32))), .val (.int (j1g_0 ((p0 &&& (2147483647 : Int32)) % (6 : Int32)) ((p1 &&& (2147483647 : Int32)) % (6 : Int32)))), .val (.ref b293), .val (.int (1 : Int32))] [])) _
          refine XS.iload X309.here hx rfl (hb hby at_133) rfl ?_
          show Steps p.tables e below (T309.setTop (mkF m 135 #[.val (.int p0), .val (.int p1), .val (.int p2), .val (.int p3), .val (.int ((p0 &&& (2147483647 : Int32)) % (6 : Int32))), .val (.int (j1g_0 ((p0 &&& (2147483647 : Int32)) % (6 : Int32)) ((p1 &&& (2147483647 : Int32)) % (6 : Int32)))), .val (.ref b293), .val (.int (1 : Int32))] [(.int (j1g_0 ((p0 &&& (2147483647 : Int32)) % (6 : Int32)) ((p1 &&& (2147483647 : Int32)) % (6 : Int32))))])) _
          refine XS.iconst X309.here hx rfl (hb hby at_135) ?_
          show Steps p.tables e below (T309.setTop (mkF m 136 #[.val (.int p0), .val (.int p1), .val (.int p2), .val (.int p3), .val (.int ((p0 &&& (2147483647 : Int32)) % (6 : Int32))), .val (.int (j1g_0 ((p0 &&& (2147483647 : Int32)) % (6 : Int32)) ((p1 &&& (2147483647 : Int32)) % (6 : Int32)))), .val (.ref b293), .val (.int (1 : Int32))] [(.int (3 : Int32)), (.int (j1g_0 ((p0 &&& (2147483647 : Int32)) % (6 : Int32)) ((p1 &&& (2147483647 : Int32)) % (6 : Int32))))])) _
          refine XS.icmpYes X309.here hx rfl (pc0 := 136) (pc' := 145) rfl (hb hby at_136) rfl (flt (own_mn (own_up hc318 (by decide)))).2.2.2 (by decide) (by decide) ?_
          show Steps p.tables e below (T309.setTop (mkF m 145 #[.val (.int p0), .val (.int p1), .val (.int p2), .val (.int p3), .val (.int ((p0 &&& (2147483647 : Int32)) % (6 : Int32))), .val (.int (j1g_0 ((p0 &&& (2147483647 : Int32)) % (6 : Int32)) ((p1 &&& (2147483647 : Int32)) % (6 : Int32)))), .val (.ref b293), .val (.int (1 : Int32))] [])) _
          refine XS.iload X309.here hx rfl (hb hby at_145) rfl ?_
          show Steps p.tables e below (T309.setTop (mkF m 147 #[.val (.int p0), .val (.int p1), .val (.int p2), .val (.int p3), .val (.int ((p0 &&& (2147483647 : Int32)) % (6 : Int32))), .val (.int (j1g_0 ((p0 &&& (2147483647 : Int32)) % (6 : Int32)) ((p1 &&& (2147483647 : Int32)) % (6 : Int32)))), .val (.ref b293), .val (.int (1 : Int32))] [(.int (j1g_0 ((p0 &&& (2147483647 : Int32)) % (6 : Int32)) ((p1 &&& (2147483647 : Int32)) % (6 : Int32))))])) _
          refine XS.iconst X309.here hx rfl (hb hby at_147) ?_
          show Steps p.tables e below (T309.setTop (mkF m 148 #[.val (.int p0), .val (.int p1), .val (.int p2), .val (.int p3), .val (.int ((p0 &&& (2147483647 : Int32)) % (6 : Int32))), .val (.int (j1g_0 ((p0 &&& (2147483647 : Int32)) % (6 : Int32)) ((p1 &&& (2147483647 : Int32)) % (6 : Int32)))), .val (.ref b293), .val (.int (1 : Int32))] [(.int (4 : Int32)), (.int (j1g_0 ((p0 &&& (2147483647 : Int32)) % (6 : Int32)) ((p1 &&& (2147483647 : Int32)) % (6 : Int32))))])) _
          refine XS.icmpYes X309.here hx rfl (pc0 := 148) (pc' := 157) rfl (hb hby at_148) rfl (flt (own_mn (own_up hc318 (by decide)))).2.2.2 (by decide) (by decide) ?_
          show Steps p.tables e below (T309.setTop (mkF m 157 #[.val (.int p0), .val (.int p1), .val (.int p2), .val (.int p3), .val (.int ((p0 &&& (2147483647 : Int32)) % (6 : Int32))), .val (.int (j1g_0 ((p0 &&& (2147483647 : Int32)) % (6 : Int32)) ((p1 &&& (2147483647 : Int32)) % (6 : Int32)))), .val (.ref b293), .val (.int (1 : Int32))] [])) _
          refine XS.iload X309.here hx rfl (hb hby at_157) rfl ?_
          show Steps p.tables e below (T309.setTop (mkF m 159 #[.val (.int p0), .val (.int p1), .val (.int p2), .val (.int p3), .val (.int ((p0 &&& (2147483647 : Int32)) % (6 : Int32))), .val (.int (j1g_0 ((p0 &&& (2147483647 : Int32)) % (6 : Int32)) ((p1 &&& (2147483647 : Int32)) % (6 : Int32)))), .val (.ref b293), .val (.int (1 : Int32))] [(.int (1 : Int32))])) _
          refine XS.ifNo X309.here hx rfl (hb hby at_159) rfl ((if0 _ _).trans (feq (by decide : ¬ ((1 : Int32) = (0 : Int32)))).1) ?_
          show Steps p.tables e below (T309.setTop (mkF m 162 #[.val (.int p0), .val (.int p1), .val (.int p2), .val (.int p3), .val (.int ((p0 &&& (2147483647 : Int32)) % (6 : Int32))), .val (.int (j1g_0 ((p0 &&& (2147483647 : Int32)) % (6 : Int32)) ((p1 &&& (2147483647 : Int32)) % (6 : Int32)))), .val (.ref b293), .val (.int (1 : Int32))] [])) _
          refine XS.aload X309.here hx rfl (hb hby at_162) rfl rfl ?_
          show Steps p.tables e below (T309.setTop (mkF m 164 #[.val (.int p0), .val (.int p1), .val (.int p2), .val (.int p3), .val (.int ((p0 &&& (2147483647 : Int32)) % (6 : Int32))), .val (.int (j1g_0 ((p0 &&& (2147483647 : Int32)) % (6 : Int32)) ((p1 &&& (2147483647 : Int32)) % (6 : Int32)))), .val (.ref b293), .val (.int (1 : Int32))] [(.ref b293)])) _
          refine st709.trans ?_
          show Steps p.tables e below (T709.setTop (mkF m 167 #[.val (.int p0), .val (.int p1), .val (.int p2), .val (.int p3), .val (.int ((p0 &&& (2147483647 : Int32)) % (6 : Int32))), .val (.int (j1g_0 ((p0 &&& (2147483647 : Int32)) % (6 : Int32)) ((p1 &&& (2147483647 : Int32)) % (6 : Int32)))), .val (.ref b293), .val (.int (1 : Int32))] [(.int (0 : Int32))])) _
          refine XS.iload X709.here hx rfl (hb hby at_167) rfl ?_
          show Steps p.tables e below (T709.setTop (mkF m 169 #[.val (.int p0), .val (.int p1), .val (.int p2), .val (.int p3), .val (.int ((p0 &&& (2147483647 : Int32)) % (6 : Int32))), .val (.int (j1g_0 ((p0 &&& (2147483647 : Int32)) % (6 : Int32)) ((p1 &&& (2147483647 : Int32)) % (6 : Int32)))), .val (.ref b293), .val (.int (1 : Int32))] [(.int ((p0 &&& (2147483647 : Int32)) % (6 : Int32))), (.int (0 : Int32))])) _
          refine XS.iload X709.here hx rfl (hb hby at_169) rfl ?_
          exact k)
        have pre711 := fun (t : State) (k : Steps p.tables e below (T709.setTop (mkF m 179 #[.val (.int p0), .val (.int p1), .val (.int p2), .val (.int p3), .val (.int ((p0 &&& (2147483647 : Int32)) % (6 : Int32))), .val (.int (j1g_0 ((p0 &&& (2147483647 : Int32)) % (6 : Int32)) ((p1 &&& (2147483647 : Int32)) % (6 : Int32)))), .val (.ref b293), .val (.int (1 : Int32))] [(.int (j0_0 p0 p1)), (.int (0 : Int32))])) t) => pre710 t (by
          by_cases hc712 : ((p0 &&& (2147483647 : Int32)) % (6 : Int32)) = (j1g_0 ((p0 &&& (2147483647 : Int32)) % (6 : Int32)) ((p1 &&& (2147483647 : Int32)) % (6 : Int32)))
          · skip
            show Steps p.tables e below (T709.setTop (mkF m 171 #[.val (.int p0), .val (.int p1), .val (.int p2), .val (.int p3), .val (.int ((p0 &&& (2147483647 : Int32)) % (6 : Int32))), .val (.int (j1g_0 ((p0 &&& (2147483647 : Int32)) % (6 : Int32)) ((p1 &&& (2147483647 : Int32)) % (6 : Int32)))), .val (.ref b293), .val (.int (1 : Int32))] [(.int (j1g_0 ((p0 &&& (2147483647 : Int32)) % (6 : Int32)) ((p1 &&& (2147483647 : Int32)) % (6 : Int32)))), (.int ((p0 &&& (2147483647 : Int32)) % (6 : Int32))), (.int (0 : Int32))])) _
            refine XS.icmpNo X709.here hx rfl (hb hby at_171) rfl (teq hc712).2 ?_
            show Steps p.tables e below (T709.setTop (mkF m 174 #[.val (.int p0), .val (.int p1), .val (.int p2), .val (.int p3), .val (.int ((p0 &&& (2147483647 : Int32)) % (6 : Int32))), .val (.int (j1g_0 ((p0 &&& (2147483647 : Int32)) % (6 : Int32)) ((p1 &&& (2147483647 : Int32)) % (6 : Int32)))), .val (.ref b293), .val (.int (1 : Int32))] [(.int (0 : Int32))])) _
            refine XS.iconst X709.here hx rfl (hb hby at_174) ?_
            show Steps p.tables e below (T709.setTop (mkF m 175 #[.val (.int p0), .val (.int p1), .val (.int p2), .val (.int p3), .val (.int ((p0 &&& (2147483647 : Int32)) % (6 : Int32))), .val (.int (j1g_0 ((p0 &&& (2147483647 : Int32)) % (6 : Int32)) ((p1 &&& (2147483647 : Int32)) % (6 : Int32)))), .val (.ref b293), .val (.int (1 : Int32))] [(.int (1 : Int32)), (.int (0 : Int32))])) _
            refine XS.goto X709.here hx rfl (pc0 := 175) (pc' := 179) rfl (hb hby at_175) (by decide) (by decide) ?_
            have hj713 : (j0_0 p0 p1) = (1 : Int32) := by unfold j0_0; first | (rw [if_pos hc712]) | (simp only [if_pos hc712])
            rw [hj713] at k
            exact k
          · skip
            show Steps p.tables e below (T709.setTop (mkF m 171 #[.val (.int p0), .val (.int p1), .val (.int p2), .val (.int p3), .val (.int ((p0 &&& (2147483647 : Int32)) % (6 : Int32))), .val (.int (j1g_0 ((p0 &&& (2147483647 : Int32)) % (6 : Int32)) ((p1 &&& (2147483647 : Int32)) % (6 : Int32)))), .val (.ref b293), .val (.int (1 : Int32))] [(.int (j1g_0 ((p0 &&& (2147483647 : Int32)) % (6 : Int32)) ((p1 &&& (2147483647 : Int32)) % (6 : Int32)))), (.int ((p0 &&& (2147483647 : Int32)) % (6 : Int32))), (.int (0 : Int32))])) _
            refine XS.icmpYes X709.here hx rfl (pc0 := 171) (pc' := 178) rfl (hb hby at_171) rfl (feq hc712).2 (by decide) (by decide) ?_
            show Steps p.tables e below (T709.setTop (mkF m 178 #[.val (.int p0), .val (.int p1), .val (.int p2), .val (.int p3), .val (.int ((p0 &&& (2147483647 : Int32)) % (6 : Int32))), .val (.int (j1g_0 ((p0 &&& (2147483647 : Int32)) % (6 : Int32)) ((p1 &&& (2147483647 : Int32)) % (6 : Int32)))), .val (.ref b293), .val (.int (1 : Int32))] [(.int (0 : Int32))])) _
            refine XS.iconst X709.here hx rfl (hb hby at_178) ?_
            have hj714 : (j0_0 p0 p1) = (0 : Int32) := by unfold j0_0; first | (rw [if_neg hc712]) | (simp only [if_neg hc712])
            rw [hj714] at k
            exact k)
        have pre715 := fun (t : State) (k : Steps p.tables e below (T709.setTop (mkF m 187 #[.val (.int p0), .val (.int p1), .val (.int p2), .val (.int p3), .val (.int ((p0 &&& (2147483647 : Int32)) % (6 : Int32))), .val (.int (j1g_0 ((p0 &&& (2147483647 : Int32)) % (6 : Int32)) ((p1 &&& (2147483647 : Int32)) % (6 : Int32)))), .val (.ref b293), .val (.int (1 : Int32))] [(.int (j0_2 p0 p1))])) t) => pre711 t (by
          by_cases hc716 : (0 : Int32) = (j0_0 p0 p1)
          · skip
            show Steps p.tables e below (T709.setTop (mkF m 179 #[.val (.int p0), .val (.int p1), .val (.int p2), .val (.int p3), .val (.int ((p0 &&& (2147483647 : Int32)) % (6 : Int32))), .val (.int (j1g_0 ((p0 &&& (2147483647 : Int32)) % (6 : Int32)) ((p1 &&& (2147483647 : Int32)) % (6 : Int32)))), .val (.ref b293), .val (.int (1 : Int32))] [(.int (j0_0 p0 p1)), (.int (0 : Int32))])) _
            refine XS.icmpNo X709.here hx rfl (hb hby at_179) rfl (teq hc716).2 ?_
            show Steps p.tables e below (T709.setTop (mkF m 182 #[.val (.int p0), .val (.int p1), .val (.int p2), .val (.int p3), .val (.int ((p0 &&& (2147483647 : Int32)) % (6 : Int32))), .val (.int (j1g_0 ((p0 &&& (2147483647 : Int32)) % (6 : Int32)) ((p1 &&& (2147483647 : Int32)) % (6 : Int32)))), .val (.ref b293), .val (.int (1 : Int32))] [])) _
            refine XS.iconst X709.here hx rfl (hb hby at_182) ?_
            show Steps p.tables e below (T709.setTop (mkF m 183 #[.val (.int p0), .val (.int p1), .val (.int p2), .val (.int p3), .val (.int ((p0 &&& (2147483647 : Int32)) % (6 : Int32))), .val (.int (j1g_0 ((p0 &&& (2147483647 : Int32)) % (6 : Int32)) ((p1 &&& (2147483647 : Int32)) % (6 : Int32)))), .val (.ref b293), .val (.int (1 : Int32))] [(.int (1 : Int32))])) _
            refine XS.goto X709.here hx rfl (pc0 := 183) (pc' := 187) rfl (hb hby at_183) (by decide) (by decide) ?_
            have hj717 : (j0_2 p0 p1) = (1 : Int32) := by unfold j0_2; first | (rw [if_pos hc716]) | (simp only [if_pos hc716])
            rw [hj717] at k
            exact k
          · skip
            show Steps p.tables e below (T709.setTop (mkF m 179 #[.val (.int p0), .val (.int p1), .val (.int p2), .val (.int p3), .val (.int ((p0 &&& (2147483647 : Int32)) % (6 : Int32))), .val (.int (j1g_0 ((p0 &&& (2147483647 : Int32)) % (6 : Int32)) ((p1 &&& (2147483647 : Int32)) % (6 : Int32)))), .val (.ref b293), .val (.int (1 : Int32))] [(.int (j0_0 p0 p1)), (.int (0 : Int32))])) _
            refine XS.icmpYes X709.here hx rfl (pc0 := 179) (pc' := 186) rfl (hb hby at_179) rfl (feq hc716).2 (by decide) (by decide) ?_
            show Steps p.tables e below (T709.setTop (mkF m 186 #[.val (.int p0), .val (.int p1), .val (.int p2), .val (.int p3), .val (.int ((p0 &&& (2147483647 : Int32)) % (6 : Int32))), .val (.int (j1g_0 ((p0 &&& (2147483647 : Int32)) % (6 : Int32)) ((p1 &&& (2147483647 : Int32)) % (6 : Int32)))), .val (.ref b293), .val (.int (1 : Int32))] [])) _
            refine XS.iconst X709.here hx rfl (hb hby at_186) ?_
            have hj718 : (j0_2 p0 p1) = (0 : Int32) := by unfold j0_2; first | (rw [if_neg hc716]) | (simp only [if_neg hc716])
            rw [hj718] at k
            exact k)
        obtain ⟨fs, hr, hrun, hended, hW, hsame⟩ := X709.leave (v := some (.int (nar .boolean (j0_2 p0 p1)))) (fun h => by rw [Bd.returns] at h; cases h)
        refine ⟨_, _, pre715 _ ?_, hrun, hended, _, _, rfl, ?_, ⟨_, rfl⟩, hW, hsame.mono (by decide) (by decide)⟩
        · skip
          show Steps p.tables e below (T709.setTop (mkF m 187 #[.val (.int p0), .val (.int p1), .val (.int p2), .val (.int p3), .val (.int ((p0 &&& (2147483647 : Int32)) % (6 : Int32))), .val (.int (j1g_0 ((p0 &&& (2147483647 : Int32)) % (6 : Int32)) ((p1 &&& (2147483647 : Int32)) % (6 : Int32)))), .val (.ref b293), .val (.int (1 : Int32))] [(.int (j0_2 p0 p1))])) _
          exact retN X709 hx (t := .boolean) Bd.returns (by simp) (hb hby at_187) hr
        · show Q0 Z p0 p1 p2 p3 h0 n0 _ T709.heap _
          rw [e709]
          have hv : (nar .boolean (j0_2 p0 p1)) = (v0 p0 p1) := by unfold v0; first | (rw [if_pos hc307, if_neg hc318, if_neg hc689]) | (simp only [if_pos hc307, if_neg hc318, if_neg hc689])
          exact ⟨(by rw [← hv]), N709⟩
  · skip
    obtain ⟨cq719, kq719, q719a, q719b, q719c⟩ := isOf hZ e306 f298
    obtain ⟨_, _, ⟨T719, L719, k719, n719⟩, -, X719, ⟨Lc719, hQ719, l719, y719, z719⟩, st719⟩ := X306.virtualBack hx (y := (⟨"com/example/subsumer/subsumer/classification/IntList", "isEmpty", "()Z"⟩ : MethodName)) (z := (⟨"com/example/subsumer/subsumer/classification/IntList", "isEmpty", "()Z"⟩ : MethodName)) hown (mvT hZ (hw _ (List.mem_of_getElem? (i := 17) rfl))) (mvT hZ (hw _ (List.mem_of_getElem? (i := 18) rfl))) (notFace_of_selects (args := #[]) (mvT hZ (hw _ (List.mem_of_getElem? (i := 20) rfl)))) (mvT hZ (hw _ (List.mem_of_getElem? (i := 20) rfl))) (mvT hZ (hw _ (List.mem_of_getElem? (i := 19) rfl))) (by decide) (backOf (W := 0) (rm4z l Z aw hw [] b293 h297 n0 Z297 f298 f299) hZ (hw _ (List.mem_of_getElem? (i := 21) rfl)) (hw _ (List.mem_of_getElem? (i := 7) rfl)) (by decide) (by decide)) q719a q719c (g := (mkF m 164 #[.val (.int p0), .val (.int p1), .val (.int p2), .val (.int p3), .val (.int ((p0 &&& (2147483647 : Int32)) % (6 : Int32))), .val (.int (j1g_0 ((p0 &&& (2147483647 : Int32)) % (6 : Int32)) ((p1 &&& (2147483647 : Int32)) % (6 : Int32)))), .val (.ref b293), .val (.int (1 : Int32))] [(.ref b293)])) rfl (by rw [hml]; rfl) (Steps.refl _) (argsL := []) (rest := []) (lenOf pd_5 rfl) rfl (by show 2 * 0 + _ ≤ _; exact Nat.le_of_eq rfl) (hb hby at_164) (fun _ _ => ⟨rfl, e306, (by decide : 2 + 0 ≤ _), (by decide : 6 + 0 ≤ _)⟩)
    dsimp only [Pt.U, Pt.locs, Pt.cells, Pt.slots] at X719 l719 y719 z719 st719 hQ719
    subst l719 y719 z719
    obtain ⟨rfl, N719q, e719⟩ := hQ719
    have N719 := Fr.app N306 N719q
    have pre720 := fun (t : State) (k : Steps p.tables e below (T719.setTop (mkF m 171 #[.val (.int p0), .val (.int p1), .val (.int p2), .val (.int p3), .val (.int ((p0 &&& (2147483647 : Int32)) % (6 : Int32))), .val (.int (j1g_0 ((p0 &&& (2147483647 : Int32)) % (6 : Int32)) ((p1 &&& (2147483647 : Int32)) % (6 : Int32)))), .val (.ref b293), .val (.int (1 : Int32))] [(.int (j1g_0 ((p0 &&& (2147483647 : Int32)) % (6 : Int32)) ((p1 &&& (2147483647 : Int32)) % (6 : Int32)))), (.int ((p0 &&& (2147483647 : Int32)) % (6 : Int32))), (.int (1 : Int32))])) t) => pre308 t (by
      show Steps p.tables e below (T306.setTop (mkF m 41 #[.val (.int p0), .val (.int p1), .val (.int p2), .val (.int p3), .val (.int ((p0 &&& (2147483647 : Int32)) % (6 : Int32))), .val (.int (j1g_0 ((p0 &&& (2147483647 : Int32)) % (6 : Int32)) ((p1 &&& (2147483647 : Int32)) % (6 : Int32)))), .val (.ref b293), .val (.int (1 : Int32))] [(.int ((p0 &&& (2147483647 : Int32)) % (6 : Int32)))])) _
      refine XS.ifYes X306.here hx rfl (pc0 := 41) (pc' := 50) rfl (hb hby at_41) rfl ((if0 _ _).trans (flt hc307).2.2.2) (by decide) (by decide) ?_
      show Steps p.tables e below (T306.setTop (mkF m 50 #[.val (.int p0), .val (.int p1), .val (.int p2), .val (.int p3), .val (.int ((p0 &&& (2147483647 : Int32)) % (6 : Int32))), .val (.int (j1g_0 ((p0 &&& (2147483647 : Int32)) % (6 : Int32)) ((p1 &&& (2147483647 : Int32)) % (6 : Int32)))), .val (.ref b293), .val (.int (1 : Int32))] [])) _
      refine XS.iload X306.here hx rfl (hb hby at_50) rfl ?_
      show Steps p.tables e below (T306.setTop (mkF m 52 #[.val (.int p0), .val (.int p1), .val (.int p2), .val (.int p3), .val (.int ((p0 &&& (2147483647 : Int32)) % (6 : Int32))), .val (.int (j1g_0 ((p0 &&& (2147483647 : Int32)) % (6 : Int32)) ((p1 &&& (2147483647 : Int32)) % (6 : Int32)))), .val (.ref b293), .val (.int (1 : Int32))] [(.int ((p0 &&& (2147483647 : Int32)) % (6 : Int32)))])) _
      refine XS.iconst X306.here hx rfl (hb hby at_52) ?_
      show Steps p.tables e below (T306.setTop (mkF m 53 #[.val (.int p0), .val (.int p1), .val (.int p2), .val (.int p3), .val (.int ((p0 &&& (2147483647 : Int32)) % (6 : Int32))), .val (.int (j1g_0 ((p0 &&& (2147483647 : Int32)) % (6 : Int32)) ((p1 &&& (2147483647 : Int32)) % (6 : Int32)))), .val (.ref b293), .val (.int (1 : Int32))] [(.int (1 : Int32)), (.int ((p0 &&& (2147483647 : Int32)) % (6 : Int32)))])) _
      refine XS.icmpYes X306.here hx rfl (pc0 := 53) (pc' := 62) rfl (hb hby at_53) rfl (flt (own_up hc307 (by decide))).2.2.2 (by decide) (by decide) ?_
      show Steps p.tables e below (T306.setTop (mkF m 62 #[.val (.int p0), .val (.int p1), .val (.int p2), .val (.int p3), .val (.int ((p0 &&& (2147483647 : Int32)) % (6 : Int32))), .val (.int (j1g_0 ((p0 &&& (2147483647 : Int32)) % (6 : Int32)) ((p1 &&& (2147483647 : Int32)) % (6 : Int32)))), .val (.ref b293), .val (.int (1 : Int32))] [])) _
      refine XS.iload X306.here hx rfl (hb hby at_62) rfl ?_
      show Steps p.tables e below (T306.setTop (mkF m 64 #[.val (.int p0), .val (.int p1), .val (.int p2), .val (.int p3), .val (.int ((p0 &&& (2147483647 : Int32)) % (6 : Int32))), .val (.int (j1g_0 ((p0 &&& (2147483647 : Int32)) % (6 : Int32)) ((p1 &&& (2147483647 : Int32)) % (6 : Int32)))), .val (.ref b293), .val (.int (1 : Int32))] [(.int ((p0 &&& (2147483647 : Int32)) % (6 : Int32)))])) _
      refine XS.iconst X306.here hx rfl (hb hby at_64) ?_
      show Steps p.tables e below (T306.setTop (mkF m 65 #[.val (.int p0), .val (.int p1), .val (.int p2), .val (.int p3), .val (.int ((p0 &&& (2147483647 : Int32)) % (6 : Int32))), .val (.int (j1g_0 ((p0 &&& (2147483647 : Int32)) % (6 : Int32)) ((p1 &&& (2147483647 : Int32)) % (6 : Int32)))), .val (.ref b293), .val (.int (1 : Int32))] [(.int (2 : Int32)), (.int ((p0 &&& (2147483647 : Int32)) % (6 : Int32)))])) _
      refine XS.icmpYes X306.here hx rfl (pc0 := 65) (pc' := 74) rfl (hb hby at_65) rfl (flt (own_up hc307 (by decide))).2.2.2 (by decide) (by decide) ?_
      show Steps p.tables e below (T306.setTop (mkF m 74 #[.val (.int p0), .val (.int p1), .val (.int p2), .val (.int p3), .val (.int ((p0 &&& (2147483647 : Int32)) % (6 : Int32))), .val (.int (j1g_0 ((p0 &&& (2147483647 : Int32)) % (6 : Int32)) ((p1 &&& (2147483647 : Int32)) % (6 : Int32)))), .val (.ref b293), .val (.int (1 : Int32))] [])) _
      refine XS.iload X306.here hx rfl (hb hby at_74) rfl ?_
      show Steps p.tables e below (T306.setTop (mkF m 76 #[.val (.int p0), .val (.int p1), .val (.int p2), .val (.int p3), .val (.int ((p0 &&& (2147483647 : Int32)) % (6 : Int32))), .val (.int (j1g_0 ((p0 &&& (2147483647 : Int32)) % (6 : Int32)) ((p1 &&& (2147483647 : Int32)) % (6 : Int32)))), .val (.ref b293), .val (.int (1 : Int32))] [(.int ((p0 &&& (2147483647 : Int32)) % (6 : Int32)))])) _
      refine XS.iconst X306.here hx rfl (hb hby at_76) ?_
      show Steps p.tables e below (T306.setTop (mkF m 77 #[.val (.int p0), .val (.int p1), .val (.int p2), .val (.int p3), .val (.int ((p0 &&& (2147483647 : Int32)) % (6 : Int32))), .val (.int (j1g_0 ((p0 &&& (2147483647 : Int32)) % (6 : Int32)) ((p1 &&& (2147483647 : Int32)) % (6 : Int32)))), .val (.ref b293), .val (.int (1 : Int32))] [(.int (3 : Int32)), (.int ((p0 &&& (2147483647 : Int32)) % (6 : Int32)))])) _
      refine XS.icmpYes X306.here hx rfl (pc0 := 77) (pc' := 86) rfl (hb hby at_77) rfl (flt (own_up hc307 (by decide))).2.2.2 (by decide) (by decide) ?_
      show Steps p.tables e below (T306.setTop (mkF m 86 #[.val (.int p0), .val (.int p1), .val (.int p2), .val (.int p3), .val (.int ((p0 &&& (2147483647 : Int32)) % (6 : Int32))), .val (.int (j1g_0 ((p0 &&& (2147483647 : Int32)) % (6 : Int32)) ((p1 &&& (2147483647 : Int32)) % (6 : Int32)))), .val (.ref b293), .val (.int (1 : Int32))] [])) _
      refine XS.iload X306.here hx rfl (hb hby at_86) rfl ?_
      show Steps p.tables e below (T306.setTop (mkF m 88 #[.val (.int p0), .val (.int p1), .val (.int p2), .val (.int p3), .val (.int ((p0 &&& (2147483647 : Int32)) % (6 : Int32))), .val (.int (j1g_0 ((p0 &&& (2147483647 : Int32)) % (6 : Int32)) ((p1 &&& (2147483647 : Int32)) % (6 : Int32)))), .val (.ref b293), .val (.int (1 : Int32))] [(.int ((p0 &&& (2147483647 : Int32)) % (6 : Int32)))])) _
      refine XS.iconst X306.here hx rfl (hb hby at_88) ?_
      show Steps p.tables e below (T306.setTop (mkF m 89 #[.val (.int p0), .val (.int p1), .val (.int p2), .val (.int p3), .val (.int ((p0 &&& (2147483647 : Int32)) % (6 : Int32))), .val (.int (j1g_0 ((p0 &&& (2147483647 : Int32)) % (6 : Int32)) ((p1 &&& (2147483647 : Int32)) % (6 : Int32)))), .val (.ref b293), .val (.int (1 : Int32))] [(.int (4 : Int32)), (.int ((p0 &&& (2147483647 : Int32)) % (6 : Int32)))])) _
      refine XS.icmpYes X306.here hx rfl (pc0 := 89) (pc' := 98) rfl (hb hby at_89) rfl (flt (own_up hc307 (by decide))).2.2.2 (by decide) (by decide) ?_
      show Steps p.tables e below (T306.setTop (mkF m 98 #[.val (.int p0), .val (.int p1), .val (.int p2), .val (.int p3), .val (.int ((p0 &&& (2147483647 : Int32)) % (6 : Int32))), .val (.int (j1g_0 ((p0 &&& (2147483647 : Int32)) % (6 : Int32)) ((p1 &&& (2147483647 : Int32)) % (6 : Int32)))), .val (.ref b293), .val (.int (1 : Int32))] [])) _
      refine XS.iload X306.here hx rfl (hb hby at_98) rfl ?_
      show Steps p.tables e below (T306.setTop (mkF m 100 #[.val (.int p0), .val (.int p1), .val (.int p2), .val (.int p3), .val (.int ((p0 &&& (2147483647 : Int32)) % (6 : Int32))), .val (.int (j1g_0 ((p0 &&& (2147483647 : Int32)) % (6 : Int32)) ((p1 &&& (2147483647 : Int32)) % (6 : Int32)))), .val (.ref b293), .val (.int (1 : Int32))] [(.int (j1g_0 ((p0 &&& (2147483647 : Int32)) % (6 : Int32)) ((p1 &&& (2147483647 : Int32)) % (6 : Int32))))])) _
      refine XS.ifYes X306.here hx rfl (pc0 := 100) (pc' := 109) rfl (hb hby at_100) rfl ((if0 _ _).trans (flt (own_mn (own_up hc307 (by decide)))).2.2.2) (by decide) (by decide) ?_
      show Steps p.tables e below (T306.setTop (mkF m 109 #[.val (.int p0), .val (.int p1), .val (.int p2), .val (.int p3), .val (.int ((p0 &&& (2147483647 : Int32)) % (6 : Int32))), .val (.int (j1g_0 ((p0 &&& (2147483647 : Int32)) % (6 : Int32)) ((p1 &&& (2147483647 : Int32)) % (6 : Int32)))), .val (.ref b293), .val (.int (1 : Int32))] [])) _
      refine XS.iload X306.here hx rfl (hb hby at_109) rfl ?_
      show Steps p.tables e below (T306.setTop (mkF m 111 #[.val (.int p0), .val (.int p1), .val (.int p2), .val (.int p3), .val (.int ((p0 &&& (2147483647 : Int32)) % (6 : Int32))), .val (.int (j1g_0 ((p0 &&& (2147483647 : Int32)) % (6 : Int32)) ((p1 &&& (2147483647 : Int32)) % (6 : Int32)))), .val (.ref b293), .val (.int (1 : Int32))] [(.int (j1g_0 ((p0 &&& (2147483647 : Int32)) % (6 : Int32)) ((p1 &&& (2147483647 : Int32)) % (6 : Int32))))])) _
      refine XS.iconst X306.here hx rfl (hb hby at_111) ?_
      show Steps p.tables e below (T306.setTop (mkF m 112 #[.val (.int p0), .val (.int p1), .val (.int p2), .val (.int p3), .val (.int ((p0 &&& (2147483647 : Int32)) % (6 : Int32))), .val (.int (j1g_0 ((p0 &&& (2147483647 : Int32)) % (6 : Int32)) ((p1 &&& (2147483647 : Int32)) % (6 : Int32)))), .val (.ref b293), .val (.int (1 : Int32))] [(.int (1 : Int32)), (.int (j1g_0 ((p0 &&& (2147483647 : Int32)) % (6 : Int32)) ((p1 &&& (2147483647 : Int32)) % (6 : Int32))))])) _
      refine XS.icmpYes X306.here hx rfl (pc0 := 112) (pc' := 121) rfl (hb hby at_112) rfl (flt (own_mn (own_up hc307 (by decide)))).2.2.2 (by decide) (by decide) ?_
      show Steps p.tables e below (T306.setTop (mkF m 121 #[.val (.int p0), .val (.int p1), .val (.int p2), .val (.int p3), .val (.int ((p0 &&& (2147483647 : Int32)) % (6 : Int32))), .val (.int (j1g_0 ((p0 &&& (2147483647 : Int32)) % (6 : Int32)) ((p1 &&& (2147483647 : Int32)) % (6 : Int32)))), .val (.ref b293), .val (.int (1 : Int32))] [])) _
      refine XS.iload X306.here hx rfl (hb hby at_121) rfl ?_
      show Steps p.tables e below (T306.setTop (mkF m 123 #[.val (.int p0), .val (.int p1), .val (.int p2), .val (.int p3), .val (.int ((p0 &&& (2147483647 : Int32)) % (6 : Int32))), .val (.int (j1g_0 ((p0 &&& (2147483647 : Int32)) % (6 : Int32)) ((p1 &&& (2147483647 : Int32)) % (6 : Int32)))), .val (.ref b293), .val (.int (1 : Int32))] [(.int (j1g_0 ((p0 &&& (2147483647 : Int32)) % (6 : Int32)) ((p1 &&& (2147483647 : Int32)) % (6 : Int32))))])) _
      refine XS.iconst X306.here hx rfl (hb hby at_123) ?_
      show Steps p.tables e below (T306.setTop (mkF m 124 #[.val (.int p0), .val (.int p1), .val (.int p2), .val (.int p3), .val (.int ((p0 &&& (2147483647 : Int32)) % (6 : Int32))), .val (.int (j1g_0 ((p0 &&& (2147483647 : Int32)) % (6 : Int32)) ((p1 &&& (2147483647 : Int32)) % (6 : Int32)))), .val (.ref b293), .val (.int (1 : Int32))] [(.int (2 : Int32)), (.int (j1g_0 ((p0 &&& (2147483647 : Int32)) % (6 : Int32)) ((p1 &&& (2147483647 : Int32)) % (6 : Int32))))])) _
      refine XS.icmpYes X306.here hx rfl (pc0 := 124) (pc' := 133) rfl (hb hby at_124) rfl (flt (own_mn (own_up hc307 (by decide)))).2.2.2 (by decide) (by decide) ?_
      show Steps p.tables e below (T306.setTop (mkF m 133 #[.val (.int p0), .val (.int p1), .val (.int p2), .val (.int p3), .val (.int ((p0 &&& (2147483647 : Int32)) % (6 : Int32))), .val (.int (j1g_0 ((p0 &&& (2147483647 : Int32)) % (6 : Int32)) ((p1 &&& (2147483647 : Int32)) % (6 : Int32)))), .val (.ref b293), .val (.int (1 : Int32))] [])) _
      refine XS.iload X306.here hx rfl (hb hby at_133) rfl ?_
      show Steps p.tables e below (T306.setTop (mkF m 135 #[.val (.int p0), .val (.int p1), .val (.int p2), .val (.int p3), .val (.int ((p0 &&& (2147483647 : Int32)) % (6 : Int32))), .val (.int (j1g_0 ((p0 &&& (2147483647 : Int32)) % (6 : Int32)) ((p1 &&& (2147483647 : Int32)) % (6 : Int32)))), .val (.ref b293), .val (.int (1 : Int32))] [(.int (j1g_0 ((p0 &&& (2147483647 : Int32)) % (6 : Int32)) ((p1 &&& (2147483647 : Int32)) % (6 : Int32))))])) _
      refine XS.iconst X306.here hx rfl (hb hby at_135) ?_
      show Steps p.tables e below (T306.setTop (mkF m 136 #[.val (.int p0), .val (.int p1), .val (.int p2), .val (.int p3), .val (.int ((p0 &&& (2147483647 : Int32)) % (6 : Int32))), .val (.int (j1g_0 ((p0 &&& (2147483647 : Int32)) % (6 : Int32)) ((p1 &&& (2147483647 : Int32)) % (6 : Int32)))), .val (.ref b293), .val (.int (1 : Int32))] [(.int (3 : Int32)), (.int (j1g_0 ((p0 &&& (2147483647 : Int32)) % (6 : Int32)) ((p1 &&& (2147483647 : Int32)) % (6 : Int32))))])) _
      refine XS.icmpYes X306.here hx rfl (pc0 := 136) (pc' := 145) rfl (hb hby at_136) rfl (flt (own_mn (own_up hc307 (by decide)))).2.2.2 (by decide) (by decide) ?_
      show Steps p.tables e below (T306.setTop (mkF m 145 #[.val (.int p0), .val (.int p1), .val (.int p2), .val (.int p3), .val (.int ((p0 &&& (2147483647 : Int32)) % (6 : Int32))), .val (.int (j1g_0 ((p0 &&& (2147483647 : Int32)) % (6 : Int32)) ((p1 &&& (2147483647 : Int32)) % (6 : Int32)))), .val (.ref b293), .val (.int (1 : Int32))] [])) _
      refine XS.iload X306.here hx rfl (hb hby at_145) rfl ?_
      show Steps p.tables e below (T306.setTop (mkF m 147 #[.val (.int p0), .val (.int p1), .val (.int p2), .val (.int p3), .val (.int ((p0 &&& (2147483647 : Int32)) % (6 : Int32))), .val (.int (j1g_0 ((p0 &&& (2147483647 : Int32)) % (6 : Int32)) ((p1 &&& (2147483647 : Int32)) % (6 : Int32)))), .val (.ref b293), .val (.int (1 : Int32))] [(.int (j1g_0 ((p0 &&& (2147483647 : Int32)) % (6 : Int32)) ((p1 &&& (2147483647 : Int32)) % (6 : Int32))))])) _
      refine XS.iconst X306.here hx rfl (hb hby at_147) ?_
      show Steps p.tables e below (T306.setTop (mkF m 148 #[.val (.int p0), .val (.int p1), .val (.int p2), .val (.int p3), .val (.int ((p0 &&& (2147483647 : Int32)) % (6 : Int32))), .val (.int (j1g_0 ((p0 &&& (2147483647 : Int32)) % (6 : Int32)) ((p1 &&& (2147483647 : Int32)) % (6 : Int32)))), .val (.ref b293), .val (.int (1 : Int32))] [(.int (4 : Int32)), (.int (j1g_0 ((p0 &&& (2147483647 : Int32)) % (6 : Int32)) ((p1 &&& (2147483647 : Int32)) % (6 : Int32))))])) _
      refine XS.icmpYes X306.here hx rfl (pc0 := 148) (pc' := 157) rfl (hb hby at_148) rfl (flt (own_mn (own_up hc307 (by decide)))).2.2.2 (by decide) (by decide) ?_
      show Steps p.tables e below (T306.setTop (mkF m 157 #[.val (.int p0), .val (.int p1), .val (.int p2), .val (.int p3), .val (.int ((p0 &&& (2147483647 : Int32)) % (6 : Int32))), .val (.int (j1g_0 ((p0 &&& (2147483647 : Int32)) % (6 : Int32)) ((p1 &&& (2147483647 : Int32)) % (6 : Int32)))), .val (.ref b293), .val (.int (1 : Int32))] [])) _
      refine XS.iload X306.here hx rfl (hb hby at_157) rfl ?_
      show Steps p.tables e below (T306.setTop (mkF m 159 #[.val (.int p0), .val (.int p1), .val (.int p2), .val (.int p3), .val (.int ((p0 &&& (2147483647 : Int32)) % (6 : Int32))), .val (.int (j1g_0 ((p0 &&& (2147483647 : Int32)) % (6 : Int32)) ((p1 &&& (2147483647 : Int32)) % (6 : Int32)))), .val (.ref b293), .val (.int (1 : Int32))] [(.int (1 : Int32))])) _
      refine XS.ifNo X306.here hx rfl (hb hby at_159) rfl ((if0 _ _).trans (feq (by decide : ¬ ((1 : Int32) = (0 : Int32)))).1) ?_
      show Steps p.tables e below (T306.setTop (mkF m 162 #[.val (.int p0), .val (.int p1), .val (.int p2), .val (.int p3), .val (.int ((p0 &&& (2147483647 : Int32)) % (6 : Int32))), .val (.int (j1g_0 ((p0 &&& (2147483647 : Int32)) % (6 : Int32)) ((p1 &&& (2147483647 : Int32)) % (6 : Int32)))), .val (.ref b293), .val (.int (1 : Int32))] [])) _
      refine XS.aload X306.here hx rfl (hb hby at_162) rfl rfl ?_
      show Steps p.tables e below (T306.setTop (mkF m 164 #[.val (.int p0), .val (.int p1), .val (.int p2), .val (.int p3), .val (.int ((p0 &&& (2147483647 : Int32)) % (6 : Int32))), .val (.int (j1g_0 ((p0 &&& (2147483647 : Int32)) % (6 : Int32)) ((p1 &&& (2147483647 : Int32)) % (6 : Int32)))), .val (.ref b293), .val (.int (1 : Int32))] [(.ref b293)])) _
      refine st719.trans ?_
      show Steps p.tables e below (T719.setTop (mkF m 167 #[.val (.int p0), .val (.int p1), .val (.int p2), .val (.int p3), .val (.int ((p0 &&& (2147483647 : Int32)) % (6 : Int32))), .val (.int (j1g_0 ((p0 &&& (2147483647 : Int32)) % (6 : Int32)) ((p1 &&& (2147483647 : Int32)) % (6 : Int32)))), .val (.ref b293), .val (.int (1 : Int32))] [(.int (1 : Int32))])) _
      refine XS.iload X719.here hx rfl (hb hby at_167) rfl ?_
      show Steps p.tables e below (T719.setTop (mkF m 169 #[.val (.int p0), .val (.int p1), .val (.int p2), .val (.int p3), .val (.int ((p0 &&& (2147483647 : Int32)) % (6 : Int32))), .val (.int (j1g_0 ((p0 &&& (2147483647 : Int32)) % (6 : Int32)) ((p1 &&& (2147483647 : Int32)) % (6 : Int32)))), .val (.ref b293), .val (.int (1 : Int32))] [(.int ((p0 &&& (2147483647 : Int32)) % (6 : Int32))), (.int (1 : Int32))])) _
      refine XS.iload X719.here hx rfl (hb hby at_169) rfl ?_
      exact k)
    have pre721 := fun (t : State) (k : Steps p.tables e below (T719.setTop (mkF m 179 #[.val (.int p0), .val (.int p1), .val (.int p2), .val (.int p3), .val (.int ((p0 &&& (2147483647 : Int32)) % (6 : Int32))), .val (.int (j1g_0 ((p0 &&& (2147483647 : Int32)) % (6 : Int32)) ((p1 &&& (2147483647 : Int32)) % (6 : Int32)))), .val (.ref b293), .val (.int (1 : Int32))] [(.int (j0_0 p0 p1)), (.int (1 : Int32))])) t) => pre720 t (by
      by_cases hc722 : ((p0 &&& (2147483647 : Int32)) % (6 : Int32)) = (j1g_0 ((p0 &&& (2147483647 : Int32)) % (6 : Int32)) ((p1 &&& (2147483647 : Int32)) % (6 : Int32)))
      · skip
        show Steps p.tables e below (T719.setTop (mkF m 171 #[.val (.int p0), .val (.int p1), .val (.int p2), .val (.int p3), .val (.int ((p0 &&& (2147483647 : Int32)) % (6 : Int32))), .val (.int (j1g_0 ((p0 &&& (2147483647 : Int32)) % (6 : Int32)) ((p1 &&& (2147483647 : Int32)) % (6 : Int32)))), .val (.ref b293), .val (.int (1 : Int32))] [(.int (j1g_0 ((p0 &&& (2147483647 : Int32)) % (6 : Int32)) ((p1 &&& (2147483647 : Int32)) % (6 : Int32)))), (.int ((p0 &&& (2147483647 : Int32)) % (6 : Int32))), (.int (1 : Int32))])) _
        refine XS.icmpNo X719.here hx rfl (hb hby at_171) rfl (teq hc722).2 ?_
        show Steps p.tables e below (T719.setTop (mkF m 174 #[.val (.int p0), .val (.int p1), .val (.int p2), .val (.int p3), .val (.int ((p0 &&& (2147483647 : Int32)) % (6 : Int32))), .val (.int (j1g_0 ((p0 &&& (2147483647 : Int32)) % (6 : Int32)) ((p1 &&& (2147483647 : Int32)) % (6 : Int32)))), .val (.ref b293), .val (.int (1 : Int32))] [(.int (1 : Int32))])) _
        refine XS.iconst X719.here hx rfl (hb hby at_174) ?_
        show Steps p.tables e below (T719.setTop (mkF m 175 #[.val (.int p0), .val (.int p1), .val (.int p2), .val (.int p3), .val (.int ((p0 &&& (2147483647 : Int32)) % (6 : Int32))), .val (.int (j1g_0 ((p0 &&& (2147483647 : Int32)) % (6 : Int32)) ((p1 &&& (2147483647 : Int32)) % (6 : Int32)))), .val (.ref b293), .val (.int (1 : Int32))] [(.int (1 : Int32)), (.int (1 : Int32))])) _
        refine XS.goto X719.here hx rfl (pc0 := 175) (pc' := 179) rfl (hb hby at_175) (by decide) (by decide) ?_
        have hj723 : (j0_0 p0 p1) = (1 : Int32) := by unfold j0_0; first | (rw [if_pos hc722]) | (simp only [if_pos hc722])
        rw [hj723] at k
        exact k
      · skip
        show Steps p.tables e below (T719.setTop (mkF m 171 #[.val (.int p0), .val (.int p1), .val (.int p2), .val (.int p3), .val (.int ((p0 &&& (2147483647 : Int32)) % (6 : Int32))), .val (.int (j1g_0 ((p0 &&& (2147483647 : Int32)) % (6 : Int32)) ((p1 &&& (2147483647 : Int32)) % (6 : Int32)))), .val (.ref b293), .val (.int (1 : Int32))] [(.int (j1g_0 ((p0 &&& (2147483647 : Int32)) % (6 : Int32)) ((p1 &&& (2147483647 : Int32)) % (6 : Int32)))), (.int ((p0 &&& (2147483647 : Int32)) % (6 : Int32))), (.int (1 : Int32))])) _
        refine XS.icmpYes X719.here hx rfl (pc0 := 171) (pc' := 178) rfl (hb hby at_171) rfl (feq hc722).2 (by decide) (by decide) ?_
        show Steps p.tables e below (T719.setTop (mkF m 178 #[.val (.int p0), .val (.int p1), .val (.int p2), .val (.int p3), .val (.int ((p0 &&& (2147483647 : Int32)) % (6 : Int32))), .val (.int (j1g_0 ((p0 &&& (2147483647 : Int32)) % (6 : Int32)) ((p1 &&& (2147483647 : Int32)) % (6 : Int32)))), .val (.ref b293), .val (.int (1 : Int32))] [(.int (1 : Int32))])) _
        refine XS.iconst X719.here hx rfl (hb hby at_178) ?_
        have hj724 : (j0_0 p0 p1) = (0 : Int32) := by unfold j0_0; first | (rw [if_neg hc722]) | (simp only [if_neg hc722])
        rw [hj724] at k
        exact k)
    have pre725 := fun (t : State) (k : Steps p.tables e below (T719.setTop (mkF m 187 #[.val (.int p0), .val (.int p1), .val (.int p2), .val (.int p3), .val (.int ((p0 &&& (2147483647 : Int32)) % (6 : Int32))), .val (.int (j1g_0 ((p0 &&& (2147483647 : Int32)) % (6 : Int32)) ((p1 &&& (2147483647 : Int32)) % (6 : Int32)))), .val (.ref b293), .val (.int (1 : Int32))] [(.int (j0_1 p0 p1))])) t) => pre721 t (by
      by_cases hc726 : (1 : Int32) = (j0_0 p0 p1)
      · skip
        show Steps p.tables e below (T719.setTop (mkF m 179 #[.val (.int p0), .val (.int p1), .val (.int p2), .val (.int p3), .val (.int ((p0 &&& (2147483647 : Int32)) % (6 : Int32))), .val (.int (j1g_0 ((p0 &&& (2147483647 : Int32)) % (6 : Int32)) ((p1 &&& (2147483647 : Int32)) % (6 : Int32)))), .val (.ref b293), .val (.int (1 : Int32))] [(.int (j0_0 p0 p1)), (.int (1 : Int32))])) _
        refine XS.icmpNo X719.here hx rfl (hb hby at_179) rfl (teq hc726).2 ?_
        show Steps p.tables e below (T719.setTop (mkF m 182 #[.val (.int p0), .val (.int p1), .val (.int p2), .val (.int p3), .val (.int ((p0 &&& (2147483647 : Int32)) % (6 : Int32))), .val (.int (j1g_0 ((p0 &&& (2147483647 : Int32)) % (6 : Int32)) ((p1 &&& (2147483647 : Int32)) % (6 : Int32)))), .val (.ref b293), .val (.int (1 : Int32))] [])) _
        refine XS.iconst X719.here hx rfl (hb hby at_182) ?_
        show Steps p.tables e below (T719.setTop (mkF m 183 #[.val (.int p0), .val (.int p1), .val (.int p2), .val (.int p3), .val (.int ((p0 &&& (2147483647 : Int32)) % (6 : Int32))), .val (.int (j1g_0 ((p0 &&& (2147483647 : Int32)) % (6 : Int32)) ((p1 &&& (2147483647 : Int32)) % (6 : Int32)))), .val (.ref b293), .val (.int (1 : Int32))] [(.int (1 : Int32))])) _
        refine XS.goto X719.here hx rfl (pc0 := 183) (pc' := 187) rfl (hb hby at_183) (by decide) (by decide) ?_
        have hj727 : (j0_1 p0 p1) = (1 : Int32) := by unfold j0_1; first | (rw [if_pos hc726]) | (simp only [if_pos hc726])
        rw [hj727] at k
        exact k
      · skip
        show Steps p.tables e below (T719.setTop (mkF m 179 #[.val (.int p0), .val (.int p1), .val (.int p2), .val (.int p3), .val (.int ((p0 &&& (2147483647 : Int32)) % (6 : Int32))), .val (.int (j1g_0 ((p0 &&& (2147483647 : Int32)) % (6 : Int32)) ((p1 &&& (2147483647 : Int32)) % (6 : Int32)))), .val (.ref b293), .val (.int (1 : Int32))] [(.int (j0_0 p0 p1)), (.int (1 : Int32))])) _
        refine XS.icmpYes X719.here hx rfl (pc0 := 179) (pc' := 186) rfl (hb hby at_179) rfl (feq hc726).2 (by decide) (by decide) ?_
        show Steps p.tables e below (T719.setTop (mkF m 186 #[.val (.int p0), .val (.int p1), .val (.int p2), .val (.int p3), .val (.int ((p0 &&& (2147483647 : Int32)) % (6 : Int32))), .val (.int (j1g_0 ((p0 &&& (2147483647 : Int32)) % (6 : Int32)) ((p1 &&& (2147483647 : Int32)) % (6 : Int32)))), .val (.ref b293), .val (.int (1 : Int32))] [])) _
        refine XS.iconst X719.here hx rfl (hb hby at_186) ?_
        have hj728 : (j0_1 p0 p1) = (0 : Int32) := by unfold j0_1; first | (rw [if_neg hc726]) | (simp only [if_neg hc726])
        rw [hj728] at k
        exact k)
    obtain ⟨fs, hr, hrun, hended, hW, hsame⟩ := X719.leave (v := some (.int (nar .boolean (j0_1 p0 p1)))) (fun h => by rw [Bd.returns] at h; cases h)
    refine ⟨_, _, pre725 _ ?_, hrun, hended, _, _, rfl, ?_, ⟨_, rfl⟩, hW, hsame.mono (by decide) (by decide)⟩
    · skip
      show Steps p.tables e below (T719.setTop (mkF m 187 #[.val (.int p0), .val (.int p1), .val (.int p2), .val (.int p3), .val (.int ((p0 &&& (2147483647 : Int32)) % (6 : Int32))), .val (.int (j1g_0 ((p0 &&& (2147483647 : Int32)) % (6 : Int32)) ((p1 &&& (2147483647 : Int32)) % (6 : Int32)))), .val (.ref b293), .val (.int (1 : Int32))] [(.int (j0_1 p0 p1))])) _
      exact retN X719 hx (t := .boolean) Bd.returns (by simp) (hb hby at_187) hr
    · show Q0 Z p0 p1 p2 p3 h0 n0 _ T719.heap _
      rw [e719]
      have hv : (nar .boolean (j0_1 p0 p1)) = (v0 p0 p1) := by unfold v0; first | (rw [if_neg hc307]) | (simp only [if_neg hc307])
      exact ⟨(by rw [← hv]), N719⟩
theorem own_six (p : Int32) : 0 ≤ ((p &&& (2147483647 : Int32)) % (6 : Int32)).toInt ∧ ((p &&& (2147483647 : Int32)) % (6 : Int32)).toInt ≤ 5 := by
  have e : (p &&& (2147483647 : Int32)).toInt = p.toInt % 2 ^ 31 := Jvm.Kit.i32_mask p 2147483647 (k := 31) (by decide) (by decide)
  rw [Jvm.Kit.i32_rem_nonneg (by omega), e, show (6 : Int32).toInt = 6 from rfl]; omega
theorem own_mr (a b : Int32) (h1 : 0 ≤ a.toInt) (h2 : 0 ≤ b.toInt) : 0 ≤ (j1g_0 a b).toInt ∧ (j1g_0 a b).toInt ≤ a.toInt := by
  unfold j1g_0; split
  · rename_i h; rw [Int32.lt_iff_toInt_lt] at h; omega
  · omega
theorem own_05 (n : Int32) (a1 : 0 ≤ n.toInt) (a2 : n.toInt ≤ 5) : n = 0 ∨ n = 1 ∨ n = 2 ∨ n = 3 ∨ n = 4 ∨ n = 5 := by
  have h : n.toInt = (0 : Int32).toInt ∨ n.toInt = (1 : Int32).toInt ∨ n.toInt = (2 : Int32).toInt ∨ n.toInt = (3 : Int32).toInt ∨ n.toInt = (4 : Int32).toInt ∨ n.toInt = (5 : Int32).toInt := by
    simp only [Int32.reduceToInt]; omega
  simpa only [Int32.toInt_inj] using h
theorem law_one (p0 p1 : Int32) : (v0 p0 p1) = 1 := by
  obtain ⟨a1, a2⟩ := own_six p0
  obtain ⟨b1, -⟩ := own_six p1
  obtain ⟨c1, c2⟩ := own_mr _ _ a1 b1
  unfold v0 j0_1 j0_2 j0_0
  generalize j1g_0 ((p0 &&& (2147483647 : Int32)) % (6 : Int32)) ((p1 &&& (2147483647 : Int32)) % (6 : Int32)) = m at *
  generalize (p0 &&& (2147483647 : Int32)) % (6 : Int32) = n at *
  have hn : n = 0 ∨ n = 1 ∨ n = 2 ∨ n = 3 ∨ n = 4 ∨ n = 5 := own_05 n a1 a2
  have hm : m = 0 ∨ m = 1 ∨ m = 2 ∨ m = 3 ∨ m = 4 ∨ m = 5 := own_05 m c1 (by omega)
  clear a1 a2 b1 c1
  rcases hn with rfl | rfl | rfl | rfl | rfl | rfl <;> rcases hm with rfl | rfl | rfl | rfl | rfl | rfl <;> first | decide | (exfalso; revert c2; decide)
set_option maxRecDepth 65536 in
set_option maxHeartbeats 40000000 in
theorem comes_1 {Post : Tables → Env → Array Value → State → Outcome → State → Prop} (hpost : ∀ tb e args s v u, (limb_1_1.after args s (.returned v) u = true ∧ limb_1_2.after args s (.returned v) u = true ∧ True) → FrameEnd s (.returned v) u (Jvm.fieldLocs frame_1_writes args s ++ Jvm.arrayLocs frame_1_arrays args s ++ Jvm.staticLocs frame_1_statics s) 16 128 → Post tb e args s (.returned v) u) :
    ArmFor flags0 classFile x code maxLocals ret World_1 tables_1 room_1 Calls_1 rest_1 Pre_1 Post := by
  intro l hfl _ _ p e ha hc hk s m args below hf hA hF happ hP
  obtain ⟨hcalls, hrest, hpre⟩ := hP
  obtain ⟨-, -, -, hnamed, -, -, -, hat⟩ := (Spec.applies_iff hf).mp happ
  obtain ⟨hg, hn⟩ := and_e (Cond.before_iff.mp (show (Jvm.Cond.and given_1 narrow_1).before args s = true from hpre))
  obtain ⟨hcount, r0⟩ := and_e hg
  obtain ⟨k0, r1⟩ := and_e r0
  obtain ⟨k1, r2⟩ := and_e r1
  obtain ⟨k2, r3⟩ := and_e r2
  have k3 := r3
  obtain ⟨w0, w1, w2, w3, rfl⟩ : ∃ w0 w1 w2 w3 : Value, args = #[w0, w1, w2, w3] := by
    have hs : args.size = 4 := by simpa [Cond.value, given_1] using hcount
    obtain ⟨L⟩ := args
    match L, hs with
    | [w0, w1, w2, w3], _ => exact ⟨w0, w1, w2, w3, rfl⟩
  have hw := fun d (hd : d ∈ tables_1) => atoms_spec (ws := Jvm.Cond.code x code maxLocals ret :: tables_1) hat d (List.mem_cons_of_mem _ hd)
  obtain ⟨i0, ei0⟩ := is_v k0
  obtain rfl : w0 = (.int i0) := Option.some.inj ei0
  obtain ⟨i1, ei1⟩ := is_v k1
  obtain rfl : w1 = (.int i1) := Option.some.inj ei1
  obtain ⟨i2, ei2⟩ := is_v k2
  obtain rfl : w2 = (.int i2) := Option.some.inj ei2
  obtain ⟨i3, ei3⟩ := is_v k3
  obtain rfl : w3 = (.int i3) := Option.some.inj ei3
  obtain ⟨n, o, h1, h2, h3, v, L, rfl, ⟨hv, N⟩, hq⟩ := rm0 l s _ hw tables_1 i0 i1 i2 i3 s.heap s.heap.size (Nat.le_refl _) p e ha hc hk s m _ below hf ((Spec.applies_iff_loose hf).mp happ).1 ⟨rfl, State.Warmed39.refl s, rfl⟩ trivial
  rw [law_one i0 i1] at hv
  subst hv
  refine ⟨n, _, h1, h2, h3, hpost _ _ _ _ _ _ ⟨Cond.after_iff.mpr rfl, Cond.after_iff.mpr (eq_i res_at (Term.int_eval (1)) rfl), trivial⟩ ⟨hq.1, hq.2.1, (hq.2.2.sift fun y hy => Or.inr (N y hy)).mono (by decide) (by decide)⟩⟩
theorem main_1_1 : Claimed_1_1 := comes_1 fun _ _ _ _ _ _ h hF => ⟨h.1, hF⟩
theorem main_1_2 : Claimed_1_2 := comes_1 fun _ _ _ _ _ _ h hF => ⟨h.2.1, hF⟩
end Jvm.Pilot.@@N@@
namespace Jvm.Pilot.@@N@@
open Jvm Jvm.ClassFile Sem Op Lib Jvm.Free Jvm.Stand Jvm.Pilot.@@N@@.Jvm.D
/-! MADE BY PROGRAM (witnessworld.py) out of the Statement's table words and the real class files: 12 classes; the members and pool entries that the words name. The judged class is class 1, her method 1. -/
namespace start1
open Jvm.ClassFile
def u (s : String) : CpInfo := .utf8 (stringToUtf16 s)
/-- a pool by its gaps: so many unusable entries, then the entry; so many at the end -/
def gap : Nat → List CpInfo → List CpInfo
  | 0, r => r
  | n + 1, r => .unusable :: gap n r
def poolList (es : List (Nat × CpInfo)) (last : Nat) : List CpInfo := es.foldr (fun e r => gap e.1 (e.2 :: r)) (gap last [])
def pool (es : List (Nat × CpInfo)) (last : Nat) : Array CpInfo := ⟨poolList es last⟩
def fileOf (pool : Array CpInfo) (this : Nat) (attrs : Array Attribute := #[]) (ms : Array MethodInfo := #[]) (fl : Nat := 33) (sup : Nat := 0) (ifs : Array Nat := #[]) (fds : Array FieldInfo := #[]) : ClassFile where
  minorVersion := 0
  majorVersion := 65
  constantPool := pool
  accessFlags := fl
  thisClass := this
  superClass := sup
  interfaces := ifs
  fields := fds
  methods := ms
  attributes := attrs
def plain (name : String) (sup : Option ClassId) : Class where
  name := name
  kind := .ordinary
  loader := none
  accessFlags := 33
  super := sup
  interfaces := #[]
  cf := none
  fields := #[]
  methods := #[]
  instanceTypes := #[]
  staticTypes := #[]
  resolved := #[]
  callSites := []
  init := .initialized
  statics := none
  mirror := none

def pool0 : Array CpInfo := pool [(5, u "<init>"), (0, u "()V"), (1, .class_ 10), (1, u "java/lang/Object")] 113

def k0c0 : Code := { maxStack := 0, maxLocals := 1, code := object_method_1_code, exceptionTable := #[], attributes := #[] }
def k0m0 : Method := { name := "<init>", desc := "()V", sig := { parameters := [], returnType := none }, accessFlags := 1, code := some k0c0 }
/-- java/lang/Object -/
def k0 : Class := { plain "java/lang/Object" none with
  accessFlags := 33
  interfaces := #[]
  cf := some (fileOf pool0 8 #[] #[{ accessFlags := 1, nameIndex := 5, descriptorIndex := 6, attributes := #[] }] 33 0 #[] #[])
  fields := #[]
  methods := #[k0m0]
  instanceTypes := #[]
  staticTypes := #[]
  resolved := Array.replicate 124 none
  statics := none }

def pool1 : Array CpInfo := pool [(2, .class_ 4), (0, .nameAndType 5 6), (0, u "java/lang/Object"), (0, u "<init>"), (0, u "()V"), (0, .integer 2147483647), (0, .methodref 9 10), (0, .class_ 11), (0, .nameAndType 12 13), (0, u "java/lang/Math"), (0, u "min"), (0, u "(II)I"), (0, .class_ 15), (0, u "com/example/subsumer/subsumer/classification/IntList"), (0, .methodref 14 3), (0, .methodref 14 18), (0, .nameAndType 19 20), (0, u "isEmpty"), (0, u "()Z"), (0, .methodref 14 22), (0, .nameAndType 23 24), (0, u "add"), (0, u "(I)V"), (0, .methodref 14 26), (0, .nameAndType 27 28), (0, u "pop"), (0, u "()I"), (0, .class_ 30), (0, u "com/example/subsumer/subsumer/classification/IntListIsEmptyPinLaw"), (2, u "law"), (0, u "(IIII)Z")] 3

def k1m0 : Method := { name := "<init>", desc := "()V", sig := { parameters := [], returnType := none }, accessFlags := 1, code := none }
def k1c1 : Code := { maxStack := 3, maxLocals := 8, code := code, exceptionTable := #[], attributes := #[] }
def k1m1 : Method := { name := "law", desc := "(IIII)Z", sig := { parameters := [.int, .int, .int, .int], returnType := some .boolean }, accessFlags := 9, code := some k1c1 }
/-- com/example/subsumer/subsumer/classification/IntListIsEmptyPinLaw -/
def k1 : Class := { plain "com/example/subsumer/subsumer/classification/IntListIsEmptyPinLaw" (some 0) with
  accessFlags := 49
  interfaces := #[]
  cf := some (fileOf pool1 29 #[] #[{ accessFlags := 1, nameIndex := 5, descriptorIndex := 6, attributes := #[] }, { accessFlags := 9, nameIndex := 33, descriptorIndex := 34, attributes := #[] }] 49 2 #[] #[])
  fields := #[]
  methods := #[k1m0, k1m1]
  instanceTypes := #[]
  staticTypes := #[]
  resolved := Array.replicate 38 none
  statics := none }

def pool2 : Array CpInfo := pool [(1, .class_ 2), (0, u "java/lang/Math"), (1, .class_ 6), (1, u "java/lang/Object"), (0, u "<init>"), (0, u "()V"), (89, .class_ 100), (1, u "java/lang/Math$RandomNumberGeneratorHolder"), (71, u "negativeZeroFloatBits"), (0, u "J"), (2, u "negativeZeroDoubleBits"), (24, u "min"), (43, u "$assertionsDisabled"), (0, u "Z"), (88, u "(II)I"), (2, u "twoToTheDoubleScaleDown"), (0, u "D"), (4, u "twoToTheDoubleScaleUp"), (9, u "E"), (3, u "PI"), (2, u "TAU"), (2, u "DEGREES_TO_RADIANS"), (0, u "RADIANS_TO_DEGREES")] 94

def k2m0 : Method := { name := "<init>", desc := "()V", sig := { parameters := [], returnType := none }, accessFlags := 2, code := none }
def k2c1 : Code := { maxStack := 2, maxLocals := 2, code := jdk_29_method_69_code, exceptionTable := #[], attributes := #[] }
def k2m1 : Method := { name := "min", desc := "(II)I", sig := { parameters := [.int, .int], returnType := some .int }, accessFlags := 9, code := some k2c1 }
/-- java/lang/Math -/
def k2 : Class := { plain "java/lang/Math" (some 0) with
  accessFlags := 49
  interfaces := #[]
  cf := some (fileOf pool2 1 #[.nestMembers #[98]] #[{ accessFlags := 2, nameIndex := 7, descriptorIndex := 8, attributes := #[] }, { accessFlags := 9, nameIndex := 201, descriptorIndex := 335, attributes := #[] }] 49 4 #[] #[{ accessFlags := 25, nameIndex := 354, descriptorIndex := 339, attributes := #[] }, { accessFlags := 25, nameIndex := 358, descriptorIndex := 339, attributes := #[] }, { accessFlags := 25, nameIndex := 361, descriptorIndex := 339, attributes := #[] }, { accessFlags := 26, nameIndex := 364, descriptorIndex := 339, attributes := #[] }, { accessFlags := 26, nameIndex := 365, descriptorIndex := 339, attributes := #[] }, { accessFlags := 26, nameIndex := 172, descriptorIndex := 173, attributes := #[] }, { accessFlags := 26, nameIndex := 176, descriptorIndex := 173, attributes := #[] }, { accessFlags := 8, nameIndex := 344, descriptorIndex := 339, attributes := #[] }, { accessFlags := 8, nameIndex := 338, descriptorIndex := 339, attributes := #[] }, { accessFlags := 4120, nameIndex := 245, descriptorIndex := 246, attributes := #[] }])
  fields := #[{ name := "E", type := .double, accessFlags := 25, slot := 0, constantValue := 0 }, { name := "PI", type := .double, accessFlags := 25, slot := 1, constantValue := 0 }, { name := "TAU", type := .double, accessFlags := 25, slot := 2, constantValue := 0 }, { name := "DEGREES_TO_RADIANS", type := .double, accessFlags := 26, slot := 3, constantValue := 0 }, { name := "RADIANS_TO_DEGREES", type := .double, accessFlags := 26, slot := 4, constantValue := 0 }, { name := "negativeZeroFloatBits", type := .long, accessFlags := 26, slot := 5, constantValue := 0 }, { name := "negativeZeroDoubleBits", type := .long, accessFlags := 26, slot := 6, constantValue := 0 }, { name := "twoToTheDoubleScaleUp", type := .double, accessFlags := 8, slot := 7, constantValue := 0 }, { name := "twoToTheDoubleScaleDown", type := .double, accessFlags := 8, slot := 8, constantValue := 0 }, { name := "$assertionsDisabled", type := .boolean, accessFlags := 4120, slot := 9, constantValue := 0 }]
  methods := #[k2m0, k2m1]
  instanceTypes := #[]
  staticTypes := #[.double, .double, .double, .double, .double, .long, .long, .double, .double, .boolean]
  resolved := Array.replicate 460 none
  statics := none }

def pool3 : Array CpInfo := pool [(1, .methodref 2 3), (0, .class_ 4), (0, .nameAndType 5 6), (0, u "java/lang/Object"), (0, u "<init>"), (0, u "()V"), (0, .fieldref 8 9), (0, .class_ 10), (0, .nameAndType 11 12), (0, u "com/example/subsumer/subsumer/classification/IntList"), (0, u "items"), (0, u "[I"), (0, .fieldref 8 14), (0, .nameAndType 15 16), (0, u "size"), (0, u "I"), (0, .methodref 18 19), (0, .class_ 20), (0, .nameAndType 21 22), (0, u "java/util/Arrays"), (0, u "copyOf"), (0, u "([II)[I"), (2, u "add"), (0, u "(I)V"), (3, u "NONE"), (0, u "Lcom/example/subsumer/subsumer/classification/IntList;"), (6, u "()I"), (0, u "isEmpty"), (0, u "()Z"), (0, u "pop")] 7

def k3c0 : Code := { maxStack := 2, maxLocals := 1, code := prog_2_method_1_code, exceptionTable := #[], attributes := #[] }
def k3m0 : Method := { name := "<init>", desc := "()V", sig := { parameters := [], returnType := none }, accessFlags := 0, code := some k3c0 }
def k3c1 : Code := { maxStack := 5, maxLocals := 2, code := prog_2_method_2_code, exceptionTable := #[], attributes := #[] }
def k3m1 : Method := { name := "add", desc := "(I)V", sig := { parameters := [.int], returnType := none }, accessFlags := 0, code := some k3c1 }
def k3c2 : Code := { maxStack := 1, maxLocals := 1, code := prog_2_method_6_code, exceptionTable := #[], attributes := #[] }
def k3m2 : Method := { name := "isEmpty", desc := "()Z", sig := { parameters := [], returnType := some .boolean }, accessFlags := 0, code := some k3c2 }
def k3c3 : Code := { maxStack := 4, maxLocals := 1, code := prog_2_method_7_code, exceptionTable := #[], attributes := #[] }
def k3m3 : Method := { name := "pop", desc := "()I", sig := { parameters := [], returnType := some .int }, accessFlags := 0, code := some k3c3 }
/-- com/example/subsumer/subsumer/classification/IntList -/
def k3 : Class := { plain "com/example/subsumer/subsumer/classification/IntList" (some 0) with
  accessFlags := 48
  interfaces := #[]
  cf := some (fileOf pool3 8 #[] #[{ accessFlags := 0, nameIndex := 5, descriptorIndex := 6, attributes := #[] }, { accessFlags := 0, nameIndex := 25, descriptorIndex := 26, attributes := #[] }, { accessFlags := 0, nameIndex := 39, descriptorIndex := 40, attributes := #[] }, { accessFlags := 0, nameIndex := 41, descriptorIndex := 38, attributes := #[] }] 48 2 #[] #[{ accessFlags := 26, nameIndex := 30, descriptorIndex := 31, attributes := #[] }, { accessFlags := 2, nameIndex := 11, descriptorIndex := 12, attributes := #[] }, { accessFlags := 2, nameIndex := 15, descriptorIndex := 16, attributes := #[] }])
  fields := #[{ name := "NONE", type := (.object "com/example/subsumer/subsumer/classification/IntList"), accessFlags := 26, slot := 0, constantValue := 0 }, { name := "items", type := (.array .int), accessFlags := 2, slot := 0, constantValue := 0 }, { name := "size", type := .int, accessFlags := 2, slot := 1, constantValue := 0 }]
  methods := #[k3m0, k3m1, k3m2, k3m3]
  instanceTypes := #[(.array .int), .int]
  staticTypes := #[(.object "com/example/subsumer/subsumer/classification/IntList")]
  resolved := Array.replicate 49 none
  statics := none }

def pool4 : Array CpInfo := pool [(2, .class_ 4), (1, u "java/lang/Object"), (0, u "<init>"), (0, u "()V"), (7, .class_ 16), (1, u "java/util/Arrays"), (57, .class_ 76), (1, u "java/util/Arrays$NaturalOrder"), (36, .class_ 115), (1, u "java/util/Arrays$LegacyMergeSort"), (1, u "Z"), (32, .methodref 151 152), (0, .class_ 153), (0, .nameAndType 154 155), (0, u "java/lang/System"), (0, u "arraycopy"), (0, u "(Ljava/lang/Object;ILjava/lang/Object;II)V"), (146, u "copyOf"), (1, .methodref 305 306), (0, .class_ 307), (0, .nameAndType 308 309), (0, u "java/lang/Math"), (0, u "min"), (0, u "(II)I"), (65, .class_ 376), (0, u "java/util/Arrays$ArrayList"), (68, u "$assertionsDisabled"), (269, u "MIN_ARRAY_SORT_GRAN"), (0, u "I"), (2, u "INSERTIONSORT_THRESHOLD"), (151, u "([II)[I"), (103, .class_ 976), (0, u "java/util/Arrays$ArrayItr")] 52

def k4m0 : Method := { name := "<init>", desc := "()V", sig := { parameters := [], returnType := none }, accessFlags := 2, code := none }
def k4c1 : Code := { maxStack := 6, maxLocals := 3, code := jdk_65_method_123_code, exceptionTable := #[], attributes := #[] }
def k4m1 : Method := { name := "copyOf", desc := "([II)[I", sig := { parameters := [(.array .int), .int], returnType := some (.array .int) }, accessFlags := 9, code := some k4c1 }
/-- java/util/Arrays -/
def k4 : Class := { plain "java/util/Arrays" (some 0) with
  accessFlags := 49
  interfaces := #[]
  cf := some (fileOf pool4 14 #[.nestMembers #[975, 375, 113, 74]] #[{ accessFlags := 2, nameIndex := 5, descriptorIndex := 6, attributes := #[] }, { accessFlags := 9, nameIndex := 302, descriptorIndex := 871, attributes := #[] }] 49 2 #[] #[{ accessFlags := 26, nameIndex := 715, descriptorIndex := 716, attributes := #[] }, { accessFlags := 26, nameIndex := 719, descriptorIndex := 716, attributes := #[] }, { accessFlags := 4120, nameIndex := 445, descriptorIndex := 117, attributes := #[] }])
  fields := #[{ name := "MIN_ARRAY_SORT_GRAN", type := .int, accessFlags := 26, slot := 0, constantValue := 0 }, { name := "INSERTIONSORT_THRESHOLD", type := .int, accessFlags := 26, slot := 1, constantValue := 0 }, { name := "$assertionsDisabled", type := .boolean, accessFlags := 4120, slot := 2, constantValue := 0 }]
  methods := #[k4m0, k4m1]
  instanceTypes := #[]
  staticTypes := #[.int, .int, .boolean]
  resolved := Array.replicate 1029 none
  statics := none }

def pool5 : Array CpInfo := pool [(2, .class_ 4), (1, u "java/lang/Object"), (0, u "<init>"), (0, u "()V"), (1, .class_ 10), (1, u "java/lang/System"), (0, u "allowSecurityManager"), (0, u "I"), (16, u "cons"), (0, u "Ljava/io/Console;"), (77, .class_ 110), (1, u "java/lang/System$CallersHolder"), (43, u "initialErrStream"), (0, u "Ljava/io/PrintStream;"), (19, u "security"), (0, u "Ljava/lang/SecurityManager;"), (31, .class_ 209), (0, u "java/lang/System$1"), (7, u "props"), (0, u "Ljava/util/Properties;"), (2, u "lineSeparator"), (0, u "Ljava/lang/String;"), (96, .class_ 321), (1, u "java/lang/System$LoggerFinder"), (5, .class_ 328), (0, u "java/lang/System$Logger"), (67, u "err"), (2, u "out"), (91, u "notSupportedJnuEncoding"), (15, u "in"), (17, u "initialIn"), (0, u "Ljava/io/InputStream;"), (35, u "bootLayer"), (0, u "Ljava/lang/ModuleLayer;"), (99, .class_ 664), (0, u "java/lang/System$2"), (9, u "NEVER"), (2, u "MAYBE"), (49, u "arraycopy"), (0, u "(Ljava/lang/Object;ILjava/lang/Object;II)V"), (72, .class_ 802), (0, u "java/lang/System$Logger$Level")] 31

def k5m0 : Method := { name := "<init>", desc := "()V", sig := { parameters := [], returnType := none }, accessFlags := 2, code := none }
def k5m1 : Method := { name := "arraycopy", desc := "(Ljava/lang/Object;ILjava/lang/Object;II)V", sig := { parameters := [(.object "java/lang/Object"), .int, (.object "java/lang/Object"), .int, .int], returnType := none }, accessFlags := 265, code := none }
/-- java/lang/System -/
def k5 : Class := { plain "java/lang/System" (some 0) with
  accessFlags := 49
  interfaces := #[]
  cf := some (fileOf pool5 8 #[.nestMembers #[319, 327, 801, 108, 663, 208]] #[{ accessFlags := 2, nameIndex := 5, descriptorIndex := 6, attributes := #[] }, { accessFlags := 265, nameIndex := 727, descriptorIndex := 728, attributes := #[] }] 49 2 #[] #[{ accessFlags := 25, nameIndex := 507, descriptorIndex := 526, attributes := #[] }, { accessFlags := 25, nameIndex := 399, descriptorIndex := 155, attributes := #[] }, { accessFlags := 25, nameIndex := 396, descriptorIndex := 155, attributes := #[] }, { accessFlags := 10, nameIndex := 525, descriptorIndex := 526, attributes := #[] }, { accessFlags := 26, nameIndex := 674, descriptorIndex := 12, attributes := #[] }, { accessFlags := 26, nameIndex := 677, descriptorIndex := 12, attributes := #[] }, { accessFlags := 10, nameIndex := 11, descriptorIndex := 12, attributes := #[] }, { accessFlags := 74, nameIndex := 175, descriptorIndex := 176, attributes := #[] }, { accessFlags := 10, nameIndex := 491, descriptorIndex := 222, attributes := #[] }, { accessFlags := 74, nameIndex := 29, descriptorIndex := 30, attributes := #[] }, { accessFlags := 74, nameIndex := 154, descriptorIndex := 155, attributes := #[] }, { accessFlags := 10, nameIndex := 217, descriptorIndex := 218, attributes := #[] }, { accessFlags := 10, nameIndex := 221, descriptorIndex := 222, attributes := #[] }, { accessFlags := 8, nameIndex := 562, descriptorIndex := 563, attributes := #[] }])
  fields := #[{ name := "in", type := (.object "java/io/InputStream"), accessFlags := 25, slot := 0, constantValue := 0 }, { name := "out", type := (.object "java/io/PrintStream"), accessFlags := 25, slot := 1, constantValue := 0 }, { name := "err", type := (.object "java/io/PrintStream"), accessFlags := 25, slot := 2, constantValue := 0 }, { name := "initialIn", type := (.object "java/io/InputStream"), accessFlags := 10, slot := 3, constantValue := 0 }, { name := "NEVER", type := .int, accessFlags := 26, slot := 4, constantValue := 0 }, { name := "MAYBE", type := .int, accessFlags := 26, slot := 5, constantValue := 0 }, { name := "allowSecurityManager", type := .int, accessFlags := 10, slot := 6, constantValue := 0 }, { name := "security", type := (.object "java/lang/SecurityManager"), accessFlags := 74, slot := 7, constantValue := 0 }, { name := "notSupportedJnuEncoding", type := (.object "java/lang/String"), accessFlags := 10, slot := 8, constantValue := 0 }, { name := "cons", type := (.object "java/io/Console"), accessFlags := 74, slot := 9, constantValue := 0 }, { name := "initialErrStream", type := (.object "java/io/PrintStream"), accessFlags := 74, slot := 10, constantValue := 0 }, { name := "props", type := (.object "java/util/Properties"), accessFlags := 10, slot := 11, constantValue := 0 }, { name := "lineSeparator", type := (.object "java/lang/String"), accessFlags := 10, slot := 12, constantValue := 0 }, { name := "bootLayer", type := (.object "java/lang/ModuleLayer"), accessFlags := 8, slot := 13, constantValue := 0 }]
  methods := #[k5m0, k5m1]
  instanceTypes := #[]
  staticTypes := #[(.object "java/io/InputStream"), (.object "java/io/PrintStream"), (.object "java/io/PrintStream"), (.object "java/io/InputStream"), .int, .int, .int, (.object "java/lang/SecurityManager"), (.object "java/lang/String"), (.object "java/io/Console"), (.object "java/io/PrintStream"), (.object "java/util/Properties"), (.object "java/lang/String"), (.object "java/lang/ModuleLayer")]
  resolved := Array.replicate 834 none
  statics := none }

def pool6 : Array CpInfo := pool [(1, u "java/lang/Cloneable"), (0, .class_ 1), (0, u "java/lang/Object"), (0, .class_ 3)] 3

/-- java/lang/Cloneable -/
def k6 : Class := { plain "java/lang/Cloneable" (some 0) with
  accessFlags := 1537
  interfaces := #[]
  cf := some (fileOf pool6 2 #[] #[] 1537 4 #[] #[])
  fields := #[]
  methods := #[]
  instanceTypes := #[]
  staticTypes := #[]
  resolved := Array.replicate 8 none
  statics := none }

def pool7 : Array CpInfo := pool [(1, u "java/io/Serializable"), (0, .class_ 1), (0, u "java/lang/Object"), (0, .class_ 3)] 3

/-- java/io/Serializable -/
def k7 : Class := { plain "java/io/Serializable" (some 0) with
  accessFlags := 1537
  interfaces := #[]
  cf := some (fileOf pool7 2 #[] #[] 1537 4 #[] #[])
  fields := #[]
  methods := #[]
  instanceTypes := #[]
  staticTypes := #[]
  resolved := Array.replicate 8 none
  statics := none }

/-- the primitive byte -/
def k8 : Class := { plain "byte" none with kind := .primitive 'B', accessFlags := 0x411 }
/-- [B -/
def k9 : Class := { plain "[B" (some 0) with kind := .array 8 .byte, interfaces := #[6, 7], accessFlags := 1041 }

/-- the primitive int -/
def k10 : Class := { plain "int" none with kind := .primitive 'I', accessFlags := 0x411 }
/-- [I -/
def k11 : Class := { plain "[I" (some 0) with kind := .array 10 .int, interfaces := #[6, 7], accessFlags := 1041 }

def heap : Heap := #[]
def classes : Array Class := #[k0, k1, k2, k3, k4, k5, k6, k7, k8, k9, k10, k11]
def interned : List (Array UInt16 × Addr) := []
def slotsUsed : Nat := 0
def theMethod : MethodId := ⟨1, 1⟩
def args0 : Array Value := #[.int 5, .int 5, .int 5, .int 5]
def aboutOver (below : List Frame) : State where
  vm := { classes := classes, interned := interned.toArray }
  heap := heap
  slotsUsed := slotsUsed
  threads := #[{ frames := .invoking theMethod args0 :: below }]
def below0 : List Frame := [.native { method := ⟨0, 0⟩, args := #[] }]
def about1 : State := aboutOver below0
def p0 : Program := .bare "" "" ""
def e0 : Env := launch0.env 0 0 0
theorem w_frames : about1.frames = Frame.invoking theMethod args0 :: below0 := rfl
set_option maxRecDepth 65536 in
theorem w_args : argsFit about1.vm theMethod args0 = true := by decide +kernel
set_option maxRecDepth 65536 in
theorem w_heap : heapFits about1 = true := by decide +kernel
set_option maxRecDepth 65536 in
theorem w_runnable : about1.curStatus? = some .runnable := by decide +kernel
set_option maxRecDepth 65536 in
theorem w_alone : about1.alone = true := by decide +kernel
set_option maxRecDepth 65536 in
theorem w_named : about1.methodNamed? x = some theMethod := by decide +kernel
set_option maxRecDepth 65536 in
theorem w_hears : about1.hears theMethod below0 = true := by decide +kernel
set_option maxRecDepth 65536 in
theorem w_ripe : about1.ripe theMethod args0 below0 = true := by decide +kernel
theorem w_running : about1.status = .running := rfl
set_option maxRecDepth 65536 in
theorem w_room : about1.hasRoom e0.platform room_1 = true :=
  launch0.hasRoom_least _ room_1 (by decide +kernel) (by decide +kernel) (by decide +kernel) (by decide +kernel) (by decide +kernel) (by decide +kernel)
theorem allAtoms_all (ts : List Jvm.Cond) (a : Array Jvm.Value) (st : Jvm.State) : (allAtoms ts).before a st = ts.all (fun c => c.before a st) := by
  induction ts with
  | nil => rfl
  | cons c t ih =>
    show (Jvm.Cond.and c (allAtoms t)).before a st = _
    rw [Jvm.Cond.before_and, ih, List.all_cons]
def words1 : List Jvm.Cond := Jvm.Cond.code x code maxLocals ret :: tables_1
/-- a 'code' word, met by the world's own term for the bytes: nothing is compared byte by byte -/
theorem code_word {y : MethodName} {bytes : ByteArray} {mx : Nat} {rt : Option FieldType} {a : Array Value} {s : State} {m : MethodId} {meth : Method} {c : Code} (h1 : s.methodNamed? y = some m) (h2 : s.vm.method? m = some meth) (h3 : meth.code = some c) (h4 : c.code = bytes)
    (h5 : (c.maxLocals == mx && c.exceptionTable.isEmpty && decide (c.maxStack ≤ mostOperands) && decide (meth.sig.returnType = rt) && !meth.locks && decide (parseMethodDescriptor y.desc = some meth.sig)) = true) : (Jvm.Cond.code y bytes mx rt).before a s = true := by
  simp only [Bool.and_eq_true, beq_iff_eq, Bool.not_eq_true', decide_eq_true_eq] at h5
  obtain ⟨⟨⟨⟨⟨g1, g2⟩, g3⟩, g4⟩, g5⟩, g6⟩ := h5
  simp [Cond.before, Cond.holds, Cond.value, h1, h2, h3, h4, g1, g2, g3, g4, g5, g6]
def isCode : Jvm.Cond → Bool
  | .code _ _ _ _ => true
  | _ => false
theorem all_split {L : List Jvm.Cond} {P : Jvm.Cond → Bool} (h1 : L.all (fun c => isCode c || P c) = true) (h2 : ∀ c ∈ L.filter isCode, P c = true) : L.all P = true := by
  refine List.all_eq_true.mpr fun c hc => ?_
  have h := List.all_eq_true.mp h1 c hc
  rcases Bool.eq_false_or_eq_true (isCode c) with hi | hi
  · exact h2 c (List.mem_filter.mpr ⟨hc, hi⟩)
  · simpa [hi] using h
set_option maxRecDepth 65536 in
theorem w_c0 : (Jvm.Cond.code x code maxLocals ret).before args0 about1 = true := code_word (m := ⟨1, 1⟩) (meth := k1m1) (c := k1c1) (by decide +kernel) rfl rfl rfl (by decide +kernel)
set_option maxRecDepth 65536 in
theorem w_c1 : (Jvm.Cond.code ({ cls := "java/lang/Math", name := "min", desc := "(II)I" } : Jvm.MethodName) jdk_29_method_69_code (2 : Nat) (Option.some Jvm.ClassFile.FieldType.int)).before args0 about1 = true := code_word (m := ⟨2, 1⟩) (meth := k2m1) (c := k2c1) (by decide +kernel) rfl rfl rfl (by decide +kernel)
set_option maxRecDepth 65536 in
theorem w_c2 : (Jvm.Cond.code ({ cls := "com/example/subsumer/subsumer/classification/IntList", name := "<init>", desc := "()V" } : Jvm.MethodName) prog_2_method_1_code (1 : Nat) (Option.none : Option Jvm.ClassFile.FieldType)).before args0 about1 = true := code_word (m := ⟨3, 0⟩) (meth := k3m0) (c := k3c0) (by decide +kernel) rfl rfl rfl (by decide +kernel)
set_option maxRecDepth 65536 in
theorem w_c3 : (Jvm.Cond.code ({ cls := "java/lang/Object", name := "<init>", desc := "()V" } : Jvm.MethodName) object_method_1_code (1 : Nat) (Option.none : Option Jvm.ClassFile.FieldType)).before args0 about1 = true := code_word (m := ⟨0, 0⟩) (meth := k0m0) (c := k0c0) (by decide +kernel) rfl rfl rfl (by decide +kernel)
set_option maxRecDepth 65536 in
theorem w_c4 : (Jvm.Cond.code ({ cls := "com/example/subsumer/subsumer/classification/IntList", name := "isEmpty", desc := "()Z" } : Jvm.MethodName) prog_2_method_6_code (1 : Nat) (Option.some Jvm.ClassFile.FieldType.boolean)).before args0 about1 = true := code_word (m := ⟨3, 2⟩) (meth := k3m2) (c := k3c2) (by decide +kernel) rfl rfl rfl (by decide +kernel)
set_option maxRecDepth 65536 in
theorem w_c5 : (Jvm.Cond.code ({ cls := "com/example/subsumer/subsumer/classification/IntList", name := "add", desc := "(I)V" } : Jvm.MethodName) prog_2_method_2_code (2 : Nat) (Option.none : Option Jvm.ClassFile.FieldType)).before args0 about1 = true := code_word (m := ⟨3, 1⟩) (meth := k3m1) (c := k3c1) (by decide +kernel) rfl rfl rfl (by decide +kernel)
set_option maxRecDepth 65536 in
theorem w_c6 : (Jvm.Cond.code ({ cls := "com/example/subsumer/subsumer/classification/IntList", name := "pop", desc := "()I" } : Jvm.MethodName) prog_2_method_7_code (1 : Nat) (Option.some Jvm.ClassFile.FieldType.int)).before args0 about1 = true := code_word (m := ⟨3, 3⟩) (meth := k3m3) (c := k3c3) (by decide +kernel) rfl rfl rfl (by decide +kernel)
set_option maxRecDepth 65536 in
theorem w_c7 : (Jvm.Cond.code ({ cls := "java/util/Arrays", name := "copyOf", desc := "([II)[I" } : Jvm.MethodName) jdk_65_method_123_code (3 : Nat) (Option.some (Jvm.ClassFile.FieldType.array Jvm.ClassFile.FieldType.int))).before args0 about1 = true := code_word (m := ⟨4, 1⟩) (meth := k4m1) (c := k4c1) (by decide +kernel) rfl rfl rfl (by decide +kernel)
def codes1 : List Jvm.Cond := [Jvm.Cond.code x code maxLocals ret, Jvm.Cond.code ({ cls := "java/lang/Math", name := "min", desc := "(II)I" } : Jvm.MethodName) jdk_29_method_69_code (2 : Nat) (Option.some Jvm.ClassFile.FieldType.int), Jvm.Cond.code ({ cls := "com/example/subsumer/subsumer/classification/IntList", name := "<init>", desc := "()V" } : Jvm.MethodName) prog_2_method_1_code (1 : Nat) (Option.none : Option Jvm.ClassFile.FieldType), Jvm.Cond.code ({ cls := "java/lang/Object", name := "<init>", desc := "()V" } : Jvm.MethodName) object_method_1_code (1 : Nat) (Option.none : Option Jvm.ClassFile.FieldType), Jvm.Cond.code ({ cls := "com/example/subsumer/subsumer/classification/IntList", name := "isEmpty", desc := "()Z" } : Jvm.MethodName) prog_2_method_6_code (1 : Nat) (Option.some Jvm.ClassFile.FieldType.boolean), Jvm.Cond.code ({ cls := "com/example/subsumer/subsumer/classification/IntList", name := "add", desc := "(I)V" } : Jvm.MethodName) prog_2_method_2_code (2 : Nat) (Option.none : Option Jvm.ClassFile.FieldType), Jvm.Cond.code ({ cls := "com/example/subsumer/subsumer/classification/IntList", name := "pop", desc := "()I" } : Jvm.MethodName) prog_2_method_7_code (1 : Nat) (Option.some Jvm.ClassFile.FieldType.int), Jvm.Cond.code ({ cls := "java/util/Arrays", name := "copyOf", desc := "([II)[I" } : Jvm.MethodName) jdk_65_method_123_code (3 : Nat) (Option.some (Jvm.ClassFile.FieldType.array Jvm.ClassFile.FieldType.int))]
set_option maxRecDepth 65536 in
theorem codes_eq : words1.filter isCode = codes1 := rfl
theorem w_codes : ∀ c ∈ words1.filter isCode, c.before args0 about1 = true := by
  rw [codes_eq]
  intro c hc
  simp only [codes1, List.mem_cons, List.not_mem_nil, or_false] at hc
  rcases hc with rfl | rfl | rfl | rfl | rfl | rfl | rfl | rfl
  · exact w_c0
  · exact w_c1
  · exact w_c2
  · exact w_c3
  · exact w_c4
  · exact w_c5
  · exact w_c6
  · exact w_c7
set_option maxRecDepth 65536 in
theorem w_t1 : (words1.take 24).all (fun c => isCode c || c.before args0 about1) = true := by decide +kernel
set_option maxRecDepth 65536 in
theorem w_t2 : (words1.drop 24).all (fun c => isCode c || c.before args0 about1) = true := by decide +kernel
theorem w_tables : (allAtoms (Jvm.Cond.code x code maxLocals ret :: tables_1)).before args0 about1 = true := by
  rw [allAtoms_all]
  show words1.all (fun c => c.before args0 about1) = true
  refine all_split ?_ w_codes
  rw [← List.take_append_drop 24 words1, List.all_append, w_t1, w_t2]
  rfl
set_option maxRecDepth 65536 in
theorem w_case : (Jvm.Cond.and given_1 narrow_1).before args0 about1 = true := by decide +kernel
theorem w_applies : (headSpec (Jvm.Cond.code x code maxLocals ret :: tables_1) room_1).applies x e0.platform about1 = true :=
  (Spec.applies_iff w_frames).mpr ⟨w_running, w_runnable, w_alone, w_named, w_hears, w_ripe, w_room, w_tables⟩
theorem atStart : AtStart classFile x code maxLocals ret World_1 tables_1 room_1 Calls_1 rest_1 Pre_1 launch0 p0 e0 about1 theMethod args0 below0 :=
  ⟨lists_1, trivial, launch0.admits_env _ _ _, launch0.least_env, fairChoices_fair.cas, fairChoices_fair.clock, w_frames, w_args, w_heap, w_applies, trivial, trivial, w_case⟩
end start1
theorem witness_1 : WitnessClaimed_1 := ⟨start1.p0, start1.e0, start1.about1, start1.theMethod, start1.args0, start1.below0, start1.atStart⟩
end Jvm.Pilot.@@N@@
