import JvmDerived
import JvmDerived.Pilot.@@N@@Statement
import JvmDerived.Pilot.@@N@@Code
set_option linter.unusedVariables false
set_option linter.unusedSimpArgs false
@@BLOCK:NumsL.lean.txt@@
namespace Jvm.Pilot.@@N@@
open Jvm Jvm.ClassFile Sem Op Lib Jvm.Free Jvm.Stand Jvm.LawKit Jvm.RoadKit Bundle Jvm.Pilot.@@N@@.Jvm.D
theorem own_m {Z : State} {aw : Array Value} (hw : ∀ d ∈ tables_1, d.before aw Z = true) (i : Nat) {d : Jvm.Cond} (h : tables_1[i]? = some d) : d.before aw Z = true := hw d (List.mem_of_getElem? h)
theorem own_tnc (x : Int32) : x.toNatClampNeg = x.toInt.toNat := rfl
theorem own_lc (x y : Int64) : lcmpW x y = if x > y then 1 else if x = y then 0 else -1 := rfl
theorem own_lt (x y : Int64) : lcmpW x y < 0 ↔ x < y := by
  rw [own_lc]; split
  · rename_i h; exact ⟨fun q => absurd q (by decide), fun q => absurd h (Int64.lt_asymm q)⟩
  · split
    · rename_i h1 h2; subst h2; exact ⟨fun q => absurd q (by decide), fun q => absurd q Int64.lt_irrefl⟩
    · rename_i h1 h2; exact ⟨fun _ => (Int64.lt_or_lt_of_ne h2).resolve_right h1, fun _ => by decide⟩
theorem own_gt (x y : Int64) : 0 < lcmpW x y ↔ y < x := by
  rw [own_lc]; split
  · rename_i h; exact ⟨fun _ => h, fun _ => by decide⟩
  · split
    · rename_i h1 h2; exact ⟨fun q => absurd q (by decide), fun q => absurd q h1⟩
    · rename_i h1 h2; exact ⟨fun q => absurd q (by decide), fun q => absurd q h1⟩
theorem own_eq (x y : Int64) : lcmpW x y = 0 ↔ x = y := by
  rw [own_lc]; split
  · rename_i h; exact ⟨fun q => absurd q (by decide), fun q => absurd (q ▸ h) Int64.lt_irrefl⟩
  · split
    · rename_i h1 h2; exact ⟨fun _ => h2, fun _ => rfl⟩
    · rename_i h1 h2; exact ⟨fun q => absurd q (by decide), fun q => absurd q h2⟩
theorem d2_0 : decode jdk_30_method_1_code 0 = .ok (.aload_n 0, 1) := by decide +kernel
theorem d2_1 : decode jdk_30_method_1_code 1 = .ok (.invokespecial 1, 3) := by decide +kernel
theorem d2_4 : decode jdk_30_method_1_code 4 = .ok (.return_, 1) := by decide +kernel
theorem pn_1 : plainName "java/lang/Record" = true := by first | (simp [plainName, overriddenIn]; done) | decide +kernel
theorem ef2 (m : MethodId) (x0 : Addr) : entryFrame m #[(.ref x0)] 1 = mkF m 0 #[.val (.ref x0)] [] := by first | (simp [entryFrame, mkF, argsToLocals, Value.category]; done) | rfl
abbrev rr2 : Room := { frames := 1, cells := 0, slots := 0, locals := 12 }
def Q2 (Z : State) (a0 : Addr) (h0 : Heap) (n0 : Nat) (v : Option Value) (h : Heap) (L : List Loc) : Prop := v = none ∧ Fr n0 L ∧ h = h0
set_option maxRecDepth 65536 in
set_option maxHeartbeats 40000000 in
theorem rm2 (l : Launch) (Z : State) (aw : Array Value) (hw : ∀ d ∈ tables_1, d.before aw Z = true) (ws : List Jvm.Cond) (a0 : Addr) (h0 : Heap) (n0 : Nat) (Z0 : n0 ≤ h0.size)  :
    MetFree l (⟨"java/lang/Record", "<init>", "()V"⟩ : MethodName) (head1 (Jvm.Cond.code (⟨"java/lang/Record", "<init>", "()V"⟩ : MethodName) jdk_30_method_1_code 1 none :: ws) rr2) (fun a U => a = #[(.ref a0)] ∧ Z.Warmed39 U.vm ∧ U.heap = h0) (fun _ _ _ _ _ => True) (fun _ U o U' => ∃ v L, o = .returned v ∧ Q2 Z a0 h0 n0 v U'.heap L ∧ FrameEnd U o U' L rr2.cells rr2.slots) := by
  refine MetFree.of_bodySF (plainFor_of_name pn_1) hisR ?_
  intro p e s m args below meth c s₁ Bd hml0 hP hK
  obtain ⟨rfl, hZ, hh⟩ := hP
  have hx := Bd.exec
  have hby := Bd.bytes
  have hml : c.maxLocals = 1 := hml0
  have hown : s.vm.findClass "java/lang/Record" = some m.cls := findClass_of_methodNamed Bd.named
  have hnm := (name_of_methodNamed Bd.named Bd.method).1
  have X0 : Stand p l e rr2 s m #[(.ref a0)] below meth c s₁ [] 0 0 := Stand.of_body Bd
  have e0 : s₁.heap = h0 := by rw [← hh, Bd.state]; rfl
  have N0 := Fr.nil n0
  have pre0 : ∀ t, Steps p.tables e below (s₁.setTop (mkF m 0 #[.val (.ref a0)] [])) t → Steps p.tables e below (s₁.setTop (entryFrame m #[(.ref a0)] 1)) t := fun t k => castTop (ef2 m a0) k
  obtain ⟨T1, X1, e1, st1⟩ := initO X0 hx hZ hown (hw _ (List.mem_of_getElem? (i := 12) rfl)) (hw _ (List.mem_of_getElem? (i := 13) rfl)) (hw _ (List.mem_of_getElem? (i := 14) rfl)) e0 (g := (mkF m 1 #[.val (.ref a0)] [(.ref a0)])) rfl (by rw [hml]; rfl) rfl (hb hby d2_1) (by decide) (W := 0) (by show 2 * 0 + _ ≤ _; exact Nat.le_of_eq rfl) (by decide)
  obtain ⟨fs, hr, hrun, hended, hW, hsame⟩ := X1.leave (v := none) (fun _ => rfl)
  refine ⟨_, _, pre0 _ ?_, hrun, hended, _, _, rfl, ?_, ⟨_, rfl⟩, hW, hsame.mono (by decide) (by decide)⟩
  · skip
    show Steps p.tables e below (s₁.setTop (mkF m 0 #[.val (.ref a0)] [])) _
    refine XS.aloadN X0.here hx rfl (hb hby d2_0) rfl rfl ?_
    show Steps p.tables e below (s₁.setTop (mkF m 1 #[.val (.ref a0)] [(.ref a0)])) _
    refine st1 _ ?_
    show Steps p.tables e below (T1.setTop (mkF m 4 #[.val (.ref a0)] [])) _
    exact X1.returnOut hx Bd.returns (hb hby d2_4) hr
  · show Q2 Z a0 h0 n0 _ T1.heap _
    rw [e1]
    exact ⟨rfl, N0, rfl⟩
theorem d1_0 : decode prog_63_method_1_code 0 = .ok (.aload_n 0, 1) := by decide +kernel
theorem pd_1 : parseMethodDescriptor "()V" = some ⟨[], none⟩ := by decide +kernel
theorem d1_1 : decode prog_63_method_1_code 1 = .ok (.invokespecial 1, 3) := by decide +kernel
theorem d1_4 : decode prog_63_method_1_code 4 = .ok (.aload_n 0, 1) := by decide +kernel
theorem d1_5 : decode prog_63_method_1_code 5 = .ok (.iload_n 1, 1) := by decide +kernel
theorem d1_6 : decode prog_63_method_1_code 6 = .ok (.putfield 7, 3) := by decide +kernel
theorem d1_9 : decode prog_63_method_1_code 9 = .ok (.aload_n 0, 1) := by decide +kernel
theorem d1_10 : decode prog_63_method_1_code 10 = .ok (.iload_n 2, 1) := by decide +kernel
theorem d1_11 : decode prog_63_method_1_code 11 = .ok (.putfield 13, 3) := by decide +kernel
theorem d1_14 : decode prog_63_method_1_code 14 = .ok (.aload_n 0, 1) := by decide +kernel
theorem d1_15 : decode prog_63_method_1_code 15 = .ok (.iload_n 3, 1) := by decide +kernel
theorem d1_16 : decode prog_63_method_1_code 16 = .ok (.putfield 16, 3) := by decide +kernel
theorem d1_19 : decode prog_63_method_1_code 19 = .ok (.aload_n 0, 1) := by decide +kernel
theorem d1_20 : decode prog_63_method_1_code 20 = .ok (.aload 4, 2) := by decide +kernel
theorem d1_22 : decode prog_63_method_1_code 22 = .ok (.putfield 19, 3) := by decide +kernel
theorem d1_25 : decode prog_63_method_1_code 25 = .ok (.aload_n 0, 1) := by decide +kernel
theorem d1_26 : decode prog_63_method_1_code 26 = .ok (.aload 5, 2) := by decide +kernel
theorem d1_28 : decode prog_63_method_1_code 28 = .ok (.putfield 23, 3) := by decide +kernel
theorem d1_31 : decode prog_63_method_1_code 31 = .ok (.return_, 1) := by decide +kernel
theorem pn_2 : plainName "com/example/rollcall/rollcall/nas/ProtectedNasMessage" = true := by first | (simp [plainName, overriddenIn]; done) | decide +kernel
theorem ef1 (m : MethodId) (x0 : Addr) (x1 : Int32) (x2 : Int32) (x3 : Int32) (x4 : Addr) : entryFrame m #[(.ref x0), (.int x1), (.int x2), (.int x3), (.ref x4), .null] 6 = mkF m 0 #[.val (.ref x0), .val (.int x1), .val (.int x2), .val (.int x3), .val (.ref x4), .val .null] [] := by first | (simp [entryFrame, mkF, argsToLocals, Value.category]; done) | rfl
abbrev rr1 : Room := { frames := 2, cells := 0, slots := 0, locals := 24 }
def Q1 (Z : State) (a0 : Addr) (p1 : Int32) (p2 : Int32) (p3 : Int32) (a4 : Addr) (h0 : Heap) (n0 : Nat) (v : Option Value) (h : Heap) (L : List Loc) : Prop := v = none ∧ Fr n0 L ∧ Keep h0 h [a0] ∧ Exa Z h a0 "com/example/rollcall/rollcall/nas/ProtectedNasMessage" ∧ Fld Z h a0 "com/example/rollcall/rollcall/nas/ProtectedNasMessage" "securityHeaderType" "I" (.int p1)
set_option maxRecDepth 65536 in
set_option maxHeartbeats 40000000 in
theorem rm1 (l : Launch) (Z : State) (aw : Array Value) (hw : ∀ d ∈ tables_1, d.before aw Z = true) (ws : List Jvm.Cond) (a0 : Addr) (p1 : Int32) (p2 : Int32) (p3 : Int32) (a4 : Addr) (h0 : Heap) (n0 : Nat) (Z0 : n0 ≤ h0.size) (E_a0 : Exa Z h0 a0 "com/example/rollcall/rollcall/nas/ProtectedNasMessage") (F_securityHeaderType_a0 : Fld Z h0 a0 "com/example/rollcall/rollcall/nas/ProtectedNasMessage" "securityHeaderType" "I" (.int (0 : Int32))) (F_messageAuthenticationCode_a0 : Fld Z h0 a0 "com/example/rollcall/rollcall/nas/ProtectedNasMessage" "messageAuthenticationCode" "I" (.int (0 : Int32))) (F_sequenceNumber_a0 : Fld Z h0 a0 "com/example/rollcall/rollcall/nas/ProtectedNasMessage" "sequenceNumber" "I" (.int (0 : Int32))) (F_payload_a0 : Fld Z h0 a0 "com/example/rollcall/rollcall/nas/ProtectedNasMessage" "payload" "[B" .null) (F_plain_a0 : Fld Z h0 a0 "com/example/rollcall/rollcall/nas/ProtectedNasMessage" "plain" "Lcom/example/rollcall/rollcall/nas/PlainNasMessage;" .null) (g_a0 : n0 ≤ a0) :
    MetFree l (⟨"com/example/rollcall/rollcall/nas/ProtectedNasMessage", "<init>", "(III[BLcom/example/rollcall/rollcall/nas/PlainNasMessage;)V"⟩ : MethodName) (head1 (Jvm.Cond.code (⟨"com/example/rollcall/rollcall/nas/ProtectedNasMessage", "<init>", "(III[BLcom/example/rollcall/rollcall/nas/PlainNasMessage;)V"⟩ : MethodName) prog_63_method_1_code 6 none :: ws) rr1) (fun a U => a = #[(.ref a0), (.int p1), (.int p2), (.int p3), (.ref a4), .null] ∧ Z.Warmed39 U.vm ∧ U.heap = h0) (fun _ _ _ _ _ => True) (fun _ U o U' => ∃ v L, o = .returned v ∧ Q1 Z a0 p1 p2 p3 a4 h0 n0 v U'.heap L ∧ FrameEnd U o U' L rr1.cells rr1.slots) := by
  refine MetFree.of_bodySF (plainFor_of_name pn_2) hisR ?_
  intro p e s m args below meth c s₁ Bd hml0 hP hK
  obtain ⟨rfl, hZ, hh⟩ := hP
  have hx := Bd.exec
  have hby := Bd.bytes
  have hml : c.maxLocals = 6 := hml0
  have hown : s.vm.findClass "com/example/rollcall/rollcall/nas/ProtectedNasMessage" = some m.cls := findClass_of_methodNamed Bd.named
  have hnm := (name_of_methodNamed Bd.named Bd.method).1
  have X0 : Stand p l e rr1 s m #[(.ref a0), (.int p1), (.int p2), (.int p3), (.ref a4), .null] below meth c s₁ [] 0 0 := Stand.of_body Bd
  have e0 : s₁.heap = h0 := by rw [← hh, Bd.state]; rfl
  have N0 := Fr.nil n0
  have K0 := Keep.refl h0 [a0]
  have pre0 : ∀ t, Steps p.tables e below (s₁.setTop (mkF m 0 #[.val (.ref a0), .val (.int p1), .val (.int p2), .val (.int p3), .val (.ref a4), .val .null] [])) t → Steps p.tables e below (s₁.setTop (entryFrame m #[(.ref a0), (.int p1), (.int p2), (.int p3), (.ref a4), .null] 6)) t := fun t k => castTop (ef1 m a0 p1 p2 p3 a4) k
  obtain ⟨_, _, ⟨T2, L2, k2, n2⟩, -, X2, ⟨Lc2, hQ2, l2, y2, z2⟩, st2⟩ := X0.specialBack hx (y := (⟨"java/lang/Record", "<init>", "()V"⟩ : MethodName)) rfl hown (mvT hZ (hw _ (List.mem_of_getElem? (i := 7) rfl))) (mvT hZ (hw _ (List.mem_of_getElem? (i := 8) rfl))) (mvT hZ (hw _ (List.mem_of_getElem? (i := 11) rfl))) (by decide) (backOf (W := 0) (rm2 l Z aw hw [] a0 h0 n0 Z0 ) hZ (hw _ (List.mem_of_getElem? (i := 11) rfl)) (hw _ (List.mem_of_getElem? (i := 10) rfl)) (by decide) (by decide)) (g := (mkF m 1 #[.val (.ref a0), .val (.int p1), .val (.int p2), .val (.int p3), .val (.ref a4), .val .null] [(.ref a0)])) rfl (by rw [hml]; rfl) (Steps.refl _) (a := a0) (argsL := []) (rest := []) (lenOf pd_1 rfl) rfl (by show 2 * 0 + _ ≤ _; exact Nat.le_of_eq rfl) (hb hby d1_1) (fun _ _ => ⟨rfl, e0, (by decide : 0 + 0 ≤ _), (by decide : 0 + 0 ≤ _)⟩)
  dsimp only [Pt.U, Pt.locs, Pt.cells, Pt.slots] at X2 l2 y2 z2 st2 hQ2
  subst l2 y2 z2
  obtain ⟨rfl, N2q, e2⟩ := hQ2
  have N2 := Fr.app N0 N2q
  obtain ⟨T3, h3, X3, e3, W3, st3⟩ := putF X2 hx hZ hown (host := "") (Or.inl (hw _ (List.mem_of_getElem? (i := 15) rfl))) Via.refl e2 F_securityHeaderType_a0 E_a0 (Or.inr ⟨(hw _ (List.mem_of_getElem? (i := 16) rfl)), rfl, hnm⟩) (hw _ (List.mem_of_getElem? (i := 2) rfl)) (ty := .int) (by decide) rfl rfl (g := (mkF m 6 #[.val (.ref a0), .val (.int p1), .val (.int p2), .val (.int p3), .val (.ref a4), .val .null] [(.int p1), (.ref a0)])) rfl rfl (hb hby d1_6)
  have f3w : Fld Z h3 a0 "com/example/rollcall/rollcall/nas/ProtectedNasMessage" "securityHeaderType" "I" (.int p1) := F_securityHeaderType_a0.same W3
  have f4 := E_a0.wr W3
  have f6 := F_messageAuthenticationCode_a0.other W3 (Or.inr (slot_ne (Or.inr (hw _ (List.mem_of_getElem? (i := 18) rfl))) (Or.inr (hw _ (List.mem_of_getElem? (i := 16) rfl))) (by decide) (t := .int) (t' := .int) (by decide) (by decide)))
  have f7 := F_sequenceNumber_a0.other W3 (Or.inr (slot_ne (Or.inr (hw _ (List.mem_of_getElem? (i := 20) rfl))) (Or.inr (hw _ (List.mem_of_getElem? (i := 16) rfl))) (by decide) (t := .int) (t' := .int) (by decide) (by decide)))
  have f8 := F_payload_a0.other W3 (Or.inr (slot_ne (Or.inr (hw _ (List.mem_of_getElem? (i := 22) rfl))) (Or.inr (hw _ (List.mem_of_getElem? (i := 16) rfl))) (by decide) (t := (.array .byte)) (t' := .int) (by decide) (by decide)))
  have f9 := F_plain_a0.other W3 (Or.inr (slot_ne (Or.inr (hw _ (List.mem_of_getElem? (i := 24) rfl))) (Or.inr (hw _ (List.mem_of_getElem? (i := 16) rfl))) (by decide) (t := (.object "com/example/rollcall/rollcall/nas/PlainNasMessage")) (t' := .int) (by decide) (by decide)))
  have K10 := K0.wr W3 (Or.inl (List.mem_of_getElem? (i := 0) rfl))
  have Z11 := Nat.le_trans Z0 (Keep.of_wr W3).1
  have N12 := Fr.snoc X3 N2 g_a0
  obtain ⟨T13, h13, X13, e13, W13, st13⟩ := putF X3 hx hZ hown (host := "") (Or.inl (hw _ (List.mem_of_getElem? (i := 17) rfl))) Via.refl e3 f6 f4 (Or.inr ⟨(hw _ (List.mem_of_getElem? (i := 18) rfl)), rfl, hnm⟩) (hw _ (List.mem_of_getElem? (i := 2) rfl)) (ty := .int) (by decide) rfl rfl (g := (mkF m 11 #[.val (.ref a0), .val (.int p1), .val (.int p2), .val (.int p3), .val (.ref a4), .val .null] [(.int p2), (.ref a0)])) rfl rfl (hb hby d1_11)
  have f13w : Fld Z h13 a0 "com/example/rollcall/rollcall/nas/ProtectedNasMessage" "messageAuthenticationCode" "I" (.int p2) := f6.same W13
  have f14 := f4.wr W13
  have f15 := f3w.other W13 (Or.inr (slot_ne (Or.inr (hw _ (List.mem_of_getElem? (i := 16) rfl))) (Or.inr (hw _ (List.mem_of_getElem? (i := 18) rfl))) (by decide) (t := .int) (t' := .int) (by decide) (by decide)))
  have f17 := f7.other W13 (Or.inr (slot_ne (Or.inr (hw _ (List.mem_of_getElem? (i := 20) rfl))) (Or.inr (hw _ (List.mem_of_getElem? (i := 18) rfl))) (by decide) (t := .int) (t' := .int) (by decide) (by decide)))
  have f18 := f8.other W13 (Or.inr (slot_ne (Or.inr (hw _ (List.mem_of_getElem? (i := 22) rfl))) (Or.inr (hw _ (List.mem_of_getElem? (i := 18) rfl))) (by decide) (t := (.array .byte)) (t' := .int) (by decide) (by decide)))
  have f19 := f9.other W13 (Or.inr (slot_ne (Or.inr (hw _ (List.mem_of_getElem? (i := 24) rfl))) (Or.inr (hw _ (List.mem_of_getElem? (i := 18) rfl))) (by decide) (t := (.object "com/example/rollcall/rollcall/nas/PlainNasMessage")) (t' := .int) (by decide) (by decide)))
  have K20 := K10.wr W13 (Or.inl (List.mem_of_getElem? (i := 0) rfl))
  have Z21 := Nat.le_trans Z11 (Keep.of_wr W13).1
  have N22 := Fr.snoc X13 N12 g_a0
  obtain ⟨T23, h23, X23, e23, W23, st23⟩ := putF X13 hx hZ hown (host := "") (Or.inl (hw _ (List.mem_of_getElem? (i := 19) rfl))) Via.refl e13 f17 f14 (Or.inr ⟨(hw _ (List.mem_of_getElem? (i := 20) rfl)), rfl, hnm⟩) (hw _ (List.mem_of_getElem? (i := 2) rfl)) (ty := .int) (by decide) rfl rfl (g := (mkF m 16 #[.val (.ref a0), .val (.int p1), .val (.int p2), .val (.int p3), .val (.ref a4), .val .null] [(.int p3), (.ref a0)])) rfl rfl (hb hby d1_16)
  have f23w : Fld Z h23 a0 "com/example/rollcall/rollcall/nas/ProtectedNasMessage" "sequenceNumber" "I" (.int p3) := f17.same W23
  have f24 := f14.wr W23
  have f25 := f15.other W23 (Or.inr (slot_ne (Or.inr (hw _ (List.mem_of_getElem? (i := 16) rfl))) (Or.inr (hw _ (List.mem_of_getElem? (i := 20) rfl))) (by decide) (t := .int) (t' := .int) (by decide) (by decide)))
  have f26 := f13w.other W23 (Or.inr (slot_ne (Or.inr (hw _ (List.mem_of_getElem? (i := 18) rfl))) (Or.inr (hw _ (List.mem_of_getElem? (i := 20) rfl))) (by decide) (t := .int) (t' := .int) (by decide) (by decide)))
  have f28 := f18.other W23 (Or.inr (slot_ne (Or.inr (hw _ (List.mem_of_getElem? (i := 22) rfl))) (Or.inr (hw _ (List.mem_of_getElem? (i := 20) rfl))) (by decide) (t := (.array .byte)) (t' := .int) (by decide) (by decide)))
  have f29 := f19.other W23 (Or.inr (slot_ne (Or.inr (hw _ (List.mem_of_getElem? (i := 24) rfl))) (Or.inr (hw _ (List.mem_of_getElem? (i := 20) rfl))) (by decide) (t := (.object "com/example/rollcall/rollcall/nas/PlainNasMessage")) (t' := .int) (by decide) (by decide)))
  have K30 := K20.wr W23 (Or.inl (List.mem_of_getElem? (i := 0) rfl))
  have Z31 := Nat.le_trans Z21 (Keep.of_wr W23).1
  have N32 := Fr.snoc X23 N22 g_a0
  obtain ⟨T33, h33, X33, e33, W33, st33⟩ := putF X23 hx hZ hown (host := "") (Or.inl (hw _ (List.mem_of_getElem? (i := 21) rfl))) Via.refl e23 f28 f24 (Or.inr ⟨(hw _ (List.mem_of_getElem? (i := 22) rfl)), rfl, hnm⟩) (hw _ (List.mem_of_getElem? (i := 2) rfl)) (ty := (.array .byte)) (by decide) rfl rfl (g := (mkF m 22 #[.val (.ref a0), .val (.int p1), .val (.int p2), .val (.int p3), .val (.ref a4), .val .null] [(.ref a4), (.ref a0)])) rfl rfl (hb hby d1_22)
  have f33w : Fld Z h33 a0 "com/example/rollcall/rollcall/nas/ProtectedNasMessage" "payload" "[B" (.ref a4) := f28.same W33
  have f34 := f24.wr W33
  have f35 := f25.other W33 (Or.inr (slot_ne (Or.inr (hw _ (List.mem_of_getElem? (i := 16) rfl))) (Or.inr (hw _ (List.mem_of_getElem? (i := 22) rfl))) (by decide) (t := .int) (t' := (.array .byte)) (by decide) (by decide)))
  have f36 := f26.other W33 (Or.inr (slot_ne (Or.inr (hw _ (List.mem_of_getElem? (i := 18) rfl))) (Or.inr (hw _ (List.mem_of_getElem? (i := 22) rfl))) (by decide) (t := .int) (t' := (.array .byte)) (by decide) (by decide)))
  have f37 := f23w.other W33 (Or.inr (slot_ne (Or.inr (hw _ (List.mem_of_getElem? (i := 20) rfl))) (Or.inr (hw _ (List.mem_of_getElem? (i := 22) rfl))) (by decide) (t := .int) (t' := (.array .byte)) (by decide) (by decide)))
  have f39 := f29.other W33 (Or.inr (slot_ne (Or.inr (hw _ (List.mem_of_getElem? (i := 24) rfl))) (Or.inr (hw _ (List.mem_of_getElem? (i := 22) rfl))) (by decide) (t := (.object "com/example/rollcall/rollcall/nas/PlainNasMessage")) (t' := (.array .byte)) (by decide) (by decide)))
  have K40 := K30.wr W33 (Or.inl (List.mem_of_getElem? (i := 0) rfl))
  have Z41 := Nat.le_trans Z31 (Keep.of_wr W33).1
  have N42 := Fr.snoc X33 N32 g_a0
  obtain ⟨T43, h43, X43, e43, W43, st43⟩ := putF X33 hx hZ hown (host := "") (Or.inl (hw _ (List.mem_of_getElem? (i := 23) rfl))) Via.refl e33 f39 f34 (Or.inr ⟨(hw _ (List.mem_of_getElem? (i := 24) rfl)), rfl, hnm⟩) (hw _ (List.mem_of_getElem? (i := 2) rfl)) (ty := (.object "com/example/rollcall/rollcall/nas/PlainNasMessage")) (by decide) rfl rfl (g := (mkF m 28 #[.val (.ref a0), .val (.int p1), .val (.int p2), .val (.int p3), .val (.ref a4), .val .null] [.null, (.ref a0)])) rfl rfl (hb hby d1_28)
  have f43w : Fld Z h43 a0 "com/example/rollcall/rollcall/nas/ProtectedNasMessage" "plain" "Lcom/example/rollcall/rollcall/nas/PlainNasMessage;" .null := f39.same W43
  have f44 := f34.wr W43
  have f45 := f35.other W43 (Or.inr (slot_ne (Or.inr (hw _ (List.mem_of_getElem? (i := 16) rfl))) (Or.inr (hw _ (List.mem_of_getElem? (i := 24) rfl))) (by decide) (t := .int) (t' := (.object "com/example/rollcall/rollcall/nas/PlainNasMessage")) (by decide) (by decide)))
  have f46 := f36.other W43 (Or.inr (slot_ne (Or.inr (hw _ (List.mem_of_getElem? (i := 18) rfl))) (Or.inr (hw _ (List.mem_of_getElem? (i := 24) rfl))) (by decide) (t := .int) (t' := (.object "com/example/rollcall/rollcall/nas/PlainNasMessage")) (by decide) (by decide)))
  have f47 := f37.other W43 (Or.inr (slot_ne (Or.inr (hw _ (List.mem_of_getElem? (i := 20) rfl))) (Or.inr (hw _ (List.mem_of_getElem? (i := 24) rfl))) (by decide) (t := .int) (t' := (.object "com/example/rollcall/rollcall/nas/PlainNasMessage")) (by decide) (by decide)))
  have f48 := f33w.other W43 (Or.inr (slot_ne (Or.inr (hw _ (List.mem_of_getElem? (i := 22) rfl))) (Or.inr (hw _ (List.mem_of_getElem? (i := 24) rfl))) (by decide) (t := (.array .byte)) (t' := (.object "com/example/rollcall/rollcall/nas/PlainNasMessage")) (by decide) (by decide)))
  have K50 := K40.wr W43 (Or.inl (List.mem_of_getElem? (i := 0) rfl))
  have Z51 := Nat.le_trans Z41 (Keep.of_wr W43).1
  have N52 := Fr.snoc X43 N42 g_a0
  obtain ⟨fs, hr, hrun, hended, hW, hsame⟩ := X43.leave (v := none) (fun _ => rfl)
  refine ⟨_, _, pre0 _ ?_, hrun, hended, _, _, rfl, ?_, ⟨_, rfl⟩, hW, hsame.mono (by decide) (by decide)⟩
  · skip
    show Steps p.tables e below (s₁.setTop (mkF m 0 #[.val (.ref a0), .val (.int p1), .val (.int p2), .val (.int p3), .val (.ref a4), .val .null] [])) _
    refine XS.aloadN X0.here hx rfl (hb hby d1_0) rfl rfl ?_
    show Steps p.tables e below (s₁.setTop (mkF m 1 #[.val (.ref a0), .val (.int p1), .val (.int p2), .val (.int p3), .val (.ref a4), .val .null] [(.ref a0)])) _
    refine st2.trans ?_
    show Steps p.tables e below (T2.setTop (mkF m 4 #[.val (.ref a0), .val (.int p1), .val (.int p2), .val (.int p3), .val (.ref a4), .val .null] [])) _
    refine XS.aloadN X2.here hx rfl (hb hby d1_4) rfl rfl ?_
    show Steps p.tables e below (T2.setTop (mkF m 5 #[.val (.ref a0), .val (.int p1), .val (.int p2), .val (.int p3), .val (.ref a4), .val .null] [(.ref a0)])) _
    refine XS.iloadN X2.here hx rfl (hb hby d1_5) rfl ?_
    show Steps p.tables e below (T2.setTop (mkF m 6 #[.val (.ref a0), .val (.int p1), .val (.int p2), .val (.int p3), .val (.ref a4), .val .null] [(.int p1), (.ref a0)])) _
    refine st3 _ ?_
    show Steps p.tables e below (T3.setTop (mkF m 9 #[.val (.ref a0), .val (.int p1), .val (.int p2), .val (.int p3), .val (.ref a4), .val .null] [])) _
    refine XS.aloadN X3.here hx rfl (hb hby d1_9) rfl rfl ?_
    show Steps p.tables e below (T3.setTop (mkF m 10 #[.val (.ref a0), .val (.int p1), .val (.int p2), .val (.int p3), .val (.ref a4), .val .null] [(.ref a0)])) _
    refine XS.iloadN X3.here hx rfl (hb hby d1_10) rfl ?_
    show Steps p.tables e below (T3.setTop (mkF m 11 #[.val (.ref a0), .val (.int p1), .val (.int p2), .val (.int p3), .val (.ref a4), .val .null] [(.int p2), (.ref a0)])) _
    refine st13 _ ?_
    show Steps p.tables e below (T13.setTop (mkF m 14 #[.val (.ref a0), .val (.int p1), .val (.int p2), .val (.int p3), .val (.ref a4), .val .null] [])) _
    refine XS.aloadN X13.here hx rfl (hb hby d1_14) rfl rfl ?_
    show Steps p.tables e below (T13.setTop (mkF m 15 #[.val (.ref a0), .val (.int p1), .val (.int p2), .val (.int p3), .val (.ref a4), .val .null] [(.ref a0)])) _
    refine XS.iloadN X13.here hx rfl (hb hby d1_15) rfl ?_
    show Steps p.tables e below (T13.setTop (mkF m 16 #[.val (.ref a0), .val (.int p1), .val (.int p2), .val (.int p3), .val (.ref a4), .val .null] [(.int p3), (.ref a0)])) _
    refine st23 _ ?_
    show Steps p.tables e below (T23.setTop (mkF m 19 #[.val (.ref a0), .val (.int p1), .val (.int p2), .val (.int p3), .val (.ref a4), .val .null] [])) _
    refine XS.aloadN X23.here hx rfl (hb hby d1_19) rfl rfl ?_
    show Steps p.tables e below (T23.setTop (mkF m 20 #[.val (.ref a0), .val (.int p1), .val (.int p2), .val (.int p3), .val (.ref a4), .val .null] [(.ref a0)])) _
    refine XS.aload X23.here hx rfl (hb hby d1_20) rfl rfl ?_
    show Steps p.tables e below (T23.setTop (mkF m 22 #[.val (.ref a0), .val (.int p1), .val (.int p2), .val (.int p3), .val (.ref a4), .val .null] [(.ref a4), (.ref a0)])) _
    refine st33 _ ?_
    show Steps p.tables e below (T33.setTop (mkF m 25 #[.val (.ref a0), .val (.int p1), .val (.int p2), .val (.int p3), .val (.ref a4), .val .null] [])) _
    refine XS.aloadN X33.here hx rfl (hb hby d1_25) rfl rfl ?_
    show Steps p.tables e below (T33.setTop (mkF m 26 #[.val (.ref a0), .val (.int p1), .val (.int p2), .val (.int p3), .val (.ref a4), .val .null] [(.ref a0)])) _
    refine XS.aload X33.here hx rfl (hb hby d1_26) rfl rfl ?_
    show Steps p.tables e below (T33.setTop (mkF m 28 #[.val (.ref a0), .val (.int p1), .val (.int p2), .val (.int p3), .val (.ref a4), .val .null] [.null, (.ref a0)])) _
    refine st43 _ ?_
    show Steps p.tables e below (T43.setTop (mkF m 31 #[.val (.ref a0), .val (.int p1), .val (.int p2), .val (.int p3), .val (.ref a4), .val .null] [])) _
    exact X43.returnOut hx Bd.returns (hb hby d1_31) hr
  · show Q1 Z a0 p1 p2 p3 a4 h0 n0 _ T43.heap _
    rw [e43]
    exact ⟨rfl, N52, K50, f44, f45⟩
theorem d4_0 : decode prog_63_method_2_code 0 = .ok (.aload_n 0, 1) := by decide +kernel
theorem d4_1 : decode prog_63_method_2_code 1 = .ok (.getfield 7, 3) := by decide +kernel
theorem d4_4 : decode prog_63_method_2_code 4 = .ok (.iconst 2, 1) := by decide +kernel
theorem d4_5 : decode prog_63_method_2_code 5 = .ok (.if_icmp .eq 11, 3) := by decide +kernel
theorem d4_16 : decode prog_63_method_2_code 16 = .ok (.iconst 1, 1) := by decide +kernel
theorem d4_17 : decode prog_63_method_2_code 17 = .ok (.goto 4, 3) := by decide +kernel
theorem d4_8 : decode prog_63_method_2_code 8 = .ok (.aload_n 0, 1) := by decide +kernel
theorem d4_9 : decode prog_63_method_2_code 9 = .ok (.getfield 7, 3) := by decide +kernel
theorem d4_12 : decode prog_63_method_2_code 12 = .ok (.iconst 4, 1) := by decide +kernel
theorem d4_13 : decode prog_63_method_2_code 13 = .ok (.if_icmp .ne 7, 3) := by decide +kernel
theorem d4_20 : decode prog_63_method_2_code 20 = .ok (.iconst 0, 1) := by decide +kernel
theorem d4_21 : decode prog_63_method_2_code 21 = .ok (.ireturn, 1) := by decide +kernel
def j4_0 (ty : Int32) : Int32 := (if ty = (2 : Int32) then (1 : Int32) else (if ty = (4 : Int32) then (1 : Int32) else (0 : Int32)))
theorem ef4 (m : MethodId) (x0 : Addr) : entryFrame m #[(.ref x0)] 1 = mkF m 0 #[.val (.ref x0)] [] := by first | (simp [entryFrame, mkF, argsToLocals, Value.category]; done) | rfl
abbrev rr4 : Room := { frames := 0, cells := 0, slots := 0, locals := 0 }
def Q4 (Z : State) (a0 : Addr) (ty : Int32) (h0 : Heap) (n0 : Nat) (v : Option Value) (h : Heap) (L : List Loc) : Prop := v = some (.int (nar .boolean (j4_0 ty))) ∧ Fr n0 L ∧ h = h0
set_option maxRecDepth 65536 in
set_option maxHeartbeats 40000000 in
theorem rm4 (l : Launch) (Z : State) (aw : Array Value) (hw : ∀ d ∈ tables_1, d.before aw Z = true) (ws : List Jvm.Cond) (a0 : Addr) (ty : Int32) (h0 : Heap) (n0 : Nat) (Z0 : n0 ≤ h0.size) (E_a0 : Exa Z h0 a0 "com/example/rollcall/rollcall/nas/ProtectedNasMessage") (F_securityHeaderType_a0 : Fld Z h0 a0 "com/example/rollcall/rollcall/nas/ProtectedNasMessage" "securityHeaderType" "I" (.int ty)) :
    MetFree l (⟨"com/example/rollcall/rollcall/nas/ProtectedNasMessage", "ciphered", "()Z"⟩ : MethodName) (head1 (Jvm.Cond.code (⟨"com/example/rollcall/rollcall/nas/ProtectedNasMessage", "ciphered", "()Z"⟩ : MethodName) prog_63_method_2_code 1 (some .boolean) :: ws) rr4) (fun a U => a = #[(.ref a0)] ∧ Z.Warmed39 U.vm ∧ U.heap = h0) (fun _ _ _ _ _ => True) (fun _ U o U' => ∃ v L, o = .returned v ∧ Q4 Z a0 ty h0 n0 v U'.heap L ∧ FrameEnd U o U' L rr4.cells rr4.slots) := by
  refine MetFree.of_bodySF (plainFor_of_name pn_2) hisR ?_
  intro p e s m args below meth c s₁ Bd hml0 hP hK
  obtain ⟨rfl, hZ, hh⟩ := hP
  have hx := Bd.exec
  have hby := Bd.bytes
  have hml : c.maxLocals = 1 := hml0
  have hown : s.vm.findClass "com/example/rollcall/rollcall/nas/ProtectedNasMessage" = some m.cls := findClass_of_methodNamed Bd.named
  have hnm := (name_of_methodNamed Bd.named Bd.method).1
  have X0 : Stand p l e rr4 s m #[(.ref a0)] below meth c s₁ [] 0 0 := Stand.of_body Bd
  have e0 : s₁.heap = h0 := by rw [← hh, Bd.state]; rfl
  have N0 := Fr.nil n0
  have pre0 : ∀ t, Steps p.tables e below (s₁.setTop (mkF m 0 #[.val (.ref a0)] [])) t → Steps p.tables e below (s₁.setTop (entryFrame m #[(.ref a0)] 1)) t := fun t k => castTop (ef4 m a0) k
  obtain ⟨T53, X53, e53, st53⟩ := getF X0 hx hZ hown (host := "") (Or.inl (hw _ (List.mem_of_getElem? (i := 15) rfl))) Via.refl e0 F_securityHeaderType_a0 (g := (mkF m 1 #[.val (.ref a0)] [(.ref a0)])) rfl rfl (hb hby d4_1)
  have pre57 := fun (t : State) (k : Steps p.tables e below (T53.setTop (mkF m 5 #[.val (.ref a0)] [(.int (2 : Int32)), (.int ty)])) t) => pre0 t (by
    show Steps p.tables e below (s₁.setTop (mkF m 0 #[.val (.ref a0)] [])) _
    refine XS.aloadN X0.here hx rfl (hb hby d4_0) rfl rfl ?_
    show Steps p.tables e below (s₁.setTop (mkF m 1 #[.val (.ref a0)] [(.ref a0)])) _
    refine st53 _ ?_
    show Steps p.tables e below (T53.setTop (mkF m 4 #[.val (.ref a0)] [(.int ty)])) _
    refine XS.iconst X53.here hx rfl (hb hby d4_4) ?_
    exact k)
  obtain ⟨T58, L58, X58, e58, N58, pre58⟩ : ∃ (T58 : State) (L58 : List Loc), Stand p l e rr4 s m #[(.ref a0)] below meth c T58 L58 0 0 ∧ T58.heap = h0 ∧ Fr n0 L58 ∧ ∀ t, Steps p.tables e below (T58.setTop (mkF m 21 #[.val (.ref a0)] [(.int (j4_0 ty))])) t → Steps p.tables e below (s₁.setTop (entryFrame m #[(.ref a0)] 1)) t := by
    by_cases hc59 : ty = (2 : Int32)
    · skip
      have pre60 := fun (t : State) (k : Steps p.tables e below (T53.setTop (mkF m 21 #[.val (.ref a0)] [(.int (1 : Int32))])) t) => pre57 t (by
        show Steps p.tables e below (T53.setTop (mkF m 5 #[.val (.ref a0)] [(.int (2 : Int32)), (.int ty)])) _
        refine XS.icmpYes X53.here hx rfl (pc0 := 5) (pc' := 16) rfl (hb hby d4_5) rfl (teq hc59).1 (by decide) (by decide) ?_
        show Steps p.tables e below (T53.setTop (mkF m 16 #[.val (.ref a0)] [])) _
        refine XS.iconst X53.here hx rfl (hb hby d4_16) ?_
        show Steps p.tables e below (T53.setTop (mkF m 17 #[.val (.ref a0)] [(.int (1 : Int32))])) _
        refine XS.goto X53.here hx rfl (pc0 := 17) (pc' := 21) rfl (hb hby d4_17) (by decide) (by decide) ?_
        exact k)
      have hj61 : (j4_0 ty) = (1 : Int32) := by unfold j4_0; first | (rw [if_pos hc59]) | (simp only [if_pos hc59])
      exact ⟨T53, _, X53, e53, N0, fun t k => pre60 t (by rw [hj61] at k; exact k)⟩
    · skip
      obtain ⟨T62, X62, e62, st62⟩ := getF X53 hx hZ hown (host := "") (Or.inl (hw _ (List.mem_of_getElem? (i := 15) rfl))) Via.refl e53 F_securityHeaderType_a0 (g := (mkF m 9 #[.val (.ref a0)] [(.ref a0)])) rfl rfl (hb hby d4_9)
      have pre64 := fun (t : State) (k : Steps p.tables e below (T62.setTop (mkF m 13 #[.val (.ref a0)] [(.int (4 : Int32)), (.int ty)])) t) => pre57 t (by
        show Steps p.tables e below (T53.setTop (mkF m 5 #[.val (.ref a0)] [(.int (2 : Int32)), (.int ty)])) _
        refine XS.icmpNo X53.here hx rfl (hb hby d4_5) rfl (feq hc59).1 ?_
        show Steps p.tables e below (T53.setTop (mkF m 8 #[.val (.ref a0)] [])) _
        refine XS.aloadN X53.here hx rfl (hb hby d4_8) rfl rfl ?_
        show Steps p.tables e below (T53.setTop (mkF m 9 #[.val (.ref a0)] [(.ref a0)])) _
        refine st62 _ ?_
        show Steps p.tables e below (T62.setTop (mkF m 12 #[.val (.ref a0)] [(.int ty)])) _
        refine XS.iconst X62.here hx rfl (hb hby d4_12) ?_
        exact k)
      by_cases hc63 : ty = (4 : Int32)
      · skip
        have pre65 := fun (t : State) (k : Steps p.tables e below (T62.setTop (mkF m 21 #[.val (.ref a0)] [(.int (1 : Int32))])) t) => pre64 t (by
          show Steps p.tables e below (T62.setTop (mkF m 13 #[.val (.ref a0)] [(.int (4 : Int32)), (.int ty)])) _
          refine XS.icmpNo X62.here hx rfl (hb hby d4_13) rfl (teq hc63).2 ?_
          show Steps p.tables e below (T62.setTop (mkF m 16 #[.val (.ref a0)] [])) _
          refine XS.iconst X62.here hx rfl (hb hby d4_16) ?_
          show Steps p.tables e below (T62.setTop (mkF m 17 #[.val (.ref a0)] [(.int (1 : Int32))])) _
          refine XS.goto X62.here hx rfl (pc0 := 17) (pc' := 21) rfl (hb hby d4_17) (by decide) (by decide) ?_
          exact k)
        have hj66 : (j4_0 ty) = (1 : Int32) := by unfold j4_0; first | (rw [if_neg hc59, if_pos hc63]) | (simp only [if_neg hc59, if_pos hc63])
        exact ⟨T62, _, X62, e62, N0, fun t k => pre65 t (by rw [hj66] at k; exact k)⟩
      · skip
        have pre67 := fun (t : State) (k : Steps p.tables e below (T62.setTop (mkF m 21 #[.val (.ref a0)] [(.int (0 : Int32))])) t) => pre64 t (by
          show Steps p.tables e below (T62.setTop (mkF m 13 #[.val (.ref a0)] [(.int (4 : Int32)), (.int ty)])) _
          refine XS.icmpYes X62.here hx rfl (pc0 := 13) (pc' := 20) rfl (hb hby d4_13) rfl (feq hc63).2 (by decide) (by decide) ?_
          show Steps p.tables e below (T62.setTop (mkF m 20 #[.val (.ref a0)] [])) _
          refine XS.iconst X62.here hx rfl (hb hby d4_20) ?_
          exact k)
        have hj68 : (j4_0 ty) = (0 : Int32) := by unfold j4_0; first | (rw [if_neg hc59, if_neg hc63]) | (simp only [if_neg hc59, if_neg hc63])
        exact ⟨T62, _, X62, e62, N0, fun t k => pre67 t (by rw [hj68] at k; exact k)⟩
  obtain ⟨fs, hr, hrun, hended, hW, hsame⟩ := X58.leave (v := some (.int (nar .boolean (j4_0 ty)))) (fun h => by rw [Bd.returns] at h; cases h)
  refine ⟨_, _, pre58 _ ?_, hrun, hended, _, _, rfl, ?_, ⟨_, rfl⟩, hW, hsame.mono (by decide) (by decide)⟩
  · skip
    show Steps p.tables e below (T58.setTop (mkF m 21 #[.val (.ref a0)] [(.int (j4_0 ty))])) _
    exact retN X58 hx (t := .boolean) Bd.returns (by simp) (hb hby d4_21) hr
  · show Q4 Z a0 ty h0 n0 _ T58.heap _
    rw [e58]
    exact ⟨rfl, N58, rfl⟩
theorem own_m3 (p : Int32) : (p &&& (3 : Int32)).toInt = p.toInt % 2 ^ 2 := Jvm.Kit.i32_mask p 3 (k := 2) (by decide) (by decide)
theorem own_l0 (p : Int32) : ¬ (p &&& (3 : Int32)) < 0 := by
  have z : (0 : Int32).toInt = 0 := rfl
  rw [Int32.lt_iff_toInt_lt, own_m3]; omega
theorem own_l1 (p : Int32) : (p &&& (3 : Int32)).toNatClampNeg ≤ 3 := by
  have := own_m3 p
  simp only [own_tnc]; omega
theorem pd_3 : parseMethodDescriptor "(III[BLcom/example/rollcall/rollcall/nas/PlainNasMessage;)V" = some ⟨[.int, .int, .int, (.array .byte), (.object "com/example/rollcall/rollcall/nas/PlainNasMessage")], none⟩ := by decide +kernel
theorem pd_4 : parseMethodDescriptor "()Z" = some ⟨[], some .boolean⟩ := by decide +kernel
def j0_0 (p0 : Int32) (p1 : Int32) : Int32 := (if (p1 &&& (1 : Int32)) = (0 : Int32) then ((p0 &&& (7 : Int32)) - (1 : Int32)) else p0)
def j0_1 (p0 : Int32) (p1 : Int32) : Int32 := (if (j0_0 p0 p1) < (1 : Int32) then (0 : Int32) else (if (4 : Int32) < (j0_0 p0 p1) then (0 : Int32) else (1 : Int32)))
def j0_2 (p0 : Int32) (p1 : Int32) : Int32 := (if ((j0_0 p0 p1) &&& (1 : Int32)) = (0 : Int32) then (1 : Int32) else (0 : Int32))
def j0_3 (p0 : Int32) (p1 : Int32) : Int32 := (if (j0_1 p0 p1) = (0 : Int32) then (0 : Int32) else (if (j0_2 p0 p1) = (0 : Int32) then (0 : Int32) else (1 : Int32)))
def j0_4 (p0 : Int32) (p1 : Int32) : Int32 := (if (nar .boolean (j4_0 (j0_0 p0 p1))) = (j0_3 p0 p1) then (1 : Int32) else (0 : Int32))
theorem pn_3 : plainName "com/example/rollcall/rollcall/nas/ProtectedNasMessageCipheredPinLaw" = true := by first | (simp [plainName, overriddenIn]; done) | decide +kernel
theorem ef0 (m : MethodId) (x0 : Int32) (x1 : Int32) (x2 : Int32) (x3 : Int32) (x4 : Int32) : entryFrame m #[(.int x0), (.int x1), (.int x2), (.int x3), (.int x4)] maxLocals = mkF m 0 #[.val (.int x0), .val (.int x1), .val (.int x2), .val (.int x3), .val (.int x4), .unset, .unset, .unset, .unset, .unset, .unset] [] := by first | (simp [entryFrame, mkF, argsToLocals, Value.category, maxLocals]; done) | rfl
def Q0 (Z : State) (p0 : Int32) (p1 : Int32) (p2 : Int32) (p3 : Int32) (p4 : Int32) (h0 : Heap) (n0 : Nat) (v : Option Value) (h : Heap) (L : List Loc) : Prop := v = some (.int (nar .boolean (j0_4 p0 p1))) ∧ Fr n0 L
set_option maxRecDepth 65536 in
set_option maxHeartbeats 40000000 in
theorem rm0 (l : Launch) (Z : State) (aw : Array Value) (hw : ∀ d ∈ tables_1, d.before aw Z = true) (ws : List Jvm.Cond) (p0 : Int32) (p1 : Int32) (p2 : Int32) (p3 : Int32) (p4 : Int32) (h0 : Heap) (n0 : Nat) (Z0 : n0 ≤ h0.size)  :
    MetFree l x (head1 (Jvm.Cond.code x code maxLocals ret :: ws) room_1) (fun a U => a = #[(.int p0), (.int p1), (.int p2), (.int p3), (.int p4)] ∧ Z.Warmed39 U.vm ∧ U.heap = h0) (fun _ _ _ _ _ => True) (fun _ U o U' => ∃ v L, o = .returned v ∧ Q0 Z p0 p1 p2 p3 p4 h0 n0 v U'.heap L ∧ FrameEnd U o U' L room_1.cells room_1.slots) := by
  refine MetFree.of_bodySF (plainFor_of_name pn_3) hisR ?_
  intro p e s m args below meth c s₁ Bd hml0 hP hK
  obtain ⟨rfl, hZ, hh⟩ := hP
  have hx := Bd.exec
  have hby := Bd.bytes
  have hml : c.maxLocals = 11 := hml0
  have hown : s.vm.findClass "com/example/rollcall/rollcall/nas/ProtectedNasMessageCipheredPinLaw" = some m.cls := findClass_of_methodNamed Bd.named
  have hnm := (name_of_methodNamed Bd.named Bd.method).1
  have X0 : Stand p l e room_1 s m #[(.int p0), (.int p1), (.int p2), (.int p3), (.int p4)] below meth c s₁ [] 0 0 := Stand.of_body Bd
  have e0 : s₁.heap = h0 := by rw [← hh, Bd.state]; rfl
  have N0 := Fr.nil n0
  have pre0 : ∀ t, Steps p.tables e below (s₁.setTop (mkF m 0 #[.val (.int p0), .val (.int p1), .val (.int p2), .val (.int p3), .val (.int p4), .unset, .unset, .unset, .unset, .unset, .unset] [])) t → Steps p.tables e below (s₁.setTop (entryFrame m #[(.int p0), (.int p1), (.int p2), (.int p3), (.int p4)] maxLocals)) t := fun t k => castTop (ef0 m p0 p1 p2 p3 p4) k
  have pre69 := fun (t : State) (k : Steps p.tables e below (s₁.setTop (mkF m 3 #[.val (.int p0), .val (.int p1), .val (.int p2), .val (.int p3), .val (.int p4), .unset, .unset, .unset, .unset, .unset, .unset] [(.int (p1 &&& (1 : Int32)))])) t) => pre0 t (by
    show Steps p.tables e below (s₁.setTop (mkF m 0 #[.val (.int p0), .val (.int p1), .val (.int p2), .val (.int p3), .val (.int p4), .unset, .unset, .unset, .unset, .unset, .unset] [])) _
    refine XS.iloadN X0.here hx rfl (hb hby at_0) rfl ?_
    show Steps p.tables e below (s₁.setTop (mkF m 1 #[.val (.int p0), .val (.int p1), .val (.int p2), .val (.int p3), .val (.int p4), .unset, .unset, .unset, .unset, .unset, .unset] [(.int p1)])) _
    refine XS.iconst X0.here hx rfl (hb hby at_1) ?_
    show Steps p.tables e below (s₁.setTop (mkF m 2 #[.val (.int p0), .val (.int p1), .val (.int p2), .val (.int p3), .val (.int p4), .unset, .unset, .unset, .unset, .unset, .unset] [(.int (1 : Int32)), (.int p1)])) _
    refine XS.iand X0.here hx rfl (hb hby at_2) rfl ?_
    exact k)
  have pre70 := fun (t : State) (k : Steps p.tables e below (s₁.setTop (mkF m 16 #[.val (.int p0), .val (.int p1), .val (.int p2), .val (.int p3), .val (.int p4), .unset, .unset, .unset, .unset, .unset, .unset] [(.int (j0_0 p0 p1))])) t) => pre69 t (by
    by_cases hc71 : (p1 &&& (1 : Int32)) = (0 : Int32)
    · skip
      show Steps p.tables e below (s₁.setTop (mkF m 3 #[.val (.int p0), .val (.int p1), .val (.int p2), .val (.int p3), .val (.int p4), .unset, .unset, .unset, .unset, .unset, .unset] [(.int (p1 &&& (1 : Int32)))])) _
      refine XS.ifYes X0.here hx rfl (pc0 := 3) (pc' := 10) rfl (hb hby at_3) rfl ((if0 _ _).trans (teq hc71).1) (by decide) (by decide) ?_
      show Steps p.tables e below (s₁.setTop (mkF m 10 #[.val (.int p0), .val (.int p1), .val (.int p2), .val (.int p3), .val (.int p4), .unset, .unset, .unset, .unset, .unset, .unset] [])) _
      refine XS.iloadN X0.here hx rfl (hb hby at_10) rfl ?_
      show Steps p.tables e below (s₁.setTop (mkF m 11 #[.val (.int p0), .val (.int p1), .val (.int p2), .val (.int p3), .val (.int p4), .unset, .unset, .unset, .unset, .unset, .unset] [(.int p0)])) _
      refine XS.bipush X0.here hx rfl (hb hby at_11) ?_
      show Steps p.tables e below (s₁.setTop (mkF m 13 #[.val (.int p0), .val (.int p1), .val (.int p2), .val (.int p3), .val (.int p4), .unset, .unset, .unset, .unset, .unset, .unset] [(.int (7 : Int32)), (.int p0)])) _
      refine XS.iand X0.here hx rfl (hb hby at_13) rfl ?_
      show Steps p.tables e below (s₁.setTop (mkF m 14 #[.val (.int p0), .val (.int p1), .val (.int p2), .val (.int p3), .val (.int p4), .unset, .unset, .unset, .unset, .unset, .unset] [(.int (p0 &&& (7 : Int32)))])) _
      refine XS.iconst X0.here hx rfl (hb hby at_14) ?_
      show Steps p.tables e below (s₁.setTop (mkF m 15 #[.val (.int p0), .val (.int p1), .val (.int p2), .val (.int p3), .val (.int p4), .unset, .unset, .unset, .unset, .unset, .unset] [(.int (1 : Int32)), (.int (p0 &&& (7 : Int32)))])) _
      refine XS.isub X0.here hx rfl (hb hby at_15) rfl ?_
      have hj72 : (j0_0 p0 p1) = ((p0 &&& (7 : Int32)) - (1 : Int32)) := by unfold j0_0; first | (rw [if_pos hc71]) | (simp only [if_pos hc71])
      rw [hj72] at k
      exact k
    · skip
      show Steps p.tables e below (s₁.setTop (mkF m 3 #[.val (.int p0), .val (.int p1), .val (.int p2), .val (.int p3), .val (.int p4), .unset, .unset, .unset, .unset, .unset, .unset] [(.int (p1 &&& (1 : Int32)))])) _
      refine XS.ifNo X0.here hx rfl (hb hby at_3) rfl ((if0 _ _).trans (feq hc71).1) ?_
      show Steps p.tables e below (s₁.setTop (mkF m 6 #[.val (.int p0), .val (.int p1), .val (.int p2), .val (.int p3), .val (.int p4), .unset, .unset, .unset, .unset, .unset, .unset] [])) _
      refine XS.iloadN X0.here hx rfl (hb hby at_6) rfl ?_
      show Steps p.tables e below (s₁.setTop (mkF m 7 #[.val (.int p0), .val (.int p1), .val (.int p2), .val (.int p3), .val (.int p4), .unset, .unset, .unset, .unset, .unset, .unset] [(.int p0)])) _
      refine XS.goto X0.here hx rfl (pc0 := 7) (pc' := 16) rfl (hb hby at_7) (by decide) (by decide) ?_
      have hj73 : (j0_0 p0 p1) = p0 := by unfold j0_0; first | (rw [if_neg hc71]) | (simp only [if_neg hc71])
      rw [hj73] at k
      exact k)
  obtain ⟨T74, h74, k74, X74, e74, E74, A74, st74⟩ := newP X0 hx hZ (hw _ (List.mem_of_getElem? (i := 0) rfl)) e0 (g := (mkF m 22 #[.val (.int p0), .val (.int p1), .val (.int p2), .val (.int p3), .val (.int p4), .val (.int (j0_0 p0 p1)), .unset, .unset, .unset, .unset, .unset] [(.int (p4 &&& (3 : Int32)))])) rfl (hb hby at_22) rfl (own_l0 p4) (cap := 3) (own_l1 p4) (by decide) (by decide) (by decide)
  obtain ⟨b74, gg74⟩ : ∃ z, z = h0.size := ⟨_, rfl⟩
  rw [← gg74] at A74 st74
  have g_b74 : n0 ≤ b74 := Nat.le_trans Z0 (Nat.le_of_eq gg74.symm)
  have Z75 := Nat.le_trans Z0 E74.1
  have V74 : Arv Z h74 b74 k74 .byte (p4 &&& (3 : Int32)) [] (.int (0 : Int32)) := Arv.new A74 (own_l0 p4)
  obtain ⟨T76, h76, X76, e76, E76, A76, D76, -, st76⟩ := newO X74 hx hZ hown (hw _ (List.mem_of_getElem? (i := 1) rfl)) (hw _ (List.mem_of_getElem? (i := 2) rfl)) (hw _ (List.mem_of_getElem? (i := 3) rfl)) e74 (g := (mkF m 26 #[.val (.int p0), .val (.int p1), .val (.int p2), .val (.int p3), .val (.int p4), .val (.int (j0_0 p0 p1)), .val (.ref b74), .unset, .unset, .unset, .unset] [])) rfl (hb hby at_26) (by decide) (by decide)
  obtain ⟨b76, gg76⟩ : ∃ z, z = h74.size := ⟨_, rfl⟩
  rw [← gg76] at A76 D76 st76
  have f77 := V74.ext E76
  have ne78 : b74 ≠ b76 := Nat.ne_of_lt (Nat.lt_of_lt_of_le V74.lt (Nat.le_of_eq gg76.symm))
  have g_b76 : n0 ≤ b76 := Nat.le_trans Z75 (Nat.le_of_eq gg76.symm)
  have Z79 := Nat.le_trans Z75 E76.1
  have f80 : Fld Z h76 b76 "com/example/rollcall/rollcall/nas/ProtectedNasMessage" "securityHeaderType" "I" (.int (0 : Int32)) := D76 (Or.inr (hw _ (List.mem_of_getElem? (i := 16) rfl))) (ty := .int) (by decide)
  have f81 : Fld Z h76 b76 "com/example/rollcall/rollcall/nas/ProtectedNasMessage" "messageAuthenticationCode" "I" (.int (0 : Int32)) := D76 (Or.inr (hw _ (List.mem_of_getElem? (i := 18) rfl))) (ty := .int) (by decide)
  have f82 : Fld Z h76 b76 "com/example/rollcall/rollcall/nas/ProtectedNasMessage" "sequenceNumber" "I" (.int (0 : Int32)) := D76 (Or.inr (hw _ (List.mem_of_getElem? (i := 20) rfl))) (ty := .int) (by decide)
  have f83 : Fld Z h76 b76 "com/example/rollcall/rollcall/nas/ProtectedNasMessage" "payload" "[B" .null := D76 (Or.inr (hw _ (List.mem_of_getElem? (i := 22) rfl))) (ty := (.array .byte)) (by decide)
  have f84 : Fld Z h76 b76 "com/example/rollcall/rollcall/nas/ProtectedNasMessage" "plain" "Lcom/example/rollcall/rollcall/nas/PlainNasMessage;" .null := D76 (Or.inr (hw _ (List.mem_of_getElem? (i := 24) rfl))) (ty := (.object "com/example/rollcall/rollcall/nas/PlainNasMessage")) (by decide)
  obtain ⟨_, _, ⟨T85, L85, k85, n85⟩, -, X85, ⟨Lc85, hQ85, l85, y85, z85⟩, st85⟩ := X76.specialBack hx (y := (⟨"com/example/rollcall/rollcall/nas/ProtectedNasMessage", "<init>", "(III[BLcom/example/rollcall/rollcall/nas/PlainNasMessage;)V"⟩ : MethodName)) rfl hown (mvT hZ (hw _ (List.mem_of_getElem? (i := 4) rfl))) (mvT hZ (hw _ (List.mem_of_getElem? (i := 5) rfl))) (mvT hZ (hw _ (List.mem_of_getElem? (i := 6) rfl))) (by decide) (backOf (W := 1) (rm1 l Z aw hw [] b76 ((j0_0 p0 p1)) p2 p3 b74 h76 n0 Z79 A76 f80 f81 f82 f83 f84 g_b76) hZ (hw _ (List.mem_of_getElem? (i := 6) rfl)) (hw _ (List.mem_of_getElem? (i := 3) rfl)) (by decide) (by decide)) (g := (mkF m 37 #[.val (.int p0), .val (.int p1), .val (.int p2), .val (.int p3), .val (.int p4), .val (.int (j0_0 p0 p1)), .val (.ref b74), .unset, .unset, .unset, .unset] [.null, (.ref b74), (.int p3), (.int p2), (.int (j0_0 p0 p1)), (.ref b76), (.ref b76)])) rfl (by rw [hml]; rfl) (Steps.refl _) (a := b76) (argsL := [(.int (j0_0 p0 p1)), (.int p2), (.int p3), (.ref b74), .null]) (rest := [(.ref b76)]) (lenOf pd_3 rfl) rfl (by show 2 * 0 + _ ≤ _; exact Nat.le_of_eq rfl) (hb hby at_37) (fun _ _ => ⟨rfl, e76, (by decide : 2 + 0 ≤ _), (by decide : 8 + 0 ≤ _)⟩)
  dsimp only [Pt.U, Pt.locs, Pt.cells, Pt.slots] at X85 l85 y85 z85 st85 hQ85
  subst l85 y85 z85
  obtain ⟨h85, e85⟩ : ∃ z, T85.heap = z := ⟨_, rfl⟩
  rw [e85] at hQ85
  obtain ⟨rfl, N85q, K85q, f86, f87⟩ := hQ85
  have f88 := f77.keep K85q (ninS ne78 nin0)
  have f89 := A76.keep K85q
  have Z85 := Nat.le_trans Z79 K85q.1
  have N85 := Fr.app N0 N85q
  have pre97 := fun (t : State) (k : Steps p.tables e below (T85.setTop (mkF m 45 #[.val (.int p0), .val (.int p1), .val (.int p2), .val (.int p3), .val (.int p4), .val (.int (j0_0 p0 p1)), .val (.ref b74), .val (.ref b76), .unset, .unset, .unset] [(.int (1 : Int32)), (.int (j0_0 p0 p1))])) t) => pre70 t (by
    show Steps p.tables e below (s₁.setTop (mkF m 16 #[.val (.int p0), .val (.int p1), .val (.int p2), .val (.int p3), .val (.int p4), .unset, .unset, .unset, .unset, .unset, .unset] [(.int (j0_0 p0 p1))])) _
    refine XS.istore X0.here hx rfl (hb hby at_16) rfl (l' := #[.val (.int p0), .val (.int p1), .val (.int p2), .val (.int p3), .val (.int p4), .val (.int (j0_0 p0 p1)), .unset, .unset, .unset, .unset, .unset]) rfl ?_
    show Steps p.tables e below (s₁.setTop (mkF m 18 #[.val (.int p0), .val (.int p1), .val (.int p2), .val (.int p3), .val (.int p4), .val (.int (j0_0 p0 p1)), .unset, .unset, .unset, .unset, .unset] [])) _
    refine XS.iload X0.here hx rfl (hb hby at_18) rfl ?_
    show Steps p.tables e below (s₁.setTop (mkF m 20 #[.val (.int p0), .val (.int p1), .val (.int p2), .val (.int p3), .val (.int p4), .val (.int (j0_0 p0 p1)), .unset, .unset, .unset, .unset, .unset] [(.int p4)])) _
    refine XS.iconst X0.here hx rfl (hb hby at_20) ?_
    show Steps p.tables e below (s₁.setTop (mkF m 21 #[.val (.int p0), .val (.int p1), .val (.int p2), .val (.int p3), .val (.int p4), .val (.int (j0_0 p0 p1)), .unset, .unset, .unset, .unset, .unset] [(.int (3 : Int32)), (.int p4)])) _
    refine XS.iand X0.here hx rfl (hb hby at_21) rfl ?_
    show Steps p.tables e below (s₁.setTop (mkF m 22 #[.val (.int p0), .val (.int p1), .val (.int p2), .val (.int p3), .val (.int p4), .val (.int (j0_0 p0 p1)), .unset, .unset, .unset, .unset, .unset] [(.int (p4 &&& (3 : Int32)))])) _
    refine st74 _ ?_
    show Steps p.tables e below (T74.setTop (mkF m 24 #[.val (.int p0), .val (.int p1), .val (.int p2), .val (.int p3), .val (.int p4), .val (.int (j0_0 p0 p1)), .unset, .unset, .unset, .unset, .unset] [(.ref b74)])) _
    refine XS.astore X74.here hx rfl (hb hby at_24) rfl rfl (l' := #[.val (.int p0), .val (.int p1), .val (.int p2), .val (.int p3), .val (.int p4), .val (.int (j0_0 p0 p1)), .val (.ref b74), .unset, .unset, .unset, .unset]) rfl ?_
    show Steps p.tables e below (T74.setTop (mkF m 26 #[.val (.int p0), .val (.int p1), .val (.int p2), .val (.int p3), .val (.int p4), .val (.int (j0_0 p0 p1)), .val (.ref b74), .unset, .unset, .unset, .unset] [])) _
    refine st76 _ ?_
    show Steps p.tables e below (T76.setTop (mkF m 29 #[.val (.int p0), .val (.int p1), .val (.int p2), .val (.int p3), .val (.int p4), .val (.int (j0_0 p0 p1)), .val (.ref b74), .unset, .unset, .unset, .unset] [(.ref b76)])) _
    refine XS.dup X76.here hx rfl (hb hby at_29) rfl rfl ?_
    show Steps p.tables e below (T76.setTop (mkF m 30 #[.val (.int p0), .val (.int p1), .val (.int p2), .val (.int p3), .val (.int p4), .val (.int (j0_0 p0 p1)), .val (.ref b74), .unset, .unset, .unset, .unset] [(.ref b76), (.ref b76)])) _
    refine XS.iload X76.here hx rfl (hb hby at_30) rfl ?_
    show Steps p.tables e below (T76.setTop (mkF m 32 #[.val (.int p0), .val (.int p1), .val (.int p2), .val (.int p3), .val (.int p4), .val (.int (j0_0 p0 p1)), .val (.ref b74), .unset, .unset, .unset, .unset] [(.int (j0_0 p0 p1)), (.ref b76), (.ref b76)])) _
    refine XS.iloadN X76.here hx rfl (hb hby at_32) rfl ?_
    show Steps p.tables e below (T76.setTop (mkF m 33 #[.val (.int p0), .val (.int p1), .val (.int p2), .val (.int p3), .val (.int p4), .val (.int (j0_0 p0 p1)), .val (.ref b74), .unset, .unset, .unset, .unset] [(.int p2), (.int (j0_0 p0 p1)), (.ref b76), (.ref b76)])) _
    refine XS.iloadN X76.here hx rfl (hb hby at_33) rfl ?_
    show Steps p.tables e below (T76.setTop (mkF m 34 #[.val (.int p0), .val (.int p1), .val (.int p2), .val (.int p3), .val (.int p4), .val (.int (j0_0 p0 p1)), .val (.ref b74), .unset, .unset, .unset, .unset] [(.int p3), (.int p2), (.int (j0_0 p0 p1)), (.ref b76), (.ref b76)])) _
    refine XS.aload X76.here hx rfl (hb hby at_34) rfl rfl ?_
    show Steps p.tables e below (T76.setTop (mkF m 36 #[.val (.int p0), .val (.int p1), .val (.int p2), .val (.int p3), .val (.int p4), .val (.int (j0_0 p0 p1)), .val (.ref b74), .unset, .unset, .unset, .unset] [(.ref b74), (.int p3), (.int p2), (.int (j0_0 p0 p1)), (.ref b76), (.ref b76)])) _
    refine XS.aconstNull X76.here hx rfl (hb hby at_36) ?_
    show Steps p.tables e below (T76.setTop (mkF m 37 #[.val (.int p0), .val (.int p1), .val (.int p2), .val (.int p3), .val (.int p4), .val (.int (j0_0 p0 p1)), .val (.ref b74), .unset, .unset, .unset, .unset] [.null, (.ref b74), (.int p3), (.int p2), (.int (j0_0 p0 p1)), (.ref b76), (.ref b76)])) _
    refine st85.trans ?_
    show Steps p.tables e below (T85.setTop (mkF m 40 #[.val (.int p0), .val (.int p1), .val (.int p2), .val (.int p3), .val (.int p4), .val (.int (j0_0 p0 p1)), .val (.ref b74), .unset, .unset, .unset, .unset] [(.ref b76)])) _
    refine XS.astore X85.here hx rfl (hb hby at_40) rfl rfl (l' := #[.val (.int p0), .val (.int p1), .val (.int p2), .val (.int p3), .val (.int p4), .val (.int (j0_0 p0 p1)), .val (.ref b74), .val (.ref b76), .unset, .unset, .unset]) rfl ?_
    show Steps p.tables e below (T85.setTop (mkF m 42 #[.val (.int p0), .val (.int p1), .val (.int p2), .val (.int p3), .val (.int p4), .val (.int (j0_0 p0 p1)), .val (.ref b74), .val (.ref b76), .unset, .unset, .unset] [])) _
    refine XS.iload X85.here hx rfl (hb hby at_42) rfl ?_
    show Steps p.tables e below (T85.setTop (mkF m 44 #[.val (.int p0), .val (.int p1), .val (.int p2), .val (.int p3), .val (.int p4), .val (.int (j0_0 p0 p1)), .val (.ref b74), .val (.ref b76), .unset, .unset, .unset] [(.int (j0_0 p0 p1))])) _
    refine XS.iconst X85.here hx rfl (hb hby at_44) ?_
    exact k)
  have pre98 := fun (t : State) (k : Steps p.tables e below (T85.setTop (mkF m 59 #[.val (.int p0), .val (.int p1), .val (.int p2), .val (.int p3), .val (.int p4), .val (.int (j0_0 p0 p1)), .val (.ref b74), .val (.ref b76), .unset, .unset, .unset] [(.int (j0_1 p0 p1))])) t) => pre97 t (by
    by_cases hc99 : (j0_0 p0 p1) < (1 : Int32)
    · skip
      show Steps p.tables e below (T85.setTop (mkF m 45 #[.val (.int p0), .val (.int p1), .val (.int p2), .val (.int p3), .val (.int p4), .val (.int (j0_0 p0 p1)), .val (.ref b74), .val (.ref b76), .unset, .unset, .unset] [(.int (1 : Int32)), (.int (j0_0 p0 p1))])) _
      refine XS.icmpYes X85.here hx rfl (pc0 := 45) (pc' := 58) rfl (hb hby at_45) rfl (tlt hc99).1 (by decide) (by decide) ?_
      show Steps p.tables e below (T85.setTop (mkF m 58 #[.val (.int p0), .val (.int p1), .val (.int p2), .val (.int p3), .val (.int p4), .val (.int (j0_0 p0 p1)), .val (.ref b74), .val (.ref b76), .unset, .unset, .unset] [])) _
      refine XS.iconst X85.here hx rfl (hb hby at_58) ?_
      have hj100 : (j0_1 p0 p1) = (0 : Int32) := by unfold j0_1; first | (rw [if_pos hc99]) | (simp only [if_pos hc99])
      rw [hj100] at k
      exact k
    · skip
      show Steps p.tables e below (T85.setTop (mkF m 45 #[.val (.int p0), .val (.int p1), .val (.int p2), .val (.int p3), .val (.int p4), .val (.int (j0_0 p0 p1)), .val (.ref b74), .val (.ref b76), .unset, .unset, .unset] [(.int (1 : Int32)), (.int (j0_0 p0 p1))])) _
      refine XS.icmpNo X85.here hx rfl (hb hby at_45) rfl (flt hc99).1 ?_
      show Steps p.tables e below (T85.setTop (mkF m 48 #[.val (.int p0), .val (.int p1), .val (.int p2), .val (.int p3), .val (.int p4), .val (.int (j0_0 p0 p1)), .val (.ref b74), .val (.ref b76), .unset, .unset, .unset] [])) _
      refine XS.iload X85.here hx rfl (hb hby at_48) rfl ?_
      show Steps p.tables e below (T85.setTop (mkF m 50 #[.val (.int p0), .val (.int p1), .val (.int p2), .val (.int p3), .val (.int p4), .val (.int (j0_0 p0 p1)), .val (.ref b74), .val (.ref b76), .unset, .unset, .unset] [(.int (j0_0 p0 p1))])) _
      refine XS.iconst X85.here hx rfl (hb hby at_50) ?_
      by_cases hc101 : (4 : Int32) < (j0_0 p0 p1)
      · skip
        show Steps p.tables e below (T85.setTop (mkF m 51 #[.val (.int p0), .val (.int p1), .val (.int p2), .val (.int p3), .val (.int p4), .val (.int (j0_0 p0 p1)), .val (.ref b74), .val (.ref b76), .unset, .unset, .unset] [(.int (4 : Int32)), (.int (j0_0 p0 p1))])) _
        refine XS.icmpYes X85.here hx rfl (pc0 := 51) (pc' := 58) rfl (hb hby at_51) rfl (tlt hc101).2.2.1 (by decide) (by decide) ?_
        show Steps p.tables e below (T85.setTop (mkF m 58 #[.val (.int p0), .val (.int p1), .val (.int p2), .val (.int p3), .val (.int p4), .val (.int (j0_0 p0 p1)), .val (.ref b74), .val (.ref b76), .unset, .unset, .unset] [])) _
        refine XS.iconst X85.here hx rfl (hb hby at_58) ?_
        have hj102 : (j0_1 p0 p1) = (0 : Int32) := by unfold j0_1; first | (rw [if_neg hc99, if_pos hc101]) | (simp only [if_neg hc99, if_pos hc101])
        rw [hj102] at k
        exact k
      · skip
        show Steps p.tables e below (T85.setTop (mkF m 51 #[.val (.int p0), .val (.int p1), .val (.int p2), .val (.int p3), .val (.int p4), .val (.int (j0_0 p0 p1)), .val (.ref b74), .val (.ref b76), .unset, .unset, .unset] [(.int (4 : Int32)), (.int (j0_0 p0 p1))])) _
        refine XS.icmpNo X85.here hx rfl (hb hby at_51) rfl (flt hc101).2.2.1 ?_
        show Steps p.tables e below (T85.setTop (mkF m 54 #[.val (.int p0), .val (.int p1), .val (.int p2), .val (.int p3), .val (.int p4), .val (.int (j0_0 p0 p1)), .val (.ref b74), .val (.ref b76), .unset, .unset, .unset] [])) _
        refine XS.iconst X85.here hx rfl (hb hby at_54) ?_
        show Steps p.tables e below (T85.setTop (mkF m 55 #[.val (.int p0), .val (.int p1), .val (.int p2), .val (.int p3), .val (.int p4), .val (.int (j0_0 p0 p1)), .val (.ref b74), .val (.ref b76), .unset, .unset, .unset] [(.int (1 : Int32))])) _
        refine XS.goto X85.here hx rfl (pc0 := 55) (pc' := 59) rfl (hb hby at_55) (by decide) (by decide) ?_
        have hj103 : (j0_1 p0 p1) = (1 : Int32) := by unfold j0_1; first | (rw [if_neg hc99, if_neg hc101]) | (simp only [if_neg hc99, if_neg hc101])
        rw [hj103] at k
        exact k)
  have pre104 := fun (t : State) (k : Steps p.tables e below (T85.setTop (mkF m 65 #[.val (.int p0), .val (.int p1), .val (.int p2), .val (.int p3), .val (.int p4), .val (.int (j0_0 p0 p1)), .val (.ref b74), .val (.ref b76), .val (.int (j0_1 p0 p1)), .unset, .unset] [(.int ((j0_0 p0 p1) &&& (1 : Int32)))])) t) => pre98 t (by
    show Steps p.tables e below (T85.setTop (mkF m 59 #[.val (.int p0), .val (.int p1), .val (.int p2), .val (.int p3), .val (.int p4), .val (.int (j0_0 p0 p1)), .val (.ref b74), .val (.ref b76), .unset, .unset, .unset] [(.int (j0_1 p0 p1))])) _
    refine XS.istore X85.here hx rfl (hb hby at_59) rfl (l' := #[.val (.int p0), .val (.int p1), .val (.int p2), .val (.int p3), .val (.int p4), .val (.int (j0_0 p0 p1)), .val (.ref b74), .val (.ref b76), .val (.int (j0_1 p0 p1)), .unset, .unset]) rfl ?_
    show Steps p.tables e below (T85.setTop (mkF m 61 #[.val (.int p0), .val (.int p1), .val (.int p2), .val (.int p3), .val (.int p4), .val (.int (j0_0 p0 p1)), .val (.ref b74), .val (.ref b76), .val (.int (j0_1 p0 p1)), .unset, .unset] [])) _
    refine XS.iload X85.here hx rfl (hb hby at_61) rfl ?_
    show Steps p.tables e below (T85.setTop (mkF m 63 #[.val (.int p0), .val (.int p1), .val (.int p2), .val (.int p3), .val (.int p4), .val (.int (j0_0 p0 p1)), .val (.ref b74), .val (.ref b76), .val (.int (j0_1 p0 p1)), .unset, .unset] [(.int (j0_0 p0 p1))])) _
    refine XS.iconst X85.here hx rfl (hb hby at_63) ?_
    show Steps p.tables e below (T85.setTop (mkF m 64 #[.val (.int p0), .val (.int p1), .val (.int p2), .val (.int p3), .val (.int p4), .val (.int (j0_0 p0 p1)), .val (.ref b74), .val (.ref b76), .val (.int (j0_1 p0 p1)), .unset, .unset] [(.int (1 : Int32)), (.int (j0_0 p0 p1))])) _
    refine XS.iand X85.here hx rfl (hb hby at_64) rfl ?_
    exact k)
  have pre105 := fun (t : State) (k : Steps p.tables e below (T85.setTop (mkF m 73 #[.val (.int p0), .val (.int p1), .val (.int p2), .val (.int p3), .val (.int p4), .val (.int (j0_0 p0 p1)), .val (.ref b74), .val (.ref b76), .val (.int (j0_1 p0 p1)), .unset, .unset] [(.int (j0_2 p0 p1))])) t) => pre104 t (by
    by_cases hc106 : ((j0_0 p0 p1) &&& (1 : Int32)) = (0 : Int32)
    · skip
      show Steps p.tables e below (T85.setTop (mkF m 65 #[.val (.int p0), .val (.int p1), .val (.int p2), .val (.int p3), .val (.int p4), .val (.int (j0_0 p0 p1)), .val (.ref b74), .val (.ref b76), .val (.int (j0_1 p0 p1)), .unset, .unset] [(.int ((j0_0 p0 p1) &&& (1 : Int32)))])) _
      refine XS.ifNo X85.here hx rfl (hb hby at_65) rfl ((if0 _ _).trans (teq hc106).2) ?_
      show Steps p.tables e below (T85.setTop (mkF m 68 #[.val (.int p0), .val (.int p1), .val (.int p2), .val (.int p3), .val (.int p4), .val (.int (j0_0 p0 p1)), .val (.ref b74), .val (.ref b76), .val (.int (j0_1 p0 p1)), .unset, .unset] [])) _
      refine XS.iconst X85.here hx rfl (hb hby at_68) ?_
      show Steps p.tables e below (T85.setTop (mkF m 69 #[.val (.int p0), .val (.int p1), .val (.int p2), .val (.int p3), .val (.int p4), .val (.int (j0_0 p0 p1)), .val (.ref b74), .val (.ref b76), .val (.int (j0_1 p0 p1)), .unset, .unset] [(.int (1 : Int32))])) _
      refine XS.goto X85.here hx rfl (pc0 := 69) (pc' := 73) rfl (hb hby at_69) (by decide) (by decide) ?_
      have hj107 : (j0_2 p0 p1) = (1 : Int32) := by unfold j0_2; first | (rw [if_pos hc106]) | (simp only [if_pos hc106])
      rw [hj107] at k
      exact k
    · skip
      show Steps p.tables e below (T85.setTop (mkF m 65 #[.val (.int p0), .val (.int p1), .val (.int p2), .val (.int p3), .val (.int p4), .val (.int (j0_0 p0 p1)), .val (.ref b74), .val (.ref b76), .val (.int (j0_1 p0 p1)), .unset, .unset] [(.int ((j0_0 p0 p1) &&& (1 : Int32)))])) _
      refine XS.ifYes X85.here hx rfl (pc0 := 65) (pc' := 72) rfl (hb hby at_65) rfl ((if0 _ _).trans (feq hc106).2) (by decide) (by decide) ?_
      show Steps p.tables e below (T85.setTop (mkF m 72 #[.val (.int p0), .val (.int p1), .val (.int p2), .val (.int p3), .val (.int p4), .val (.int (j0_0 p0 p1)), .val (.ref b74), .val (.ref b76), .val (.int (j0_1 p0 p1)), .unset, .unset] [])) _
      refine XS.iconst X85.here hx rfl (hb hby at_72) ?_
      have hj108 : (j0_2 p0 p1) = (0 : Int32) := by unfold j0_2; first | (rw [if_neg hc106]) | (simp only [if_neg hc106])
      rw [hj108] at k
      exact k)
  have pre111 := fun (t : State) (k : Steps p.tables e below (T85.setTop (mkF m 77 #[.val (.int p0), .val (.int p1), .val (.int p2), .val (.int p3), .val (.int p4), .val (.int (j0_0 p0 p1)), .val (.ref b74), .val (.ref b76), .val (.int (j0_1 p0 p1)), .val (.int (j0_2 p0 p1)), .unset] [(.int (j0_1 p0 p1))])) t) => pre105 t (by
    show Steps p.tables e below (T85.setTop (mkF m 73 #[.val (.int p0), .val (.int p1), .val (.int p2), .val (.int p3), .val (.int p4), .val (.int (j0_0 p0 p1)), .val (.ref b74), .val (.ref b76), .val (.int (j0_1 p0 p1)), .unset, .unset] [(.int (j0_2 p0 p1))])) _
    refine XS.istore X85.here hx rfl (hb hby at_73) rfl (l' := #[.val (.int p0), .val (.int p1), .val (.int p2), .val (.int p3), .val (.int p4), .val (.int (j0_0 p0 p1)), .val (.ref b74), .val (.ref b76), .val (.int (j0_1 p0 p1)), .val (.int (j0_2 p0 p1)), .unset]) rfl ?_
    show Steps p.tables e below (T85.setTop (mkF m 75 #[.val (.int p0), .val (.int p1), .val (.int p2), .val (.int p3), .val (.int p4), .val (.int (j0_0 p0 p1)), .val (.ref b74), .val (.ref b76), .val (.int (j0_1 p0 p1)), .val (.int (j0_2 p0 p1)), .unset] [])) _
    refine XS.iload X85.here hx rfl (hb hby at_75) rfl ?_
    exact k)
  have pre112 := fun (t : State) (k : Steps p.tables e below (T85.setTop (mkF m 90 #[.val (.int p0), .val (.int p1), .val (.int p2), .val (.int p3), .val (.int p4), .val (.int (j0_0 p0 p1)), .val (.ref b74), .val (.ref b76), .val (.int (j0_1 p0 p1)), .val (.int (j0_2 p0 p1)), .unset] [(.int (j0_3 p0 p1))])) t) => pre111 t (by
    by_cases hc113 : (j0_1 p0 p1) = (0 : Int32)
    · skip
      show Steps p.tables e below (T85.setTop (mkF m 77 #[.val (.int p0), .val (.int p1), .val (.int p2), .val (.int p3), .val (.int p4), .val (.int (j0_0 p0 p1)), .val (.ref b74), .val (.ref b76), .val (.int (j0_1 p0 p1)), .val (.int (j0_2 p0 p1)), .unset] [(.int (j0_1 p0 p1))])) _
      refine XS.ifYes X85.here hx rfl (pc0 := 77) (pc' := 89) rfl (hb hby at_77) rfl ((if0 _ _).trans (teq hc113).1) (by decide) (by decide) ?_
      show Steps p.tables e below (T85.setTop (mkF m 89 #[.val (.int p0), .val (.int p1), .val (.int p2), .val (.int p3), .val (.int p4), .val (.int (j0_0 p0 p1)), .val (.ref b74), .val (.ref b76), .val (.int (j0_1 p0 p1)), .val (.int (j0_2 p0 p1)), .unset] [])) _
      refine XS.iconst X85.here hx rfl (hb hby at_89) ?_
      have hj114 : (j0_3 p0 p1) = (0 : Int32) := by unfold j0_3; first | (rw [if_pos hc113]) | (simp only [if_pos hc113])
      rw [hj114] at k
      exact k
    · skip
      show Steps p.tables e below (T85.setTop (mkF m 77 #[.val (.int p0), .val (.int p1), .val (.int p2), .val (.int p3), .val (.int p4), .val (.int (j0_0 p0 p1)), .val (.ref b74), .val (.ref b76), .val (.int (j0_1 p0 p1)), .val (.int (j0_2 p0 p1)), .unset] [(.int (j0_1 p0 p1))])) _
      refine XS.ifNo X85.here hx rfl (hb hby at_77) rfl ((if0 _ _).trans (feq hc113).1) ?_
      show Steps p.tables e below (T85.setTop (mkF m 80 #[.val (.int p0), .val (.int p1), .val (.int p2), .val (.int p3), .val (.int p4), .val (.int (j0_0 p0 p1)), .val (.ref b74), .val (.ref b76), .val (.int (j0_1 p0 p1)), .val (.int (j0_2 p0 p1)), .unset] [])) _
      refine XS.iload X85.here hx rfl (hb hby at_80) rfl ?_
      by_cases hc115 : (j0_2 p0 p1) = (0 : Int32)
      · skip
        show Steps p.tables e below (T85.setTop (mkF m 82 #[.val (.int p0), .val (.int p1), .val (.int p2), .val (.int p3), .val (.int p4), .val (.int (j0_0 p0 p1)), .val (.ref b74), .val (.ref b76), .val (.int (j0_1 p0 p1)), .val (.int (j0_2 p0 p1)), .unset] [(.int (j0_2 p0 p1))])) _
        refine XS.ifYes X85.here hx rfl (pc0 := 82) (pc' := 89) rfl (hb hby at_82) rfl ((if0 _ _).trans (teq hc115).1) (by decide) (by decide) ?_
        show Steps p.tables e below (T85.setTop (mkF m 89 #[.val (.int p0), .val (.int p1), .val (.int p2), .val (.int p3), .val (.int p4), .val (.int (j0_0 p0 p1)), .val (.ref b74), .val (.ref b76), .val (.int (j0_1 p0 p1)), .val (.int (j0_2 p0 p1)), .unset] [])) _
        refine XS.iconst X85.here hx rfl (hb hby at_89) ?_
        have hj116 : (j0_3 p0 p1) = (0 : Int32) := by unfold j0_3; first | (rw [if_neg hc113, if_pos hc115]) | (simp only [if_neg hc113, if_pos hc115])
        rw [hj116] at k
        exact k
      · skip
        show Steps p.tables e below (T85.setTop (mkF m 82 #[.val (.int p0), .val (.int p1), .val (.int p2), .val (.int p3), .val (.int p4), .val (.int (j0_0 p0 p1)), .val (.ref b74), .val (.ref b76), .val (.int (j0_1 p0 p1)), .val (.int (j0_2 p0 p1)), .unset] [(.int (j0_2 p0 p1))])) _
        refine XS.ifNo X85.here hx rfl (hb hby at_82) rfl ((if0 _ _).trans (feq hc115).1) ?_
        show Steps p.tables e below (T85.setTop (mkF m 85 #[.val (.int p0), .val (.int p1), .val (.int p2), .val (.int p3), .val (.int p4), .val (.int (j0_0 p0 p1)), .val (.ref b74), .val (.ref b76), .val (.int (j0_1 p0 p1)), .val (.int (j0_2 p0 p1)), .unset] [])) _
        refine XS.iconst X85.here hx rfl (hb hby at_85) ?_
        show Steps p.tables e below (T85.setTop (mkF m 86 #[.val (.int p0), .val (.int p1), .val (.int p2), .val (.int p3), .val (.int p4), .val (.int (j0_0 p0 p1)), .val (.ref b74), .val (.ref b76), .val (.int (j0_1 p0 p1)), .val (.int (j0_2 p0 p1)), .unset] [(.int (1 : Int32))])) _
        refine XS.goto X85.here hx rfl (pc0 := 86) (pc' := 90) rfl (hb hby at_86) (by decide) (by decide) ?_
        have hj117 : (j0_3 p0 p1) = (1 : Int32) := by unfold j0_3; first | (rw [if_neg hc113, if_neg hc115]) | (simp only [if_neg hc113, if_neg hc115])
        rw [hj117] at k
        exact k)
  obtain ⟨cq118, kq118, q118a, q118b, q118c⟩ := isOf hZ e85 f86
  obtain ⟨_, _, ⟨T118, L118, k118, n118⟩, -, X118, ⟨Lc118, hQ118, l118, y118, z118⟩, st118⟩ := X85.virtualBack hx (y := (⟨"com/example/rollcall/rollcall/nas/ProtectedNasMessage", "ciphered", "()Z"⟩ : MethodName)) (z := (⟨"com/example/rollcall/rollcall/nas/ProtectedNasMessage", "ciphered", "()Z"⟩ : MethodName)) hown (mvT hZ (hw _ (List.mem_of_getElem? (i := 25) rfl))) (mvT hZ (hw _ (List.mem_of_getElem? (i := 26) rfl))) (notFace_of_selects (args := #[]) (mvT hZ (hw _ (List.mem_of_getElem? (i := 28) rfl)))) (mvT hZ (hw _ (List.mem_of_getElem? (i := 28) rfl))) (mvT hZ (hw _ (List.mem_of_getElem? (i := 27) rfl))) (by decide) (backOf (W := 0) (rm4 l Z aw hw [] b76 ((j0_0 p0 p1)) h85 n0 Z85 f86 f87) hZ (hw _ (List.mem_of_getElem? (i := 29) rfl)) (hw _ (List.mem_of_getElem? (i := 3) rfl)) (by decide) (by decide)) q118a q118c (g := (mkF m 94 #[.val (.int p0), .val (.int p1), .val (.int p2), .val (.int p3), .val (.int p4), .val (.int (j0_0 p0 p1)), .val (.ref b74), .val (.ref b76), .val (.int (j0_1 p0 p1)), .val (.int (j0_2 p0 p1)), .val (.int (j0_3 p0 p1))] [(.ref b76)])) rfl (by rw [hml]; rfl) (Steps.refl _) (argsL := []) (rest := []) (lenOf pd_4 rfl) rfl (by show 2 * 0 + _ ≤ _; exact Nat.le_of_eq rfl) (hb hby at_94) (fun _ _ => ⟨rfl, e85, (by decide : 2 + 0 ≤ _), (by decide : 8 + 0 ≤ _)⟩)
  dsimp only [Pt.U, Pt.locs, Pt.cells, Pt.slots] at X118 l118 y118 z118 st118 hQ118
  subst l118 y118 z118
  obtain ⟨rfl, N118q, e118⟩ := hQ118
  have N118 := Fr.app N85 N118q
  have pre119 := fun (t : State) (k : Steps p.tables e below (T118.setTop (mkF m 99 #[.val (.int p0), .val (.int p1), .val (.int p2), .val (.int p3), .val (.int p4), .val (.int (j0_0 p0 p1)), .val (.ref b74), .val (.ref b76), .val (.int (j0_1 p0 p1)), .val (.int (j0_2 p0 p1)), .val (.int (j0_3 p0 p1))] [(.int (j0_3 p0 p1)), (.int (nar .boolean (j4_0 (j0_0 p0 p1))))])) t) => pre112 t (by
    show Steps p.tables e below (T85.setTop (mkF m 90 #[.val (.int p0), .val (.int p1), .val (.int p2), .val (.int p3), .val (.int p4), .val (.int (j0_0 p0 p1)), .val (.ref b74), .val (.ref b76), .val (.int (j0_1 p0 p1)), .val (.int (j0_2 p0 p1)), .unset] [(.int (j0_3 p0 p1))])) _
    refine XS.istore X85.here hx rfl (hb hby at_90) rfl (l' := #[.val (.int p0), .val (.int p1), .val (.int p2), .val (.int p3), .val (.int p4), .val (.int (j0_0 p0 p1)), .val (.ref b74), .val (.ref b76), .val (.int (j0_1 p0 p1)), .val (.int (j0_2 p0 p1)), .val (.int (j0_3 p0 p1))]) rfl ?_
    show Steps p.tables e below (T85.setTop (mkF m 92 #[.val (.int p0), .val (.int p1), .val (.int p2), .val (.int p3), .val (.int p4), .val (.int (j0_0 p0 p1)), .val (.ref b74), .val (.ref b76), .val (.int (j0_1 p0 p1)), .val (.int (j0_2 p0 p1)), .val (.int (j0_3 p0 p1))] [])) _
    refine XS.aload X85.here hx rfl (hb hby at_92) rfl rfl ?_
    show Steps p.tables e below (T85.setTop (mkF m 94 #[.val (.int p0), .val (.int p1), .val (.int p2), .val (.int p3), .val (.int p4), .val (.int (j0_0 p0 p1)), .val (.ref b74), .val (.ref b76), .val (.int (j0_1 p0 p1)), .val (.int (j0_2 p0 p1)), .val (.int (j0_3 p0 p1))] [(.ref b76)])) _
    refine st118.trans ?_
    show Steps p.tables e below (T118.setTop (mkF m 97 #[.val (.int p0), .val (.int p1), .val (.int p2), .val (.int p3), .val (.int p4), .val (.int (j0_0 p0 p1)), .val (.ref b74), .val (.ref b76), .val (.int (j0_1 p0 p1)), .val (.int (j0_2 p0 p1)), .val (.int (j0_3 p0 p1))] [(.int (nar .boolean (j4_0 (j0_0 p0 p1))))])) _
    refine XS.iload X118.here hx rfl (hb hby at_97) rfl ?_
    exact k)
  have pre120 := fun (t : State) (k : Steps p.tables e below (T118.setTop (mkF m 107 #[.val (.int p0), .val (.int p1), .val (.int p2), .val (.int p3), .val (.int p4), .val (.int (j0_0 p0 p1)), .val (.ref b74), .val (.ref b76), .val (.int (j0_1 p0 p1)), .val (.int (j0_2 p0 p1)), .val (.int (j0_3 p0 p1))] [(.int (j0_4 p0 p1))])) t) => pre119 t (by
    by_cases hc121 : (nar .boolean (j4_0 (j0_0 p0 p1))) = (j0_3 p0 p1)
    · skip
      show Steps p.tables e below (T118.setTop (mkF m 99 #[.val (.int p0), .val (.int p1), .val (.int p2), .val (.int p3), .val (.int p4), .val (.int (j0_0 p0 p1)), .val (.ref b74), .val (.ref b76), .val (.int (j0_1 p0 p1)), .val (.int (j0_2 p0 p1)), .val (.int (j0_3 p0 p1))] [(.int (j0_3 p0 p1)), (.int (nar .boolean (j4_0 (j0_0 p0 p1))))])) _
      refine XS.icmpNo X118.here hx rfl (hb hby at_99) rfl (teq hc121).2 ?_
      show Steps p.tables e below (T118.setTop (mkF m 102 #[.val (.int p0), .val (.int p1), .val (.int p2), .val (.int p3), .val (.int p4), .val (.int (j0_0 p0 p1)), .val (.ref b74), .val (.ref b76), .val (.int (j0_1 p0 p1)), .val (.int (j0_2 p0 p1)), .val (.int (j0_3 p0 p1))] [])) _
      refine XS.iconst X118.here hx rfl (hb hby at_102) ?_
      show Steps p.tables e below (T118.setTop (mkF m 103 #[.val (.int p0), .val (.int p1), .val (.int p2), .val (.int p3), .val (.int p4), .val (.int (j0_0 p0 p1)), .val (.ref b74), .val (.ref b76), .val (.int (j0_1 p0 p1)), .val (.int (j0_2 p0 p1)), .val (.int (j0_3 p0 p1))] [(.int (1 : Int32))])) _
      refine XS.goto X118.here hx rfl (pc0 := 103) (pc' := 107) rfl (hb hby at_103) (by decide) (by decide) ?_
      have hj122 : (j0_4 p0 p1) = (1 : Int32) := by unfold j0_4; first | (rw [if_pos hc121]) | (simp only [if_pos hc121])
      rw [hj122] at k
      exact k
    · skip
      show Steps p.tables e below (T118.setTop (mkF m 99 #[.val (.int p0), .val (.int p1), .val (.int p2), .val (.int p3), .val (.int p4), .val (.int (j0_0 p0 p1)), .val (.ref b74), .val (.ref b76), .val (.int (j0_1 p0 p1)), .val (.int (j0_2 p0 p1)), .val (.int (j0_3 p0 p1))] [(.int (j0_3 p0 p1)), (.int (nar .boolean (j4_0 (j0_0 p0 p1))))])) _
      refine XS.icmpYes X118.here hx rfl (pc0 := 99) (pc' := 106) rfl (hb hby at_99) rfl (feq hc121).2 (by decide) (by decide) ?_
      show Steps p.tables e below (T118.setTop (mkF m 106 #[.val (.int p0), .val (.int p1), .val (.int p2), .val (.int p3), .val (.int p4), .val (.int (j0_0 p0 p1)), .val (.ref b74), .val (.ref b76), .val (.int (j0_1 p0 p1)), .val (.int (j0_2 p0 p1)), .val (.int (j0_3 p0 p1))] [])) _
      refine XS.iconst X118.here hx rfl (hb hby at_106) ?_
      have hj123 : (j0_4 p0 p1) = (0 : Int32) := by unfold j0_4; first | (rw [if_neg hc121]) | (simp only [if_neg hc121])
      rw [hj123] at k
      exact k)
  obtain ⟨fs, hr, hrun, hended, hW, hsame⟩ := X118.leave (v := some (.int (nar .boolean (j0_4 p0 p1)))) (fun h => by rw [Bd.returns] at h; cases h)
  refine ⟨_, _, pre120 _ ?_, hrun, hended, _, _, rfl, ?_, ⟨_, rfl⟩, hW, hsame.mono (by decide) (by decide)⟩
  · skip
    show Steps p.tables e below (T118.setTop (mkF m 107 #[.val (.int p0), .val (.int p1), .val (.int p2), .val (.int p3), .val (.int p4), .val (.int (j0_0 p0 p1)), .val (.ref b74), .val (.ref b76), .val (.int (j0_1 p0 p1)), .val (.int (j0_2 p0 p1)), .val (.int (j0_3 p0 p1))] [(.int (j0_4 p0 p1))])) _
    exact retN X118 hx (t := .boolean) Bd.returns (by simp) (hb hby at_107) hr
  · show Q0 Z p0 p1 p2 p3 p4 h0 n0 _ T118.heap _
    rw [e118]
    exact ⟨rfl, N118⟩
theorem own_core (t x y z : Int32) (hx : x = if t < (1 : Int32) then (0 : Int32) else (if (4 : Int32) < t then (0 : Int32) else (1 : Int32))) (hy : y = if (t &&& (1 : Int32)) = (0 : Int32) then (1 : Int32) else (0 : Int32)) (hz : z = if x = (0 : Int32) then (0 : Int32) else (if y = (0 : Int32) then (0 : Int32) else (1 : Int32))) : nar .boolean (j4_0 t) = z := by
  have n0 : nar .boolean 0 = 0 := rfl
  have n1 : nar .boolean 1 = 1 := rfl
  have e : (t &&& (1 : Int32)).toInt = t.toInt % 2 ^ 1 := Jvm.Kit.i32_mask t 1 (k := 1) (by decide) (by decide)
  have q : ¬ (1 : Int32) = 0 := by decide
  subst hx hy hz
  unfold j4_0
  repeat' split
  all_goals first | rfl | (exfalso; simp only [Int32.lt_iff_toInt_lt, ← Int32.toInt_inj, Int32.reduceToInt, n0, n1, q, e] at *; omega) | (exfalso; simp_all; done)
theorem law_one (p0 p1 : Int32) : (nar .boolean (j0_4 p0 p1)) = 1 := by
  unfold j0_4
  rw [if_pos (own_core (j0_0 p0 p1) (j0_1 p0 p1) (j0_2 p0 p1) (j0_3 p0 p1) rfl rfl rfl)]
  rfl
set_option maxRecDepth 65536 in
set_option maxHeartbeats 40000000 in
theorem comes_1 {Post : Tables → Env → Array Value → State → Outcome → State → Prop} (hpost : ∀ tb e args s v u, (limb_1_1.after args s (.returned v) u = true ∧ limb_1_2.after args s (.returned v) u = true ∧ True) → FrameEnd s (.returned v) u (Jvm.fieldLocs frame_1_writes args s ++ Jvm.arrayLocs frame_1_arrays args s ++ Jvm.staticLocs frame_1_statics s) 16 128 → Post tb e args s (.returned v) u) :
    ArmFor flags0 classFile x code maxLocals ret World_1 tables_1 room_1 Calls_1 rest_1 Pre_1 Post := by
  intro l hfl _ _ p e ha hc hk s m args below hf hA hF happ hP
  obtain ⟨hcalls, hrest, hpre⟩ := hP
  obtain ⟨-, -, -, hnamed, -, -, -, hat⟩ := (Spec.applies_iff hf).mp happ
  obtain ⟨hg, hn⟩ := and_e (Cond.before_iff.mp (show (Jvm.Cond.and given_1 narrow_1).before args s = true from hpre))
  obtain ⟨hcount, r0⟩ := and_e hg
  obtain ⟨k0, r1⟩ := and_e r0
  obtain ⟨k1, r2⟩ := and_e r1
  obtain ⟨k2, r3⟩ := and_e r2
  obtain ⟨k3, r4⟩ := and_e r3
  have k4 := r4
  obtain ⟨w0, w1, w2, w3, w4, rfl⟩ : ∃ w0 w1 w2 w3 w4 : Value, args = #[w0, w1, w2, w3, w4] := by
    have hs : args.size = 5 := by simpa [Cond.value, given_1] using hcount
    obtain ⟨L⟩ := args
    match L, hs with
    | [w0, w1, w2, w3, w4], _ => exact ⟨w0, w1, w2, w3, w4, rfl⟩
  have hw := fun d (hd : d ∈ tables_1) => atoms_spec (ws := Jvm.Cond.code x code maxLocals ret :: tables_1) hat d (List.mem_cons_of_mem _ hd)
  obtain ⟨i0, ei0⟩ := is_v k0
  obtain rfl : w0 = (.int i0) := Option.some.inj ei0
  obtain ⟨i1, ei1⟩ := is_v k1
  obtain rfl : w1 = (.int i1) := Option.some.inj ei1
  obtain ⟨i2, ei2⟩ := is_v k2
  obtain rfl : w2 = (.int i2) := Option.some.inj ei2
  obtain ⟨i3, ei3⟩ := is_v k3
  obtain rfl : w3 = (.int i3) := Option.some.inj ei3
  obtain ⟨i4, ei4⟩ := is_v k4
  obtain rfl : w4 = (.int i4) := Option.some.inj ei4
  obtain ⟨n, o, h1, h2, h3, v, L, rfl, ⟨hv, N⟩, hq⟩ := rm0 l s _ hw tables_1 i0 i1 i2 i3 i4 s.heap s.heap.size (Nat.le_refl _) p e ha hc hk s m _ below hf ((Spec.applies_iff_loose hf).mp happ).1 ⟨rfl, State.Warmed39.refl s, rfl⟩ trivial
  rw [law_one i0 i1] at hv
  subst hv
  refine ⟨n, _, h1, h2, h3, hpost _ _ _ _ _ _ ⟨Cond.after_iff.mpr rfl, Cond.after_iff.mpr (eq_i res_at (Term.int_eval (1)) rfl), trivial⟩ ⟨hq.1, hq.2.1, (hq.2.2.sift fun y hy => Or.inr (N y hy)).mono (by decide) (by decide)⟩⟩
theorem main_1_1 : Claimed_1_1 := comes_1 fun _ _ _ _ _ _ h hF => ⟨h.1, hF⟩
theorem main_1_2 : Claimed_1_2 := comes_1 fun _ _ _ _ _ _ h hF => ⟨h.2.1, hF⟩
end Jvm.Pilot.@@N@@
namespace Jvm.Pilot.@@N@@
open Jvm Jvm.ClassFile Sem Op Lib Jvm.Free Jvm.Stand Jvm.Pilot.@@N@@.Jvm.D
/-! MADE BY PROGRAM (witnessworld.py) out of the Statement's table words and the real class files: 11 classes; the members and pool entries that the words name. The judged class is class 1, her method 1. -/
namespace start1
open Jvm.ClassFile
def u (s : String) : CpInfo := .utf8 (stringToUtf16 s)
/-- a pool by its gaps: so many unusable entries, then the entry; so many at the end -/
def gap : Nat → List CpInfo → List CpInfo
  | 0, r => r
  | n + 1, r => .unusable :: gap n r
def poolList (es : List (Nat × CpInfo)) (last : Nat) : List CpInfo := es.foldr (fun e r => gap e.1 (e.2 :: r)) (gap last [])
def pool (es : List (Nat × CpInfo)) (last : Nat) : Array CpInfo := ⟨poolList es last⟩
def fileOf (pool : Array CpInfo) (this : Nat) (attrs : Array Attribute := #[]) (ms : Array MethodInfo := #[]) (fl : Nat := 33) (sup : Nat := 0) (ifs : Array Nat := #[]) (fds : Array FieldInfo := #[]) : ClassFile where
  minorVersion := 0
  majorVersion := 65
  constantPool := pool
  accessFlags := fl
  thisClass := this
  superClass := sup
  interfaces := ifs
  fields := fds
  methods := ms
  attributes := attrs
def plain (name : String) (sup : Option ClassId) : Class where
  name := name
  kind := .ordinary
  loader := none
  accessFlags := 33
  super := sup
  interfaces := #[]
  cf := none
  fields := #[]
  methods := #[]
  instanceTypes := #[]
  staticTypes := #[]
  resolved := #[]
  callSites := []
  init := .initialized
  statics := none
  mirror := none

def pool0 : Array CpInfo := pool [(5, u "<init>"), (0, u "()V"), (1, .class_ 10), (1, u "java/lang/Object")] 113

def k0c0 : Code := { maxStack := 0, maxLocals := 1, code := object_method_1_code, exceptionTable := #[], attributes := #[] }
def k0m0 : Method := { name := "<init>", desc := "()V", sig := { parameters := [], returnType := none }, accessFlags := 1, code := some k0c0 }
/-- java/lang/Object -/
def k0 : Class := { plain "java/lang/Object" none with
  accessFlags := 33
  interfaces := #[]
  cf := some (fileOf pool0 8 #[] #[{ accessFlags := 1, nameIndex := 5, descriptorIndex := 6, attributes := #[] }] 33 0 #[] #[])
  fields := #[]
  methods := #[k0m0]
  instanceTypes := #[]
  staticTypes := #[]
  resolved := Array.replicate 124 none
  statics := none }

def pool1 : Array CpInfo := pool [(2, .class_ 4), (1, u "java/lang/Object"), (0, u "<init>"), (0, u "()V"), (0, .class_ 8), (0, u "com/example/rollcall/rollcall/nas/ProtectedNasMessage"), (0, .methodref 7 10), (0, .nameAndType 5 11), (0, u "(III[BLcom/example/rollcall/rollcall/nas/PlainNasMessage;)V"), (0, .methodref 7 13), (0, .nameAndType 14 15), (0, u "ciphered"), (0, u "()Z"), (0, .class_ 17), (0, u "com/example/rollcall/rollcall/nas/ProtectedNasMessageCipheredPinLaw"), (2, u "law"), (0, u "(IIIII)Z")] 5

def k1m0 : Method := { name := "<init>", desc := "()V", sig := { parameters := [], returnType := none }, accessFlags := 2, code := none }
def k1c1 : Code := { maxStack := 7, maxLocals := 11, code := code, exceptionTable := #[], attributes := #[] }
def k1m1 : Method := { name := "law", desc := "(IIIII)Z", sig := { parameters := [.int, .int, .int, .int, .int], returnType := some .boolean }, accessFlags := 9, code := some k1c1 }
/-- com/example/rollcall/rollcall/nas/ProtectedNasMessageCipheredPinLaw -/
def k1 : Class := { plain "com/example/rollcall/rollcall/nas/ProtectedNasMessageCipheredPinLaw" (some 0) with
  accessFlags := 49
  interfaces := #[]
  cf := some (fileOf pool1 16 #[] #[{ accessFlags := 2, nameIndex := 5, descriptorIndex := 6, attributes := #[] }, { accessFlags := 9, nameIndex := 20, descriptorIndex := 21, attributes := #[] }] 49 2 #[] #[])
  fields := #[]
  methods := #[k1m0, k1m1]
  instanceTypes := #[]
  staticTypes := #[]
  resolved := Array.replicate 27 none
  statics := none }

def pool2 : Array CpInfo := pool [(1, .methodref 2 3), (0, .class_ 4), (0, .nameAndType 5 6), (0, u "java/lang/Object"), (0, u "<init>"), (0, u "()V"), (0, .class_ 8), (0, u "java/lang/Record")] 13

def k2c0 : Code := { maxStack := 1, maxLocals := 1, code := jdk_30_method_1_code, exceptionTable := #[], attributes := #[] }
def k2m0 : Method := { name := "<init>", desc := "()V", sig := { parameters := [], returnType := none }, accessFlags := 4, code := some k2c0 }
/-- java/lang/Record -/
def k2 : Class := { plain "java/lang/Record" (some 0) with
  accessFlags := 1057
  interfaces := #[]
  cf := some (fileOf pool2 7 #[] #[{ accessFlags := 4, nameIndex := 5, descriptorIndex := 6, attributes := #[] }] 1057 2 #[] #[])
  fields := #[]
  methods := #[k2m0]
  instanceTypes := #[]
  staticTypes := #[]
  resolved := Array.replicate 22 none
  statics := none }

def pool3 : Array CpInfo := pool [(1, .class_ 2), (0, u "com/example/rollcall/rollcall/nas/NasMessage"), (0, .class_ 4), (0, u "java/lang/Object")] 9

/-- com/example/rollcall/rollcall/nas/NasMessage -/
def k3 : Class := { plain "com/example/rollcall/rollcall/nas/NasMessage" (some 0) with
  accessFlags := 1537
  interfaces := #[]
  cf := some (fileOf pool3 1 #[] #[] 1537 3 #[] #[])
  fields := #[]
  methods := #[]
  instanceTypes := #[]
  staticTypes := #[]
  resolved := Array.replicate 14 none
  statics := none }

def pool4 : Array CpInfo := pool [(1, .methodref 2 3), (0, .class_ 4), (0, .nameAndType 5 6), (0, u "java/lang/Record"), (0, u "<init>"), (0, u "()V"), (0, .fieldref 8 9), (0, .class_ 10), (0, .nameAndType 11 12), (0, u "com/example/rollcall/rollcall/nas/ProtectedNasMessage"), (0, u "securityHeaderType"), (0, u "I"), (0, .fieldref 8 14), (0, .nameAndType 15 12), (0, u "messageAuthenticationCode"), (0, .fieldref 8 17), (0, .nameAndType 18 12), (0, u "sequenceNumber"), (0, .fieldref 8 20), (0, .nameAndType 21 22), (0, u "payload"), (0, u "[B"), (0, .fieldref 8 24), (0, .nameAndType 25 26), (0, u "plain"), (0, u "Lcom/example/rollcall/rollcall/nas/PlainNasMessage;"), (12, .class_ 40), (0, u "com/example/rollcall/rollcall/nas/NasMessage"), (0, u "(III[BLcom/example/rollcall/rollcall/nas/PlainNasMessage;)V"), (3, u "ciphered"), (0, u "()Z")] 30

def k4c0 : Code := { maxStack := 2, maxLocals := 6, code := prog_63_method_1_code, exceptionTable := #[], attributes := #[] }
def k4m0 : Method := { name := "<init>", desc := "(III[BLcom/example/rollcall/rollcall/nas/PlainNasMessage;)V", sig := { parameters := [.int, .int, .int, (.array .byte), (.object "com/example/rollcall/rollcall/nas/PlainNasMessage")], returnType := none }, accessFlags := 1, code := some k4c0 }
def k4c1 : Code := { maxStack := 2, maxLocals := 1, code := prog_63_method_2_code, exceptionTable := #[], attributes := #[] }
def k4m1 : Method := { name := "ciphered", desc := "()Z", sig := { parameters := [], returnType := some .boolean }, accessFlags := 1, code := some k4c1 }
/-- com/example/rollcall/rollcall/nas/ProtectedNasMessage -/
def k4 : Class := { plain "com/example/rollcall/rollcall/nas/ProtectedNasMessage" (some 2) with
  accessFlags := 49
  interfaces := #[3]
  cf := some (fileOf pool4 8 #[] #[{ accessFlags := 1, nameIndex := 5, descriptorIndex := 41, attributes := #[] }, { accessFlags := 1, nameIndex := 45, descriptorIndex := 46, attributes := #[] }] 49 2 #[39] #[{ accessFlags := 18, nameIndex := 11, descriptorIndex := 12, attributes := #[] }, { accessFlags := 18, nameIndex := 15, descriptorIndex := 12, attributes := #[] }, { accessFlags := 18, nameIndex := 18, descriptorIndex := 12, attributes := #[] }, { accessFlags := 18, nameIndex := 21, descriptorIndex := 22, attributes := #[] }, { accessFlags := 18, nameIndex := 25, descriptorIndex := 26, attributes := #[] }])
  fields := #[{ name := "securityHeaderType", type := .int, accessFlags := 18, slot := 0, constantValue := 0 }, { name := "messageAuthenticationCode", type := .int, accessFlags := 18, slot := 1, constantValue := 0 }, { name := "sequenceNumber", type := .int, accessFlags := 18, slot := 2, constantValue := 0 }, { name := "payload", type := (.array .byte), accessFlags := 18, slot := 3, constantValue := 0 }, { name := "plain", type := (.object "com/example/rollcall/rollcall/nas/PlainNasMessage"), accessFlags := 18, slot := 4, constantValue := 0 }]
  methods := #[k4m0, k4m1]
  instanceTypes := #[.int, .int, .int, (.array .byte), (.object "com/example/rollcall/rollcall/nas/PlainNasMessage")]
  staticTypes := #[]
  resolved := Array.replicate 77 none
  statics := none }

def pool5 : Array CpInfo := pool [(1, u "java/lang/Cloneable"), (0, .class_ 1), (0, u "java/lang/Object"), (0, .class_ 3)] 3

/-- java/lang/Cloneable -/
def k5 : Class := { plain "java/lang/Cloneable" (some 0) with
  accessFlags := 1537
  interfaces := #[]
  cf := some (fileOf pool5 2 #[] #[] 1537 4 #[] #[])
  fields := #[]
  methods := #[]
  instanceTypes := #[]
  staticTypes := #[]
  resolved := Array.replicate 8 none
  statics := none }

def pool6 : Array CpInfo := pool [(1, u "java/io/Serializable"), (0, .class_ 1), (0, u "java/lang/Object"), (0, .class_ 3)] 3

/-- java/io/Serializable -/
def k6 : Class := { plain "java/io/Serializable" (some 0) with
  accessFlags := 1537
  interfaces := #[]
  cf := some (fileOf pool6 2 #[] #[] 1537 4 #[] #[])
  fields := #[]
  methods := #[]
  instanceTypes := #[]
  staticTypes := #[]
  resolved := Array.replicate 8 none
  statics := none }

/-- the primitive byte -/
def k7 : Class := { plain "byte" none with kind := .primitive 'B', accessFlags := 0x411 }
/-- [B -/
def k8 : Class := { plain "[B" (some 0) with kind := .array 7 .byte, interfaces := #[5, 6], accessFlags := 1041 }

/-- the primitive int -/
def k9 : Class := { plain "int" none with kind := .primitive 'I', accessFlags := 0x411 }
/-- [I -/
def k10 : Class := { plain "[I" (some 0) with kind := .array 9 .int, interfaces := #[5, 6], accessFlags := 1041 }

def heap : Heap := #[]
def classes : Array Class := #[k0, k1, k2, k3, k4, k5, k6, k7, k8, k9, k10]
def interned : List (Array UInt16 × Addr) := []
def slotsUsed : Nat := 0
def theMethod : MethodId := ⟨1, 1⟩
def args0 : Array Value := #[.int 5, .int 5, .int 5, .int 5, .int 5]
def aboutOver (below : List Frame) : State where
  vm := { classes := classes, interned := interned.toArray }
  heap := heap
  slotsUsed := slotsUsed
  threads := #[{ frames := .invoking theMethod args0 :: below }]
def below0 : List Frame := [.native { method := ⟨0, 0⟩, args := #[] }]
def about1 : State := aboutOver below0
def p0 : Program := .bare "" "" ""
def e0 : Env := launch0.env 0 0 0
theorem w_frames : about1.frames = Frame.invoking theMethod args0 :: below0 := rfl
set_option maxRecDepth 65536 in
theorem w_args : argsFit about1.vm theMethod args0 = true := by decide +kernel
set_option maxRecDepth 65536 in
theorem w_heap : heapFits about1 = true := by decide +kernel
set_option maxRecDepth 65536 in
theorem w_runnable : about1.curStatus? = some .runnable := by decide +kernel
set_option maxRecDepth 65536 in
theorem w_alone : about1.alone = true := by decide +kernel
set_option maxRecDepth 65536 in
theorem w_named : about1.methodNamed? x = some theMethod := by decide +kernel
set_option maxRecDepth 65536 in
theorem w_hears : about1.hears theMethod below0 = true := by decide +kernel
set_option maxRecDepth 65536 in
theorem w_ripe : about1.ripe theMethod args0 below0 = true := by decide +kernel
theorem w_running : about1.status = .running := rfl
set_option maxRecDepth 65536 in
theorem w_room : about1.hasRoom e0.platform room_1 = true :=
  launch0.hasRoom_least _ room_1 (by decide +kernel) (by decide +kernel) (by decide +kernel) (by decide +kernel) (by decide +kernel) (by decide +kernel)
theorem allAtoms_all (ts : List Jvm.Cond) (a : Array Jvm.Value) (st : Jvm.State) : (allAtoms ts).before a st = ts.all (fun c => c.before a st) := by
  induction ts with
  | nil => rfl
  | cons c t ih =>
    show (Jvm.Cond.and c (allAtoms t)).before a st = _
    rw [Jvm.Cond.before_and, ih, List.all_cons]
def words1 : List Jvm.Cond := Jvm.Cond.code x code maxLocals ret :: tables_1
/-- a 'code' word, met by the world's own term for the bytes: nothing is compared byte by byte -/
theorem code_word {y : MethodName} {bytes : ByteArray} {mx : Nat} {rt : Option FieldType} {a : Array Value} {s : State} {m : MethodId} {meth : Method} {c : Code} (h1 : s.methodNamed? y = some m) (h2 : s.vm.method? m = some meth) (h3 : meth.code = some c) (h4 : c.code = bytes)
    (h5 : (c.maxLocals == mx && c.exceptionTable.isEmpty && decide (c.maxStack ≤ mostOperands) && decide (meth.sig.returnType = rt) && !meth.locks && decide (parseMethodDescriptor y.desc = some meth.sig)) = true) : (Jvm.Cond.code y bytes mx rt).before a s = true := by
  simp only [Bool.and_eq_true, beq_iff_eq, Bool.not_eq_true', decide_eq_true_eq] at h5
  obtain ⟨⟨⟨⟨⟨g1, g2⟩, g3⟩, g4⟩, g5⟩, g6⟩ := h5
  simp [Cond.before, Cond.holds, Cond.value, h1, h2, h3, h4, g1, g2, g3, g4, g5, g6]
def isCode : Jvm.Cond → Bool
  | .code _ _ _ _ => true
  | _ => false
theorem all_split {L : List Jvm.Cond} {P : Jvm.Cond → Bool} (h1 : L.all (fun c => isCode c || P c) = true) (h2 : ∀ c ∈ L.filter isCode, P c = true) : L.all P = true := by
  refine List.all_eq_true.mpr fun c hc => ?_
  have h := List.all_eq_true.mp h1 c hc
  rcases Bool.eq_false_or_eq_true (isCode c) with hi | hi
  · exact h2 c (List.mem_filter.mpr ⟨hc, hi⟩)
  · simpa [hi] using h
set_option maxRecDepth 65536 in
theorem w_c0 : (Jvm.Cond.code x code maxLocals ret).before args0 about1 = true := code_word (m := ⟨1, 1⟩) (meth := k1m1) (c := k1c1) (by decide +kernel) rfl rfl rfl (by decide +kernel)
set_option maxRecDepth 65536 in
theorem w_c1 : (Jvm.Cond.code ({ cls := "com/example/rollcall/rollcall/nas/ProtectedNasMessage", name := "<init>", desc := "(III[BLcom/example/rollcall/rollcall/nas/PlainNasMessage;)V" } : Jvm.MethodName) prog_63_method_1_code (6 : Nat) (Option.none : Option Jvm.ClassFile.FieldType)).before args0 about1 = true := code_word (m := ⟨4, 0⟩) (meth := k4m0) (c := k4c0) (by decide +kernel) rfl rfl rfl (by decide +kernel)
set_option maxRecDepth 65536 in
theorem w_c2 : (Jvm.Cond.code ({ cls := "java/lang/Record", name := "<init>", desc := "()V" } : Jvm.MethodName) jdk_30_method_1_code (1 : Nat) (Option.none : Option Jvm.ClassFile.FieldType)).before args0 about1 = true := code_word (m := ⟨2, 0⟩) (meth := k2m0) (c := k2c0) (by decide +kernel) rfl rfl rfl (by decide +kernel)
set_option maxRecDepth 65536 in
theorem w_c3 : (Jvm.Cond.code ({ cls := "java/lang/Object", name := "<init>", desc := "()V" } : Jvm.MethodName) object_method_1_code (1 : Nat) (Option.none : Option Jvm.ClassFile.FieldType)).before args0 about1 = true := code_word (m := ⟨0, 0⟩) (meth := k0m0) (c := k0c0) (by decide +kernel) rfl rfl rfl (by decide +kernel)
set_option maxRecDepth 65536 in
theorem w_c4 : (Jvm.Cond.code ({ cls := "com/example/rollcall/rollcall/nas/ProtectedNasMessage", name := "ciphered", desc := "()Z" } : Jvm.MethodName) prog_63_method_2_code (1 : Nat) (Option.some Jvm.ClassFile.FieldType.boolean)).before args0 about1 = true := code_word (m := ⟨4, 1⟩) (meth := k4m1) (c := k4c1) (by decide +kernel) rfl rfl rfl (by decide +kernel)
def codes1 : List Jvm.Cond := [Jvm.Cond.code x code maxLocals ret, Jvm.Cond.code ({ cls := "com/example/rollcall/rollcall/nas/ProtectedNasMessage", name := "<init>", desc := "(III[BLcom/example/rollcall/rollcall/nas/PlainNasMessage;)V" } : Jvm.MethodName) prog_63_method_1_code (6 : Nat) (Option.none : Option Jvm.ClassFile.FieldType), Jvm.Cond.code ({ cls := "java/lang/Record", name := "<init>", desc := "()V" } : Jvm.MethodName) jdk_30_method_1_code (1 : Nat) (Option.none : Option Jvm.ClassFile.FieldType), Jvm.Cond.code ({ cls := "java/lang/Object", name := "<init>", desc := "()V" } : Jvm.MethodName) object_method_1_code (1 : Nat) (Option.none : Option Jvm.ClassFile.FieldType), Jvm.Cond.code ({ cls := "com/example/rollcall/rollcall/nas/ProtectedNasMessage", name := "ciphered", desc := "()Z" } : Jvm.MethodName) prog_63_method_2_code (1 : Nat) (Option.some Jvm.ClassFile.FieldType.boolean)]
set_option maxRecDepth 65536 in
theorem codes_eq : words1.filter isCode = codes1 := rfl
theorem w_codes : ∀ c ∈ words1.filter isCode, c.before args0 about1 = true := by
  rw [codes_eq]
  intro c hc
  simp only [codes1, List.mem_cons, List.not_mem_nil, or_false] at hc
  rcases hc with rfl | rfl | rfl | rfl | rfl
  · exact w_c0
  · exact w_c1
  · exact w_c2
  · exact w_c3
  · exact w_c4
set_option maxRecDepth 65536 in
theorem w_t1 : (words1.take 24).all (fun c => isCode c || c.before args0 about1) = true := by decide +kernel
set_option maxRecDepth 65536 in
theorem w_t2 : (words1.drop 24).all (fun c => isCode c || c.before args0 about1) = true := by decide +kernel
theorem w_tables : (allAtoms (Jvm.Cond.code x code maxLocals ret :: tables_1)).before args0 about1 = true := by
  rw [allAtoms_all]
  show words1.all (fun c => c.before args0 about1) = true
  refine all_split ?_ w_codes
  rw [← List.take_append_drop 24 words1, List.all_append, w_t1, w_t2]
  rfl
set_option maxRecDepth 65536 in
theorem w_case : (Jvm.Cond.and given_1 narrow_1).before args0 about1 = true := by decide +kernel
theorem w_applies : (headSpec (Jvm.Cond.code x code maxLocals ret :: tables_1) room_1).applies x e0.platform about1 = true :=
  (Spec.applies_iff w_frames).mpr ⟨w_running, w_runnable, w_alone, w_named, w_hears, w_ripe, w_room, w_tables⟩
theorem atStart : AtStart classFile x code maxLocals ret World_1 tables_1 room_1 Calls_1 rest_1 Pre_1 launch0 p0 e0 about1 theMethod args0 below0 :=
  ⟨lists_1, trivial, launch0.admits_env _ _ _, launch0.least_env, fairChoices_fair.cas, fairChoices_fair.clock, w_frames, w_args, w_heap, w_applies, trivial, trivial, w_case⟩
end start1
theorem witness_1 : WitnessClaimed_1 := ⟨start1.p0, start1.e0, start1.about1, start1.theMethod, start1.args0, start1.below0, start1.atStart⟩
end Jvm.Pilot.@@N@@
