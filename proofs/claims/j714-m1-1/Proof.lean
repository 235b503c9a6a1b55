import JvmDerived
import JvmDerived.Pilot.@@N@@Statement
import JvmDerived.Pilot.@@N@@Code
set_option linter.unusedVariables false
set_option linter.unusedSimpArgs false
@@BLOCK:NumsL.lean.txt@@
namespace Jvm.Pilot.@@N@@
open Jvm Jvm.ClassFile Sem Op Lib Jvm.Free Jvm.Stand Jvm.LawKit Jvm.RoadKit Bundle Jvm.Pilot.@@N@@.Jvm.D
theorem own_m {Z : State} {aw : Array Value} (hw : ∀ d ∈ tables_1, d.before aw Z = true) (i : Nat) {d : Jvm.Cond} (h : tables_1[i]? = some d) : d.before aw Z = true := hw d (List.mem_of_getElem? h)
theorem own_tnc (x : Int32) : x.toNatClampNeg = x.toInt.toNat := rfl
theorem own_lc (x y : Int64) : lcmpW x y = if x > y then 1 else if x = y then 0 else -1 := rfl
theorem own_lt (x y : Int64) : lcmpW x y < 0 ↔ x < y := by
  rw [own_lc]; split
  · rename_i h; exact ⟨fun q => absurd q (by decide), fun q => absurd h (Int64.lt_asymm q)⟩
  · split
    · rename_i h1 h2; subst h2; exact ⟨fun q => absurd q (by decide), fun q => absurd q Int64.lt_irrefl⟩
    · rename_i h1 h2; exact ⟨fun _ => (Int64.lt_or_lt_of_ne h2).resolve_right h1, fun _ => by decide⟩
theorem own_gt (x y : Int64) : 0 < lcmpW x y ↔ y < x := by
  rw [own_lc]; split
  · rename_i h; exact ⟨fun _ => h, fun _ => by decide⟩
  · split
    · rename_i h1 h2; exact ⟨fun q => absurd q (by decide), fun q => absurd q h1⟩
    · rename_i h1 h2; exact ⟨fun q => absurd q (by decide), fun q => absurd q h1⟩
theorem own_eq (x y : Int64) : lcmpW x y = 0 ↔ x = y := by
  rw [own_lc]; split
  · rename_i h; exact ⟨fun q => absurd q (by decide), fun q => absurd (q ▸ h) Int64.lt_irrefl⟩
  · split
    · rename_i h1 h2; exact ⟨fun _ => h2, fun _ => rfl⟩
    · rename_i h1 h2; exact ⟨fun q => absurd q (by decide), fun q => absurd q h2⟩
theorem d2_0 : decode method_3_code 0 = .ok (.iload_n 0, 1) := by decide +kernel
theorem d2_1 : decode method_3_code 1 = .ok (.bipush 8, 2) := by decide +kernel
theorem d2_3 : decode method_3_code 3 = .ok (.iload_n 1, 1) := by decide +kernel
theorem d2_4 : decode method_3_code 4 = .ok (.imul, 1) := by decide +kernel
theorem d2_5 : decode method_3_code 5 = .ok (.iushr, 1) := by decide +kernel
theorem d2_6 : decode method_3_code 6 = .ok (.i2b, 1) := by decide +kernel
theorem d2_7 : decode method_3_code 7 = .ok (.ireturn, 1) := by decide +kernel
theorem pn_1 : plainName "com/example/rollcall/rollcall/bench/MilenageXorPinLaw" = true := by first | (simp [plainName, overriddenIn]; done) | decide +kernel
theorem ef2 (m : MethodId) (x0 : Int32) (x1 : Int32) : entryFrame m #[(.int x0), (.int x1)] 2 = mkF m 0 #[.val (.int x0), .val (.int x1)] [] := by first | (simp [entryFrame, mkF, argsToLocals, Value.category]; done) | rfl
abbrev rr2 : Room := { frames := 0, cells := 0, slots := 0, locals := 0 }
def Q2 (Z : State) (p0 : Int32) (p1 : Int32) (h0 : Heap) (n0 : Nat) (v : Option Value) (h : Heap) (L : List Loc) : Prop := v = some (.int (nar .byte (((p0.toUInt32 >>> (((8 : Int32) * p1) &&& 31).toUInt32).toInt32).toInt8.toInt32))) ∧ Fr n0 L ∧ h = h0
set_option maxRecDepth 65536 in
set_option maxHeartbeats 40000000 in
theorem rm2 (l : Launch) (Z : State) (aw : Array Value) (hw : ∀ d ∈ tables_1, d.before aw Z = true) (ws : List Jvm.Cond) (p0 : Int32) (p1 : Int32) (h0 : Heap) (n0 : Nat) (Z0 : n0 ≤ h0.size)  :
    MetFree l (⟨"com/example/rollcall/rollcall/bench/MilenageXorPinLaw", "oct", "(II)B"⟩ : MethodName) (head1 (Jvm.Cond.code (⟨"com/example/rollcall/rollcall/bench/MilenageXorPinLaw", "oct", "(II)B"⟩ : MethodName) method_3_code 2 (some .byte) :: ws) rr2) (fun a U => a = #[(.int p0), (.int p1)] ∧ Z.Warmed39 U.vm ∧ U.heap = h0) (fun _ _ _ _ _ => True) (fun _ U o U' => ∃ v L, o = .returned v ∧ Q2 Z p0 p1 h0 n0 v U'.heap L ∧ FrameEnd U o U' L rr2.cells rr2.slots) := by
  refine MetFree.of_bodySF (plainFor_of_name pn_1) hisR ?_
  intro p e s m args below meth c s₁ Bd hml0 hP hK
  obtain ⟨rfl, hZ, hh⟩ := hP
  have hx := Bd.exec
  have hby := Bd.bytes
  have hml : c.maxLocals = 2 := hml0
  have hown : s.vm.findClass "com/example/rollcall/rollcall/bench/MilenageXorPinLaw" = some m.cls := findClass_of_methodNamed Bd.named
  have hnm := (name_of_methodNamed Bd.named Bd.method).1
  have X0 : Stand p l e rr2 s m #[(.int p0), (.int p1)] below meth c s₁ [] 0 0 := Stand.of_body Bd
  have e0 : s₁.heap = h0 := by rw [← hh, Bd.state]; rfl
  have N0 := Fr.nil n0
  have pre0 : ∀ t, Steps p.tables e below (s₁.setTop (mkF m 0 #[.val (.int p0), .val (.int p1)] [])) t → Steps p.tables e below (s₁.setTop (entryFrame m #[(.int p0), (.int p1)] 2)) t := fun t k => castTop (ef2 m p0 p1) k
  obtain ⟨fs, hr, hrun, hended, hW, hsame⟩ := X0.leave (v := some (.int (nar .byte (((p0.toUInt32 >>> (((8 : Int32) * p1) &&& 31).toUInt32).toInt32).toInt8.toInt32)))) (fun h => by rw [Bd.returns] at h; cases h)
  refine ⟨_, _, pre0 _ ?_, hrun, hended, _, _, rfl, ?_, ⟨_, rfl⟩, hW, hsame.mono (by decide) (by decide)⟩
  · skip
    show Steps p.tables e below (s₁.setTop (mkF m 0 #[.val (.int p0), .val (.int p1)] [])) _
    refine XS.iloadN X0.here hx rfl (hb hby d2_0) rfl ?_
    show Steps p.tables e below (s₁.setTop (mkF m 1 #[.val (.int p0), .val (.int p1)] [(.int p0)])) _
    refine XS.bipush X0.here hx rfl (hb hby d2_1) ?_
    show Steps p.tables e below (s₁.setTop (mkF m 3 #[.val (.int p0), .val (.int p1)] [(.int (8 : Int32)), (.int p0)])) _
    refine XS.iloadN X0.here hx rfl (hb hby d2_3) rfl ?_
    show Steps p.tables e below (s₁.setTop (mkF m 4 #[.val (.int p0), .val (.int p1)] [(.int p1), (.int (8 : Int32)), (.int p0)])) _
    refine XS.imul X0.here hx rfl (hb hby d2_4) rfl ?_
    show Steps p.tables e below (s₁.setTop (mkF m 5 #[.val (.int p0), .val (.int p1)] [(.int ((8 : Int32) * p1)), (.int p0)])) _
    refine XS.iushr X0.here hx rfl (hb hby d2_5) rfl ?_
    show Steps p.tables e below (s₁.setTop (mkF m 6 #[.val (.int p0), .val (.int p1)] [(.int ((p0.toUInt32 >>> (((8 : Int32) * p1) &&& 31).toUInt32).toInt32))])) _
    refine XS.i2b X0.here hx rfl (hb hby d2_6) rfl ?_
    show Steps p.tables e below (s₁.setTop (mkF m 7 #[.val (.int p0), .val (.int p1)] [(.int (((p0.toUInt32 >>> (((8 : Int32) * p1) &&& 31).toUInt32).toInt32).toInt8.toInt32))])) _
    exact retN X0 hx (t := .byte) Bd.returns (by simp) (hb hby d2_7) hr
  · show Q2 Z p0 p1 h0 n0 _ s₁.heap _
    rw [e0]
    exact ⟨rfl, N0, rfl⟩
theorem own_bb (x : Int32) : nar .byte (nar .byte x) = nar .byte x := by
  show x.toInt8.toInt32.toInt8.toInt32 = x.toInt8.toInt32
  rw [Int8.toInt8_toInt32]
theorem own_xx (x y : Int32) : nar .byte ((nar .byte (nar .byte x) ^^^ nar .byte (nar .byte y)).toInt8.toInt32) = ((nar .byte x ^^^ nar .byte y).toInt8.toInt32) := by
  rw [own_bb, own_bb]
  exact own_bb _
theorem d1_0 : decode method_4_code 0 = .ok (.iload_n 1, 1) := by decide +kernel
theorem d1_1 : decode method_4_code 1 = .ok (.newarray .byte, 2) := by decide +kernel
theorem d1_3 : decode method_4_code 3 = .ok (.astore_n 2, 1) := by decide +kernel
theorem d1_4 : decode method_4_code 4 = .ok (.iload_n 1, 1) := by decide +kernel
theorem d1_5 : decode method_4_code 5 = .ok (.ifCond .le 11, 3) := by decide +kernel
theorem d1_16 : decode method_4_code 16 = .ok (.iload_n 1, 1) := by decide +kernel
theorem d1_17 : decode method_4_code 17 = .ok (.iconst 1, 1) := by decide +kernel
theorem d1_18 : decode method_4_code 18 = .ok (.if_icmp .le 11, 3) := by decide +kernel
theorem d1_29 : decode method_4_code 29 = .ok (.iload_n 1, 1) := by decide +kernel
theorem d1_30 : decode method_4_code 30 = .ok (.iconst 2, 1) := by decide +kernel
theorem d1_31 : decode method_4_code 31 = .ok (.if_icmp .le 11, 3) := by decide +kernel
theorem d1_42 : decode method_4_code 42 = .ok (.iload_n 1, 1) := by decide +kernel
theorem d1_43 : decode method_4_code 43 = .ok (.iconst 3, 1) := by decide +kernel
theorem d1_44 : decode method_4_code 44 = .ok (.if_icmp .le 11, 3) := by decide +kernel
theorem d1_55 : decode method_4_code 55 = .ok (.aload_n 2, 1) := by decide +kernel
theorem d1_56 : decode method_4_code 56 = .ok (.areturn, 1) := by decide +kernel
theorem ef1_0 (m : MethodId) (x0 : Int32) (x1 : Int32) : entryFrame m #[(.int x0), (.int x1)] 3 = mkF m 0 #[.val (.int x0), .val (.int x1), .unset] [] := by first | (simp [entryFrame, mkF, argsToLocals, Value.category]; done) | rfl
abbrev rr1_0 : Room := { frames := 0, cells := 1, slots := 0, locals := 0 }
def Q1_0 (Z : State) (p0 : Int32) (h0 : Heap) (n0 : Nat) (v : Option Value) (h : Heap) (L : List Loc) : Prop := ∃ (x0 : Addr) (y0 : ClassId), v = some (.ref x0) ∧ Fr n0 L ∧ Keep h0 h [] ∧ n0 ≤ x0 ∧ h0.size ≤ x0 ∧ Arv Z h x0 y0 .byte (0 : Int32) [] (.int (0 : Int32))
set_option maxRecDepth 65536 in
set_option maxHeartbeats 40000000 in
theorem rm1_0 (l : Launch) (Z : State) (aw : Array Value) (hw : ∀ d ∈ tables_1, d.before aw Z = true) (ws : List Jvm.Cond) (p0 : Int32) (h0 : Heap) (n0 : Nat) (Z0 : n0 ≤ h0.size)  :
    MetFree l (⟨"com/example/rollcall/rollcall/bench/MilenageXorPinLaw", "bytes", "(II)[B"⟩ : MethodName) (head1 (Jvm.Cond.code (⟨"com/example/rollcall/rollcall/bench/MilenageXorPinLaw", "bytes", "(II)[B"⟩ : MethodName) method_4_code 3 (some (.array .byte)) :: ws) rr1_0) (fun a U => a = #[(.int p0), (.int (0 : Int32))] ∧ Z.Warmed39 U.vm ∧ U.heap = h0) (fun _ _ _ _ _ => True) (fun _ U o U' => ∃ v L, o = .returned v ∧ Q1_0 Z p0 h0 n0 v U'.heap L ∧ FrameEnd U o U' L rr1_0.cells rr1_0.slots) := by
  refine MetFree.of_bodySF (plainFor_of_name pn_1) hisR ?_
  intro p e s m args below meth c s₁ Bd hml0 hP hK
  obtain ⟨rfl, hZ, hh⟩ := hP
  have hx := Bd.exec
  have hby := Bd.bytes
  have hml : c.maxLocals = 3 := hml0
  have hown : s.vm.findClass "com/example/rollcall/rollcall/bench/MilenageXorPinLaw" = some m.cls := findClass_of_methodNamed Bd.named
  have hnm := (name_of_methodNamed Bd.named Bd.method).1
  have X0 : Stand p l e rr1_0 s m #[(.int p0), (.int (0 : Int32))] below meth c s₁ [] 0 0 := Stand.of_body Bd
  have e0 : s₁.heap = h0 := by rw [← hh, Bd.state]; rfl
  have N0 := Fr.nil n0
  have K0 := Keep.refl h0 []
  have pre0 : ∀ t, Steps p.tables e below (s₁.setTop (mkF m 0 #[.val (.int p0), .val (.int (0 : Int32)), .unset] [])) t → Steps p.tables e below (s₁.setTop (entryFrame m #[(.int p0), (.int (0 : Int32))] 3)) t := fun t k => castTop (ef1_0 m p0 (0 : Int32)) k
  obtain ⟨T1, h1, k1, X1, e1, E1, A1, st1⟩ := newP X0 hx hZ (hw _ (List.mem_of_getElem? (i := 4) rfl)) e0 (g := (mkF m 1 #[.val (.int p0), .val (.int (0 : Int32)), .unset] [(.int (0 : Int32))])) rfl (hb hby d1_1) rfl (by decide) (cap := 0) (by decide) (by decide) (by decide) (by decide)
  obtain ⟨b1, gg1⟩ : ∃ z, z = h0.size := ⟨_, rfl⟩
  rw [← gg1] at A1 st1
  have g_b1 : n0 ≤ b1 := Nat.le_trans Z0 (Nat.le_of_eq gg1.symm)
  have sz_b1 : h0.size ≤ b1 := Nat.le_trans K0.1 (Nat.le_of_eq gg1.symm)
  have K2 := K0.ext E1
  have Z3 := Nat.le_trans Z0 E1.1
  have V1 : Arv Z h1 b1 k1 .byte (0 : Int32) [] (.int (0 : Int32)) := (Arv.new A1 (by decide)).pad (pad_rep [] (.int (0 : Int32)) 0)
  obtain ⟨fs, hr, hrun, hended, hW, hsame⟩ := X1.leave (v := some (.ref b1)) (fun h => by rw [Bd.returns] at h; cases h)
  refine ⟨_, _, pre0 _ ?_, hrun, hended, _, _, rfl, ?_, ⟨_, rfl⟩, hW, hsame.mono (by decide) (by decide)⟩
  · skip
    show Steps p.tables e below (s₁.setTop (mkF m 0 #[.val (.int p0), .val (.int (0 : Int32)), .unset] [])) _
    refine XS.iloadN X0.here hx rfl (hb hby d1_0) rfl ?_
    show Steps p.tables e below (s₁.setTop (mkF m 1 #[.val (.int p0), .val (.int (0 : Int32)), .unset] [(.int (0 : Int32))])) _
    refine st1 _ ?_
    show Steps p.tables e below (T1.setTop (mkF m 3 #[.val (.int p0), .val (.int (0 : Int32)), .unset] [(.ref b1)])) _
    refine XS.astoreN X1.here hx rfl (hb hby d1_3) rfl rfl (l' := #[.val (.int p0), .val (.int (0 : Int32)), .val (.ref b1)]) rfl ?_
    show Steps p.tables e below (T1.setTop (mkF m 4 #[.val (.int p0), .val (.int (0 : Int32)), .val (.ref b1)] [])) _
    refine XS.iloadN X1.here hx rfl (hb hby d1_4) rfl ?_
    show Steps p.tables e below (T1.setTop (mkF m 5 #[.val (.int p0), .val (.int (0 : Int32)), .val (.ref b1)] [(.int (0 : Int32))])) _
    refine XS.ifYes X1.here hx rfl (pc0 := 5) (pc' := 16) rfl (hb hby d1_5) rfl ((if0 _ _).trans (flt (by decide : ¬ ((0 : Int32) < (0 : Int32)))).2.2.2) (by decide) (by decide) ?_
    show Steps p.tables e below (T1.setTop (mkF m 16 #[.val (.int p0), .val (.int (0 : Int32)), .val (.ref b1)] [])) _
    refine XS.iloadN X1.here hx rfl (hb hby d1_16) rfl ?_
    show Steps p.tables e below (T1.setTop (mkF m 17 #[.val (.int p0), .val (.int (0 : Int32)), .val (.ref b1)] [(.int (0 : Int32))])) _
    refine XS.iconst X1.here hx rfl (hb hby d1_17) ?_
    show Steps p.tables e below (T1.setTop (mkF m 18 #[.val (.int p0), .val (.int (0 : Int32)), .val (.ref b1)] [(.int (1 : Int32)), (.int (0 : Int32))])) _
    refine XS.icmpYes X1.here hx rfl (pc0 := 18) (pc' := 29) rfl (hb hby d1_18) rfl (flt (by decide : ¬ ((1 : Int32) < (0 : Int32)))).2.2.2 (by decide) (by decide) ?_
    show Steps p.tables e below (T1.setTop (mkF m 29 #[.val (.int p0), .val (.int (0 : Int32)), .val (.ref b1)] [])) _
    refine XS.iloadN X1.here hx rfl (hb hby d1_29) rfl ?_
    show Steps p.tables e below (T1.setTop (mkF m 30 #[.val (.int p0), .val (.int (0 : Int32)), .val (.ref b1)] [(.int (0 : Int32))])) _
    refine XS.iconst X1.here hx rfl (hb hby d1_30) ?_
    show Steps p.tables e below (T1.setTop (mkF m 31 #[.val (.int p0), .val (.int (0 : Int32)), .val (.ref b1)] [(.int (2 : Int32)), (.int (0 : Int32))])) _
    refine XS.icmpYes X1.here hx rfl (pc0 := 31) (pc' := 42) rfl (hb hby d1_31) rfl (flt (by decide : ¬ ((2 : Int32) < (0 : Int32)))).2.2.2 (by decide) (by decide) ?_
    show Steps p.tables e below (T1.setTop (mkF m 42 #[.val (.int p0), .val (.int (0 : Int32)), .val (.ref b1)] [])) _
    refine XS.iloadN X1.here hx rfl (hb hby d1_42) rfl ?_
    show Steps p.tables e below (T1.setTop (mkF m 43 #[.val (.int p0), .val (.int (0 : Int32)), .val (.ref b1)] [(.int (0 : Int32))])) _
    refine XS.iconst X1.here hx rfl (hb hby d1_43) ?_
    show Steps p.tables e below (T1.setTop (mkF m 44 #[.val (.int p0), .val (.int (0 : Int32)), .val (.ref b1)] [(.int (3 : Int32)), (.int (0 : Int32))])) _
    refine XS.icmpYes X1.here hx rfl (pc0 := 44) (pc' := 55) rfl (hb hby d1_44) rfl (flt (by decide : ¬ ((3 : Int32) < (0 : Int32)))).2.2.2 (by decide) (by decide) ?_
    show Steps p.tables e below (T1.setTop (mkF m 55 #[.val (.int p0), .val (.int (0 : Int32)), .val (.ref b1)] [])) _
    refine XS.aloadN X1.here hx rfl (hb hby d1_55) rfl rfl ?_
    show Steps p.tables e below (T1.setTop (mkF m 56 #[.val (.int p0), .val (.int (0 : Int32)), .val (.ref b1)] [(.ref b1)])) _
    exact retOut X1 hx Bd.returns rfl (Or.inr (Or.inr (Or.inr (Or.inr ⟨rfl, rfl, rfl⟩)))) (hb hby d1_56) hr
  · show Q1_0 Z p0 h0 n0 _ T1.heap _
    rw [e1]
    exact ⟨b1, k1, rfl, N0, K2, g_b1, sz_b1, V1⟩
theorem d1_8 : decode method_4_code 8 = .ok (.aload_n 2, 1) := by decide +kernel
theorem d1_9 : decode method_4_code 9 = .ok (.iconst 0, 1) := by decide +kernel
theorem d1_10 : decode method_4_code 10 = .ok (.iload_n 0, 1) := by decide +kernel
theorem d1_11 : decode method_4_code 11 = .ok (.iconst 0, 1) := by decide +kernel
theorem pd_1 : parseMethodDescriptor "(II)B" = some ⟨[.int, .int], some .byte⟩ := by decide +kernel
theorem d1_12 : decode method_4_code 12 = .ok (.invokestatic 27, 3) := by decide +kernel
theorem d1_15 : decode method_4_code 15 = .ok (.bastore, 1) := by decide +kernel
theorem ef1_1 (m : MethodId) (x0 : Int32) (x1 : Int32) : entryFrame m #[(.int x0), (.int x1)] 3 = mkF m 0 #[.val (.int x0), .val (.int x1), .unset] [] := by first | (simp [entryFrame, mkF, argsToLocals, Value.category]; done) | rfl
abbrev rr1_1 : Room := { frames := 1, cells := 1, slots := 1, locals := 15 }
def Q1_1 (Z : State) (p0 : Int32) (h0 : Heap) (n0 : Nat) (v : Option Value) (h : Heap) (L : List Loc) : Prop := ∃ (x0 : Addr) (y0 : ClassId), v = some (.ref x0) ∧ Fr n0 L ∧ Keep h0 h [] ∧ n0 ≤ x0 ∧ h0.size ≤ x0 ∧ Arv Z h x0 y0 .byte (1 : Int32) [(.int (nar .byte (nar .byte (((p0.toUInt32 >>> (((8 : Int32) * (0 : Int32)) &&& 31).toUInt32).toInt32).toInt8.toInt32))))] (.int (0 : Int32))
set_option maxRecDepth 65536 in
set_option maxHeartbeats 40000000 in
theorem rm1_1 (l : Launch) (Z : State) (aw : Array Value) (hw : ∀ d ∈ tables_1, d.before aw Z = true) (ws : List Jvm.Cond) (p0 : Int32) (h0 : Heap) (n0 : Nat) (Z0 : n0 ≤ h0.size)  :
    MetFree l (⟨"com/example/rollcall/rollcall/bench/MilenageXorPinLaw", "bytes", "(II)[B"⟩ : MethodName) (head1 (Jvm.Cond.code (⟨"com/example/rollcall/rollcall/bench/MilenageXorPinLaw", "bytes", "(II)[B"⟩ : MethodName) method_4_code 3 (some (.array .byte)) :: ws) rr1_1) (fun a U => a = #[(.int p0), (.int (1 : Int32))] ∧ Z.Warmed39 U.vm ∧ U.heap = h0) (fun _ _ _ _ _ => True) (fun _ U o U' => ∃ v L, o = .returned v ∧ Q1_1 Z p0 h0 n0 v U'.heap L ∧ FrameEnd U o U' L rr1_1.cells rr1_1.slots) := by
  refine MetFree.of_bodySF (plainFor_of_name pn_1) hisR ?_
  intro p e s m args below meth c s₁ Bd hml0 hP hK
  obtain ⟨rfl, hZ, hh⟩ := hP
  have hx := Bd.exec
  have hby := Bd.bytes
  have hml : c.maxLocals = 3 := hml0
  have hown : s.vm.findClass "com/example/rollcall/rollcall/bench/MilenageXorPinLaw" = some m.cls := findClass_of_methodNamed Bd.named
  have hnm := (name_of_methodNamed Bd.named Bd.method).1
  have X0 : Stand p l e rr1_1 s m #[(.int p0), (.int (1 : Int32))] below meth c s₁ [] 0 0 := Stand.of_body Bd
  have e0 : s₁.heap = h0 := by rw [← hh, Bd.state]; rfl
  have N0 := Fr.nil n0
  have K0 := Keep.refl h0 []
  have pre0 : ∀ t, Steps p.tables e below (s₁.setTop (mkF m 0 #[.val (.int p0), .val (.int (1 : Int32)), .unset] [])) t → Steps p.tables e below (s₁.setTop (entryFrame m #[(.int p0), (.int (1 : Int32))] 3)) t := fun t k => castTop (ef1_1 m p0 (1 : Int32)) k
  obtain ⟨T4, h4, k4, X4, e4, E4, A4, st4⟩ := newP X0 hx hZ (hw _ (List.mem_of_getElem? (i := 4) rfl)) e0 (g := (mkF m 1 #[.val (.int p0), .val (.int (1 : Int32)), .unset] [(.int (1 : Int32))])) rfl (hb hby d1_1) rfl (by decide) (cap := 1) (by decide) (by decide) (by decide) (by decide)
  obtain ⟨b4, gg4⟩ : ∃ z, z = h0.size := ⟨_, rfl⟩
  rw [← gg4] at A4 st4
  have g_b4 : n0 ≤ b4 := Nat.le_trans Z0 (Nat.le_of_eq gg4.symm)
  have sz_b4 : h0.size ≤ b4 := Nat.le_trans K0.1 (Nat.le_of_eq gg4.symm)
  have K5 := K0.ext E4
  have Z6 := Nat.le_trans Z0 E4.1
  have V4 : Arv Z h4 b4 k4 .byte (1 : Int32) [(.int (0 : Int32))] (.int (0 : Int32)) := (Arv.new A4 (by decide)).pad (pad_rep [] (.int (0 : Int32)) 1)
  obtain ⟨_, _, ⟨T7, L7, k7, n7⟩, -, X7, ⟨Lc7, hQ7, l7, y7, z7⟩, st7⟩ := Jvm.LawKit.callS X4 hx (y := (⟨"com/example/rollcall/rollcall/bench/MilenageXorPinLaw", "oct", "(II)B"⟩ : MethodName)) hown (mvT hZ (hw _ (List.mem_of_getElem? (i := 5) rfl))) (mvT hZ (hw _ (List.mem_of_getElem? (i := 6) rfl))) (mvT hZ (hw _ (List.mem_of_getElem? (i := 2) rfl))) (mvT hZ (hw _ (List.mem_of_getElem? (i := 7) rfl))) (by decide) (backOf (W := 2) (rm2 l Z aw hw [] p0 ((0 : Int32)) h4 n0 Z6 ) hZ (hw _ (List.mem_of_getElem? (i := 7) rfl)) (hw _ (List.mem_of_getElem? (i := 2) rfl)) (by decide) (by decide)) (g := (mkF m 12 #[.val (.int p0), .val (.int (1 : Int32)), .val (.ref b4)] [(.int (0 : Int32)), (.int p0), (.int (0 : Int32)), (.ref b4)])) rfl (by rw [hml]; rfl) (argsL := [(.int p0), (.int (0 : Int32))]) (rest := [(.int (0 : Int32)), (.ref b4)]) (lenOf pd_1 rfl) rfl (by show 2 * 0 + _ ≤ _; exact Nat.le_of_eq rfl) (hb hby d1_12) (fun _ _ => ⟨rfl, e4, (by decide : 1 + 0 ≤ _), (by decide : 1 + 0 ≤ _)⟩)
  dsimp only [Pt.U, Pt.locs, Pt.cells, Pt.slots] at X7 l7 y7 z7 st7 hQ7
  subst l7 y7 z7
  obtain ⟨rfl, N7q, e7⟩ := hQ7
  have N7 := Fr.app N0 N7q
  obtain ⟨cl8, Ar8, q8, S8, M8, H8, G8⟩ := id V4
  have hin9 : ¬ ((0 : Int32) < 0 ∨ cl8.slots.size ≤ ((0 : Int32)).toNatClampNeg) := inb_of S8 ⟨by decide, by decide⟩
  obtain ⟨T10, h10, X10, e10, W10, st10⟩ := stB X7 hx hZ e7 Ar8 (j := (0 : Int32)) hin9 (g := (mkF m 15 #[.val (.int p0), .val (.int (1 : Int32)), .val (.ref b4)] [(.int (nar .byte (((p0.toUInt32 >>> (((8 : Int32) * (0 : Int32)) &&& 31).toUInt32).toInt32).toInt8.toInt32))), (.int (0 : Int32)), (.ref b4)])) rfl rfl (hb hby d1_15)
  have V10 : Arv Z h10 b4 k4 .byte (1 : Int32) [(.int (nar .byte (nar .byte (((p0.toUInt32 >>> (((8 : Int32) * (0 : Int32)) &&& 31).toUInt32).toInt32).toInt8.toInt32))))] (.int (0 : Int32)) := Arv.set Ar8 q8 S8 M8 H8 G8 (fits_nar_byte _) W10 0 rfl (Nat.le_of_ble_eq_true rfl)
  have K12 := K5.wr W10 (Or.inr sz_b4)
  have Z13 := Nat.le_trans Z6 (Keep.of_wr W10).1
  have N14 := Fr.snoc X10 N7 g_b4
  obtain ⟨fs, hr, hrun, hended, hW, hsame⟩ := X10.leave (v := some (.ref b4)) (fun h => by rw [Bd.returns] at h; cases h)
  refine ⟨_, _, pre0 _ ?_, hrun, hended, _, _, rfl, ?_, ⟨_, rfl⟩, hW, hsame.mono (by decide) (by decide)⟩
  · skip
    show Steps p.tables e below (s₁.setTop (mkF m 0 #[.val (.int p0), .val (.int (1 : Int32)), .unset] [])) _
    refine XS.iloadN X0.here hx rfl (hb hby d1_0) rfl ?_
    show Steps p.tables e below (s₁.setTop (mkF m 1 #[.val (.int p0), .val (.int (1 : Int32)), .unset] [(.int (1 : Int32))])) _
    refine st4 _ ?_
    show Steps p.tables e below (T4.setTop (mkF m 3 #[.val (.int p0), .val (.int (1 : Int32)), .unset] [(.ref b4)])) _
    refine XS.astoreN X4.here hx rfl (hb hby d1_3) rfl rfl (l' := #[.val (.int p0), .val (.int (1 : Int32)), .val (.ref b4)]) rfl ?_
    show Steps p.tables e below (T4.setTop (mkF m 4 #[.val (.int p0), .val (.int (1 : Int32)), .val (.ref b4)] [])) _
    refine XS.iloadN X4.here hx rfl (hb hby d1_4) rfl ?_
    show Steps p.tables e below (T4.setTop (mkF m 5 #[.val (.int p0), .val (.int (1 : Int32)), .val (.ref b4)] [(.int (1 : Int32))])) _
    refine XS.ifNo X4.here hx rfl (hb hby d1_5) rfl ((if0 _ _).trans (tlt (by decide : (0 : Int32) < (1 : Int32))).2.2.2) ?_
    show Steps p.tables e below (T4.setTop (mkF m 8 #[.val (.int p0), .val (.int (1 : Int32)), .val (.ref b4)] [])) _
    refine XS.aloadN X4.here hx rfl (hb hby d1_8) rfl rfl ?_
    show Steps p.tables e below (T4.setTop (mkF m 9 #[.val (.int p0), .val (.int (1 : Int32)), .val (.ref b4)] [(.ref b4)])) _
    refine XS.iconst X4.here hx rfl (hb hby d1_9) ?_
    show Steps p.tables e below (T4.setTop (mkF m 10 #[.val (.int p0), .val (.int (1 : Int32)), .val (.ref b4)] [(.int (0 : Int32)), (.ref b4)])) _
    refine XS.iloadN X4.here hx rfl (hb hby d1_10) rfl ?_
    show Steps p.tables e below (T4.setTop (mkF m 11 #[.val (.int p0), .val (.int (1 : Int32)), .val (.ref b4)] [(.int p0), (.int (0 : Int32)), (.ref b4)])) _
    refine XS.iconst X4.here hx rfl (hb hby d1_11) ?_
    show Steps p.tables e below (T4.setTop (mkF m 12 #[.val (.int p0), .val (.int (1 : Int32)), .val (.ref b4)] [(.int (0 : Int32)), (.int p0), (.int (0 : Int32)), (.ref b4)])) _
    refine st7 _ ?_
    show Steps p.tables e below (T7.setTop (mkF m 15 #[.val (.int p0), .val (.int (1 : Int32)), .val (.ref b4)] [(.int (nar .byte (((p0.toUInt32 >>> (((8 : Int32) * (0 : Int32)) &&& 31).toUInt32).toInt32).toInt8.toInt32))), (.int (0 : Int32)), (.ref b4)])) _
    refine st10 _ ?_
    show Steps p.tables e below (T10.setTop (mkF m 16 #[.val (.int p0), .val (.int (1 : Int32)), .val (.ref b4)] [])) _
    refine XS.iloadN X10.here hx rfl (hb hby d1_16) rfl ?_
    show Steps p.tables e below (T10.setTop (mkF m 17 #[.val (.int p0), .val (.int (1 : Int32)), .val (.ref b4)] [(.int (1 : Int32))])) _
    refine XS.iconst X10.here hx rfl (hb hby d1_17) ?_
    show Steps p.tables e below (T10.setTop (mkF m 18 #[.val (.int p0), .val (.int (1 : Int32)), .val (.ref b4)] [(.int (1 : Int32)), (.int (1 : Int32))])) _
    refine XS.icmpYes X10.here hx rfl (pc0 := 18) (pc' := 29) rfl (hb hby d1_18) rfl (flt (by decide : ¬ ((1 : Int32) < (1 : Int32)))).2.2.2 (by decide) (by decide) ?_
    show Steps p.tables e below (T10.setTop (mkF m 29 #[.val (.int p0), .val (.int (1 : Int32)), .val (.ref b4)] [])) _
    refine XS.iloadN X10.here hx rfl (hb hby d1_29) rfl ?_
    show Steps p.tables e below (T10.setTop (mkF m 30 #[.val (.int p0), .val (.int (1 : Int32)), .val (.ref b4)] [(.int (1 : Int32))])) _
    refine XS.iconst X10.here hx rfl (hb hby d1_30) ?_
    show Steps p.tables e below (T10.setTop (mkF m 31 #[.val (.int p0), .val (.int (1 : Int32)), .val (.ref b4)] [(.int (2 : Int32)), (.int (1 : Int32))])) _
    refine XS.icmpYes X10.here hx rfl (pc0 := 31) (pc' := 42) rfl (hb hby d1_31) rfl (flt (by decide : ¬ ((2 : Int32) < (1 : Int32)))).2.2.2 (by decide) (by decide) ?_
    show Steps p.tables e below (T10.setTop (mkF m 42 #[.val (.int p0), .val (.int (1 : Int32)), .val (.ref b4)] [])) _
    refine XS.iloadN X10.here hx rfl (hb hby d1_42) rfl ?_
    show Steps p.tables e below (T10.setTop (mkF m 43 #[.val (.int p0), .val (.int (1 : Int32)), .val (.ref b4)] [(.int (1 : Int32))])) _
    refine XS.iconst X10.here hx rfl (hb hby d1_43) ?_
    show Steps p.tables e below (T10.setTop (mkF m 44 #[.val (.int p0), .val (.int (1 : Int32)), .val (.ref b4)] [(.int (3 : Int32)), (.int (1 : Int32))])) _
    refine XS.icmpYes X10.here hx rfl (pc0 := 44) (pc' := 55) rfl (hb hby d1_44) rfl (flt (by decide : ¬ ((3 : Int32) < (1 : Int32)))).2.2.2 (by decide) (by decide) ?_
    show Steps p.tables e below (T10.setTop (mkF m 55 #[.val (.int p0), .val (.int (1 : Int32)), .val (.ref b4)] [])) _
    refine XS.aloadN X10.here hx rfl (hb hby d1_55) rfl rfl ?_
    show Steps p.tables e below (T10.setTop (mkF m 56 #[.val (.int p0), .val (.int (1 : Int32)), .val (.ref b4)] [(.ref b4)])) _
    exact retOut X10 hx Bd.returns rfl (Or.inr (Or.inr (Or.inr (Or.inr ⟨rfl, rfl, rfl⟩)))) (hb hby d1_56) hr
  · show Q1_1 Z p0 h0 n0 _ T10.heap _
    rw [e10]
    exact ⟨b4, k4, rfl, N14, K12, g_b4, sz_b4, V10⟩
theorem d1_21 : decode method_4_code 21 = .ok (.aload_n 2, 1) := by decide +kernel
theorem d1_22 : decode method_4_code 22 = .ok (.iconst 1, 1) := by decide +kernel
theorem d1_23 : decode method_4_code 23 = .ok (.iload_n 0, 1) := by decide +kernel
theorem d1_24 : decode method_4_code 24 = .ok (.iconst 1, 1) := by decide +kernel
theorem d1_25 : decode method_4_code 25 = .ok (.invokestatic 27, 3) := by decide +kernel
theorem d1_28 : decode method_4_code 28 = .ok (.bastore, 1) := by decide +kernel
theorem ef1_2 (m : MethodId) (x0 : Int32) (x1 : Int32) : entryFrame m #[(.int x0), (.int x1)] 3 = mkF m 0 #[.val (.int x0), .val (.int x1), .unset] [] := by first | (simp [entryFrame, mkF, argsToLocals, Value.category]; done) | rfl
abbrev rr1_2 : Room := { frames := 1, cells := 1, slots := 2, locals := 15 }
def Q1_2 (Z : State) (p0 : Int32) (h0 : Heap) (n0 : Nat) (v : Option Value) (h : Heap) (L : List Loc) : Prop := ∃ (x0 : Addr) (y0 : ClassId), v = some (.ref x0) ∧ Fr n0 L ∧ Keep h0 h [] ∧ n0 ≤ x0 ∧ h0.size ≤ x0 ∧ Arv Z h x0 y0 .byte (2 : Int32) [(.int (nar .byte (nar .byte (((p0.toUInt32 >>> (((8 : Int32) * (0 : Int32)) &&& 31).toUInt32).toInt32).toInt8.toInt32)))), (.int (nar .byte (nar .byte (((p0.toUInt32 >>> (((8 : Int32) * (1 : Int32)) &&& 31).toUInt32).toInt32).toInt8.toInt32))))] (.int (0 : Int32))
set_option maxRecDepth 65536 in
set_option maxHeartbeats 40000000 in
theorem rm1_2 (l : Launch) (Z : State) (aw : Array Value) (hw : ∀ d ∈ tables_1, d.before aw Z = true) (ws : List Jvm.Cond) (p0 : Int32) (h0 : Heap) (n0 : Nat) (Z0 : n0 ≤ h0.size)  :
    MetFree l (⟨"com/example/rollcall/rollcall/bench/MilenageXorPinLaw", "bytes", "(II)[B"⟩ : MethodName) (head1 (Jvm.Cond.code (⟨"com/example/rollcall/rollcall/bench/MilenageXorPinLaw", "bytes", "(II)[B"⟩ : MethodName) method_4_code 3 (some (.array .byte)) :: ws) rr1_2) (fun a U => a = #[(.int p0), (.int (2 : Int32))] ∧ Z.Warmed39 U.vm ∧ U.heap = h0) (fun _ _ _ _ _ => True) (fun _ U o U' => ∃ v L, o = .returned v ∧ Q1_2 Z p0 h0 n0 v U'.heap L ∧ FrameEnd U o U' L rr1_2.cells rr1_2.slots) := by
  refine MetFree.of_bodySF (plainFor_of_name pn_1) hisR ?_
  intro p e s m args below meth c s₁ Bd hml0 hP hK
  obtain ⟨rfl, hZ, hh⟩ := hP
  have hx := Bd.exec
  have hby := Bd.bytes
  have hml : c.maxLocals = 3 := hml0
  have hown : s.vm.findClass "com/example/rollcall/rollcall/bench/MilenageXorPinLaw" = some m.cls := findClass_of_methodNamed Bd.named
  have hnm := (name_of_methodNamed Bd.named Bd.method).1
  have X0 : Stand p l e rr1_2 s m #[(.int p0), (.int (2 : Int32))] below meth c s₁ [] 0 0 := Stand.of_body Bd
  have e0 : s₁.heap = h0 := by rw [← hh, Bd.state]; rfl
  have N0 := Fr.nil n0
  have K0 := Keep.refl h0 []
  have pre0 : ∀ t, Steps p.tables e below (s₁.setTop (mkF m 0 #[.val (.int p0), .val (.int (2 : Int32)), .unset] [])) t → Steps p.tables e below (s₁.setTop (entryFrame m #[(.int p0), (.int (2 : Int32))] 3)) t := fun t k => castTop (ef1_2 m p0 (2 : Int32)) k
  obtain ⟨T15, h15, k15, X15, e15, E15, A15, st15⟩ := newP X0 hx hZ (hw _ (List.mem_of_getElem? (i := 4) rfl)) e0 (g := (mkF m 1 #[.val (.int p0), .val (.int (2 : Int32)), .unset] [(.int (2 : Int32))])) rfl (hb hby d1_1) rfl (by decide) (cap := 2) (by decide) (by decide) (by decide) (by decide)
  obtain ⟨b15, gg15⟩ : ∃ z, z = h0.size := ⟨_, rfl⟩
  rw [← gg15] at A15 st15
  have g_b15 : n0 ≤ b15 := Nat.le_trans Z0 (Nat.le_of_eq gg15.symm)
  have sz_b15 : h0.size ≤ b15 := Nat.le_trans K0.1 (Nat.le_of_eq gg15.symm)
  have K16 := K0.ext E15
  have Z17 := Nat.le_trans Z0 E15.1
  have V15 : Arv Z h15 b15 k15 .byte (2 : Int32) [(.int (0 : Int32)), (.int (0 : Int32))] (.int (0 : Int32)) := (Arv.new A15 (by decide)).pad (pad_rep [] (.int (0 : Int32)) 2)
  obtain ⟨_, _, ⟨T18, L18, k18, n18⟩, -, X18, ⟨Lc18, hQ18, l18, y18, z18⟩, st18⟩ := Jvm.LawKit.callS X15 hx (y := (⟨"com/example/rollcall/rollcall/bench/MilenageXorPinLaw", "oct", "(II)B"⟩ : MethodName)) hown (mvT hZ (hw _ (List.mem_of_getElem? (i := 5) rfl))) (mvT hZ (hw _ (List.mem_of_getElem? (i := 6) rfl))) (mvT hZ (hw _ (List.mem_of_getElem? (i := 2) rfl))) (mvT hZ (hw _ (List.mem_of_getElem? (i := 7) rfl))) (by decide) (backOf (W := 2) (rm2 l Z aw hw [] p0 ((0 : Int32)) h15 n0 Z17 ) hZ (hw _ (List.mem_of_getElem? (i := 7) rfl)) (hw _ (List.mem_of_getElem? (i := 2) rfl)) (by decide) (by decide)) (g := (mkF m 12 #[.val (.int p0), .val (.int (2 : Int32)), .val (.ref b15)] [(.int (0 : Int32)), (.int p0), (.int (0 : Int32)), (.ref b15)])) rfl (by rw [hml]; rfl) (argsL := [(.int p0), (.int (0 : Int32))]) (rest := [(.int (0 : Int32)), (.ref b15)]) (lenOf pd_1 rfl) rfl (by show 2 * 0 + _ ≤ _; exact Nat.le_of_eq rfl) (hb hby d1_12) (fun _ _ => ⟨rfl, e15, (by decide : 1 + 0 ≤ _), (by decide : 2 + 0 ≤ _)⟩)
  dsimp only [Pt.U, Pt.locs, Pt.cells, Pt.slots] at X18 l18 y18 z18 st18 hQ18
  subst l18 y18 z18
  obtain ⟨rfl, N18q, e18⟩ := hQ18
  have N18 := Fr.app N0 N18q
  obtain ⟨cl19, Ar19, q19, S19, M19, H19, G19⟩ := id V15
  have hin20 : ¬ ((0 : Int32) < 0 ∨ cl19.slots.size ≤ ((0 : Int32)).toNatClampNeg) := inb_of S19 ⟨by decide, by decide⟩
  obtain ⟨T21, h21, X21, e21, W21, st21⟩ := stB X18 hx hZ e18 Ar19 (j := (0 : Int32)) hin20 (g := (mkF m 15 #[.val (.int p0), .val (.int (2 : Int32)), .val (.ref b15)] [(.int (nar .byte (((p0.toUInt32 >>> (((8 : Int32) * (0 : Int32)) &&& 31).toUInt32).toInt32).toInt8.toInt32))), (.int (0 : Int32)), (.ref b15)])) rfl rfl (hb hby d1_15)
  have V21 : Arv Z h21 b15 k15 .byte (2 : Int32) [(.int (nar .byte (nar .byte (((p0.toUInt32 >>> (((8 : Int32) * (0 : Int32)) &&& 31).toUInt32).toInt32).toInt8.toInt32)))), (.int (0 : Int32))] (.int (0 : Int32)) := Arv.set Ar19 q19 S19 M19 H19 G19 (fits_nar_byte _) W21 0 rfl (Nat.le_of_ble_eq_true rfl)
  have K23 := K16.wr W21 (Or.inr sz_b15)
  have Z24 := Nat.le_trans Z17 (Keep.of_wr W21).1
  have N25 := Fr.snoc X21 N18 g_b15
  obtain ⟨_, _, ⟨T26, L26, k26, n26⟩, -, X26, ⟨Lc26, hQ26, l26, y26, z26⟩, st26⟩ := Jvm.LawKit.callS X21 hx (y := (⟨"com/example/rollcall/rollcall/bench/MilenageXorPinLaw", "oct", "(II)B"⟩ : MethodName)) hown (mvT hZ (hw _ (List.mem_of_getElem? (i := 5) rfl))) (mvT hZ (hw _ (List.mem_of_getElem? (i := 6) rfl))) (mvT hZ (hw _ (List.mem_of_getElem? (i := 2) rfl))) (mvT hZ (hw _ (List.mem_of_getElem? (i := 7) rfl))) (by decide) (backOf (W := 2) (rm2 l Z aw hw [] p0 ((1 : Int32)) h21 n0 Z24 ) hZ (hw _ (List.mem_of_getElem? (i := 7) rfl)) (hw _ (List.mem_of_getElem? (i := 2) rfl)) (by decide) (by decide)) (g := (mkF m 25 #[.val (.int p0), .val (.int (2 : Int32)), .val (.ref b15)] [(.int (1 : Int32)), (.int p0), (.int (1 : Int32)), (.ref b15)])) rfl (by rw [hml]; rfl) (argsL := [(.int p0), (.int (1 : Int32))]) (rest := [(.int (1 : Int32)), (.ref b15)]) (lenOf pd_1 rfl) rfl (by show 2 * 0 + _ ≤ _; exact Nat.le_of_eq rfl) (hb hby d1_25) (fun _ _ => ⟨rfl, e21, (by decide : 1 + 0 ≤ _), (by decide : 2 + 0 ≤ _)⟩)
  dsimp only [Pt.U, Pt.locs, Pt.cells, Pt.slots] at X26 l26 y26 z26 st26 hQ26
  subst l26 y26 z26
  obtain ⟨rfl, N26q, e26⟩ := hQ26
  have N26 := Fr.app N25 N26q
  obtain ⟨cl27, Ar27, q27, S27, M27, H27, G27⟩ := id V21
  have hin28 : ¬ ((1 : Int32) < 0 ∨ cl27.slots.size ≤ ((1 : Int32)).toNatClampNeg) := inb_of S27 ⟨by decide, by decide⟩
  obtain ⟨T29, h29, X29, e29, W29, st29⟩ := stB X26 hx hZ e26 Ar27 (j := (1 : Int32)) hin28 (g := (mkF m 28 #[.val (.int p0), .val (.int (2 : Int32)), .val (.ref b15)] [(.int (nar .byte (((p0.toUInt32 >>> (((8 : Int32) * (1 : Int32)) &&& 31).toUInt32).toInt32).toInt8.toInt32))), (.int (1 : Int32)), (.ref b15)])) rfl rfl (hb hby d1_28)
  have V29 : Arv Z h29 b15 k15 .byte (2 : Int32) [(.int (nar .byte (nar .byte (((p0.toUInt32 >>> (((8 : Int32) * (0 : Int32)) &&& 31).toUInt32).toInt32).toInt8.toInt32)))), (.int (nar .byte (nar .byte (((p0.toUInt32 >>> (((8 : Int32) * (1 : Int32)) &&& 31).toUInt32).toInt32).toInt8.toInt32))))] (.int (0 : Int32)) := Arv.set Ar27 q27 S27 M27 H27 G27 (fits_nar_byte _) W29 1 rfl (Nat.le_of_ble_eq_true rfl)
  have K31 := K23.wr W29 (Or.inr sz_b15)
  have Z32 := Nat.le_trans Z24 (Keep.of_wr W29).1
  have N33 := Fr.snoc X29 N26 g_b15
  obtain ⟨fs, hr, hrun, hended, hW, hsame⟩ := X29.leave (v := some (.ref b15)) (fun h => by rw [Bd.returns] at h; cases h)
  refine ⟨_, _, pre0 _ ?_, hrun, hended, _, _, rfl, ?_, ⟨_, rfl⟩, hW, hsame.mono (by decide) (by decide)⟩
  · skip
    show Steps p.tables e below (s₁.setTop (mkF m 0 #[.val (.int p0), .val (.int (2 : Int32)), .unset] [])) _
    refine XS.iloadN X0.here hx rfl (hb hby d1_0) rfl ?_
    show Steps p.tables e below (s₁.setTop (mkF m 1 #[.val (.int p0), .val (.int (2 : Int32)), .unset] [(.int (2 : Int32))])) _
    refine st15 _ ?_
    show Steps p.tables e below (T15.setTop (mkF m 3 #[.val (.int p0), .val (.int (2 : Int32)), .unset] [(.ref b15)])) _
    refine XS.astoreN X15.here hx rfl (hb hby d1_3) rfl rfl (l' := #[.val (.int p0), .val (.int (2 : Int32)), .val (.ref b15)]) rfl ?_
    show Steps p.tables e below (T15.setTop (mkF m 4 #[.val (.int p0), .val (.int (2 : Int32)), .val (.ref b15)] [])) _
    refine XS.iloadN X15.here hx rfl (hb hby d1_4) rfl ?_
    show Steps p.tables e below (T15.setTop (mkF m 5 #[.val (.int p0), .val (.int (2 : Int32)), .val (.ref b15)] [(.int (2 : Int32))])) _
    refine XS.ifNo X15.here hx rfl (hb hby d1_5) rfl ((if0 _ _).trans (tlt (by decide : (0 : Int32) < (2 : Int32))).2.2.2) ?_
    show Steps p.tables e below (T15.setTop (mkF m 8 #[.val (.int p0), .val (.int (2 : Int32)), .val (.ref b15)] [])) _
    refine XS.aloadN X15.here hx rfl (hb hby d1_8) rfl rfl ?_
    show Steps p.tables e below (T15.setTop (mkF m 9 #[.val (.int p0), .val (.int (2 : Int32)), .val (.ref b15)] [(.ref b15)])) _
    refine XS.iconst X15.here hx rfl (hb hby d1_9) ?_
    show Steps p.tables e below (T15.setTop (mkF m 10 #[.val (.int p0), .val (.int (2 : Int32)), .val (.ref b15)] [(.int (0 : Int32)), (.ref b15)])) _
    refine XS.iloadN X15.here hx rfl (hb hby d1_10) rfl ?_
    show Steps p.tables e below (T15.setTop (mkF m 11 #[.val (.int p0), .val (.int (2 : Int32)), .val (.ref b15)] [(.int p0), (.int (0 : Int32)), (.ref b15)])) _
    refine XS.iconst X15.here hx rfl (hb hby d1_11) ?_
    show Steps p.tables e below (T15.setTop (mkF m 12 #[.val (.int p0), .val (.int (2 : Int32)), .val (.ref b15)] [(.int (0 : Int32)), (.int p0), (.int (0 : Int32)), (.ref b15)])) _
    refine st18 _ ?_
    show Steps p.tables e below (T18.setTop (mkF m 15 #[.val (.int p0), .val (.int (2 : Int32)), .val (.ref b15)] [(.int (nar .byte (((p0.toUInt32 >>> (((8 : Int32) * (0 : Int32)) &&& 31).toUInt32).toInt32).toInt8.toInt32))), (.int (0 : Int32)), (.ref b15)])) _
    refine st21 _ ?_
    show Steps p.tables e below (T21.setTop (mkF m 16 #[.val (.int p0), .val (.int (2 : Int32)), .val (.ref b15)] [])) _
    refine XS.iloadN X21.here hx rfl (hb hby d1_16) rfl ?_
    show Steps p.tables e below (T21.setTop (mkF m 17 #[.val (.int p0), .val (.int (2 : Int32)), .val (.ref b15)] [(.int (2 : Int32))])) _
    refine XS.iconst X21.here hx rfl (hb hby d1_17) ?_
    show Steps p.tables e below (T21.setTop (mkF m 18 #[.val (.int p0), .val (.int (2 : Int32)), .val (.ref b15)] [(.int (1 : Int32)), (.int (2 : Int32))])) _
    refine XS.icmpNo X21.here hx rfl (hb hby d1_18) rfl (tlt (by decide : (1 : Int32) < (2 : Int32))).2.2.2 ?_
    show Steps p.tables e below (T21.setTop (mkF m 21 #[.val (.int p0), .val (.int (2 : Int32)), .val (.ref b15)] [])) _
    refine XS.aloadN X21.here hx rfl (hb hby d1_21) rfl rfl ?_
    show Steps p.tables e below (T21.setTop (mkF m 22 #[.val (.int p0), .val (.int (2 : Int32)), .val (.ref b15)] [(.ref b15)])) _
    refine XS.iconst X21.here hx rfl (hb hby d1_22) ?_
    show Steps p.tables e below (T21.setTop (mkF m 23 #[.val (.int p0), .val (.int (2 : Int32)), .val (.ref b15)] [(.int (1 : Int32)), (.ref b15)])) _
    refine XS.iloadN X21.here hx rfl (hb hby d1_23) rfl ?_
    show Steps p.tables e below (T21.setTop (mkF m 24 #[.val (.int p0), .val (.int (2 : Int32)), .val (.ref b15)] [(.int p0), (.int (1 : Int32)), (.ref b15)])) _
    refine XS.iconst X21.here hx rfl (hb hby d1_24) ?_
    show Steps p.tables e below (T21.setTop (mkF m 25 #[.val (.int p0), .val (.int (2 : Int32)), .val (.ref b15)] [(.int (1 : Int32)), (.int p0), (.int (1 : Int32)), (.ref b15)])) _
    refine st26 _ ?_
    show Steps p.tables e below (T26.setTop (mkF m 28 #[.val (.int p0), .val (.int (2 : Int32)), .val (.ref b15)] [(.int (nar .byte (((p0.toUInt32 >>> (((8 : Int32) * (1 : Int32)) &&& 31).toUInt32).toInt32).toInt8.toInt32))), (.int (1 : Int32)), (.ref b15)])) _
    refine st29 _ ?_
    show Steps p.tables e below (T29.setTop (mkF m 29 #[.val (.int p0), .val (.int (2 : Int32)), .val (.ref b15)] [])) _
    refine XS.iloadN X29.here hx rfl (hb hby d1_29) rfl ?_
    show Steps p.tables e below (T29.setTop (mkF m 30 #[.val (.int p0), .val (.int (2 : Int32)), .val (.ref b15)] [(.int (2 : Int32))])) _
    refine XS.iconst X29.here hx rfl (hb hby d1_30) ?_
    show Steps p.tables e below (T29.setTop (mkF m 31 #[.val (.int p0), .val (.int (2 : Int32)), .val (.ref b15)] [(.int (2 : Int32)), (.int (2 : Int32))])) _
    refine XS.icmpYes X29.here hx rfl (pc0 := 31) (pc' := 42) rfl (hb hby d1_31) rfl (flt (by decide : ¬ ((2 : Int32) < (2 : Int32)))).2.2.2 (by decide) (by decide) ?_
    show Steps p.tables e below (T29.setTop (mkF m 42 #[.val (.int p0), .val (.int (2 : Int32)), .val (.ref b15)] [])) _
    refine XS.iloadN X29.here hx rfl (hb hby d1_42) rfl ?_
    show Steps p.tables e below (T29.setTop (mkF m 43 #[.val (.int p0), .val (.int (2 : Int32)), .val (.ref b15)] [(.int (2 : Int32))])) _
    refine XS.iconst X29.here hx rfl (hb hby d1_43) ?_
    show Steps p.tables e below (T29.setTop (mkF m 44 #[.val (.int p0), .val (.int (2 : Int32)), .val (.ref b15)] [(.int (3 : Int32)), (.int (2 : Int32))])) _
    refine XS.icmpYes X29.here hx rfl (pc0 := 44) (pc' := 55) rfl (hb hby d1_44) rfl (flt (by decide : ¬ ((3 : Int32) < (2 : Int32)))).2.2.2 (by decide) (by decide) ?_
    show Steps p.tables e below (T29.setTop (mkF m 55 #[.val (.int p0), .val (.int (2 : Int32)), .val (.ref b15)] [])) _
    refine XS.aloadN X29.here hx rfl (hb hby d1_55) rfl rfl ?_
    show Steps p.tables e below (T29.setTop (mkF m 56 #[.val (.int p0), .val (.int (2 : Int32)), .val (.ref b15)] [(.ref b15)])) _
    exact retOut X29 hx Bd.returns rfl (Or.inr (Or.inr (Or.inr (Or.inr ⟨rfl, rfl, rfl⟩)))) (hb hby d1_56) hr
  · show Q1_2 Z p0 h0 n0 _ T29.heap _
    rw [e29]
    exact ⟨b15, k15, rfl, N33, K31, g_b15, sz_b15, V29⟩
theorem d1_34 : decode method_4_code 34 = .ok (.aload_n 2, 1) := by decide +kernel
theorem d1_35 : decode method_4_code 35 = .ok (.iconst 2, 1) := by decide +kernel
theorem d1_36 : decode method_4_code 36 = .ok (.iload_n 0, 1) := by decide +kernel
theorem d1_37 : decode method_4_code 37 = .ok (.iconst 2, 1) := by decide +kernel
theorem d1_38 : decode method_4_code 38 = .ok (.invokestatic 27, 3) := by decide +kernel
theorem d1_41 : decode method_4_code 41 = .ok (.bastore, 1) := by decide +kernel
theorem ef1_3 (m : MethodId) (x0 : Int32) (x1 : Int32) : entryFrame m #[(.int x0), (.int x1)] 3 = mkF m 0 #[.val (.int x0), .val (.int x1), .unset] [] := by first | (simp [entryFrame, mkF, argsToLocals, Value.category]; done) | rfl
abbrev rr1_3 : Room := { frames := 1, cells := 1, slots := 3, locals := 15 }
def Q1_3 (Z : State) (p0 : Int32) (h0 : Heap) (n0 : Nat) (v : Option Value) (h : Heap) (L : List Loc) : Prop := ∃ (x0 : Addr) (y0 : ClassId), v = some (.ref x0) ∧ Fr n0 L ∧ Keep h0 h [] ∧ n0 ≤ x0 ∧ h0.size ≤ x0 ∧ Arv Z h x0 y0 .byte (3 : Int32) [(.int (nar .byte (nar .byte (((p0.toUInt32 >>> (((8 : Int32) * (0 : Int32)) &&& 31).toUInt32).toInt32).toInt8.toInt32)))), (.int (nar .byte (nar .byte (((p0.toUInt32 >>> (((8 : Int32) * (1 : Int32)) &&& 31).toUInt32).toInt32).toInt8.toInt32)))), (.int (nar .byte (nar .byte (((p0.toUInt32 >>> (((8 : Int32) * (2 : Int32)) &&& 31).toUInt32).toInt32).toInt8.toInt32))))] (.int (0 : Int32))
set_option maxRecDepth 65536 in
set_option maxHeartbeats 40000000 in
theorem rm1_3 (l : Launch) (Z : State) (aw : Array Value) (hw : ∀ d ∈ tables_1, d.before aw Z = true) (ws : List Jvm.Cond) (p0 : Int32) (h0 : Heap) (n0 : Nat) (Z0 : n0 ≤ h0.size)  :
    MetFree l (⟨"com/example/rollcall/rollcall/bench/MilenageXorPinLaw", "bytes", "(II)[B"⟩ : MethodName) (head1 (Jvm.Cond.code (⟨"com/example/rollcall/rollcall/bench/MilenageXorPinLaw", "bytes", "(II)[B"⟩ : MethodName) method_4_code 3 (some (.array .byte)) :: ws) rr1_3) (fun a U => a = #[(.int p0), (.int (3 : Int32))] ∧ Z.Warmed39 U.vm ∧ U.heap = h0) (fun _ _ _ _ _ => True) (fun _ U o U' => ∃ v L, o = .returned v ∧ Q1_3 Z p0 h0 n0 v U'.heap L ∧ FrameEnd U o U' L rr1_3.cells rr1_3.slots) := by
  refine MetFree.of_bodySF (plainFor_of_name pn_1) hisR ?_
  intro p e s m args below meth c s₁ Bd hml0 hP hK
  obtain ⟨rfl, hZ, hh⟩ := hP
  have hx := Bd.exec
  have hby := Bd.bytes
  have hml : c.maxLocals = 3 := hml0
  have hown : s.vm.findClass "com/example/rollcall/rollcall/bench/MilenageXorPinLaw" = some m.cls := findClass_of_methodNamed Bd.named
  have hnm := (name_of_methodNamed Bd.named Bd.method).1
  have X0 : Stand p l e rr1_3 s m #[(.int p0), (.int (3 : Int32))] below meth c s₁ [] 0 0 := Stand.of_body Bd
  have e0 : s₁.heap = h0 := by rw [← hh, Bd.state]; rfl
  have N0 := Fr.nil n0
  have K0 := Keep.refl h0 []
  have pre0 : ∀ t, Steps p.tables e below (s₁.setTop (mkF m 0 #[.val (.int p0), .val (.int (3 : Int32)), .unset] [])) t → Steps p.tables e below (s₁.setTop (entryFrame m #[(.int p0), (.int (3 : Int32))] 3)) t := fun t k => castTop (ef1_3 m p0 (3 : Int32)) k
  obtain ⟨T34, h34, k34, X34, e34, E34, A34, st34⟩ := newP X0 hx hZ (hw _ (List.mem_of_getElem? (i := 4) rfl)) e0 (g := (mkF m 1 #[.val (.int p0), .val (.int (3 : Int32)), .unset] [(.int (3 : Int32))])) rfl (hb hby d1_1) rfl (by decide) (cap := 3) (by decide) (by decide) (by decide) (by decide)
  obtain ⟨b34, gg34⟩ : ∃ z, z = h0.size := ⟨_, rfl⟩
  rw [← gg34] at A34 st34
  have g_b34 : n0 ≤ b34 := Nat.le_trans Z0 (Nat.le_of_eq gg34.symm)
  have sz_b34 : h0.size ≤ b34 := Nat.le_trans K0.1 (Nat.le_of_eq gg34.symm)
  have K35 := K0.ext E34
  have Z36 := Nat.le_trans Z0 E34.1
  have V34 : Arv Z h34 b34 k34 .byte (3 : Int32) [(.int (0 : Int32)), (.int (0 : Int32)), (.int (0 : Int32))] (.int (0 : Int32)) := (Arv.new A34 (by decide)).pad (pad_rep [] (.int (0 : Int32)) 3)
  obtain ⟨_, _, ⟨T37, L37, k37, n37⟩, -, X37, ⟨Lc37, hQ37, l37, y37, z37⟩, st37⟩ := Jvm.LawKit.callS X34 hx (y := (⟨"com/example/rollcall/rollcall/bench/MilenageXorPinLaw", "oct", "(II)B"⟩ : MethodName)) hown (mvT hZ (hw _ (List.mem_of_getElem? (i := 5) rfl))) (mvT hZ (hw _ (List.mem_of_getElem? (i := 6) rfl))) (mvT hZ (hw _ (List.mem_of_getElem? (i := 2) rfl))) (mvT hZ (hw _ (List.mem_of_getElem? (i := 7) rfl))) (by decide) (backOf (W := 2) (rm2 l Z aw hw [] p0 ((0 : Int32)) h34 n0 Z36 ) hZ (hw _ (List.mem_of_getElem? (i := 7) rfl)) (hw _ (List.mem_of_getElem? (i := 2) rfl)) (by decide) (by decide)) (g := (mkF m 12 #[.val (.int p0), .val (.int (3 : Int32)), .val (.ref b34)] [(.int (0 : Int32)), (.int p0), (.int (0 : Int32)), (.ref b34)])) rfl (by rw [hml]; rfl) (argsL := [(.int p0), (.int (0 : Int32))]) (rest := [(.int (0 : Int32)), (.ref b34)]) (lenOf pd_1 rfl) rfl (by show 2 * 0 + _ ≤ _; exact Nat.le_of_eq rfl) (hb hby d1_12) (fun _ _ => ⟨rfl, e34, (by decide : 1 + 0 ≤ _), (by decide : 3 + 0 ≤ _)⟩)
  dsimp only [Pt.U, Pt.locs, Pt.cells, Pt.slots] at X37 l37 y37 z37 st37 hQ37
  subst l37 y37 z37
  obtain ⟨rfl, N37q, e37⟩ := hQ37
  have N37 := Fr.app N0 N37q
  obtain ⟨cl38, Ar38, q38, S38, M38, H38, G38⟩ := id V34
  have hin39 : ¬ ((0 : Int32) < 0 ∨ cl38.slots.size ≤ ((0 : Int32)).toNatClampNeg) := inb_of S38 ⟨by decide, by decide⟩
  obtain ⟨T40, h40, X40, e40, W40, st40⟩ := stB X37 hx hZ e37 Ar38 (j := (0 : Int32)) hin39 (g := (mkF m 15 #[.val (.int p0), .val (.int (3 : Int32)), .val (.ref b34)] [(.int (nar .byte (((p0.toUInt32 >>> (((8 : Int32) * (0 : Int32)) &&& 31).toUInt32).toInt32).toInt8.toInt32))), (.int (0 : Int32)), (.ref b34)])) rfl rfl (hb hby d1_15)
  have V40 : Arv Z h40 b34 k34 .byte (3 : Int32) [(.int (nar .byte (nar .byte (((p0.toUInt32 >>> (((8 : Int32) * (0 : Int32)) &&& 31).toUInt32).toInt32).toInt8.toInt32)))), (.int (0 : Int32)), (.int (0 : Int32))] (.int (0 : Int32)) := Arv.set Ar38 q38 S38 M38 H38 G38 (fits_nar_byte _) W40 0 rfl (Nat.le_of_ble_eq_true rfl)
  have K42 := K35.wr W40 (Or.inr sz_b34)
  have Z43 := Nat.le_trans Z36 (Keep.of_wr W40).1
  have N44 := Fr.snoc X40 N37 g_b34
  obtain ⟨_, _, ⟨T45, L45, k45, n45⟩, -, X45, ⟨Lc45, hQ45, l45, y45, z45⟩, st45⟩ := Jvm.LawKit.callS X40 hx (y := (⟨"com/example/rollcall/rollcall/bench/MilenageXorPinLaw", "oct", "(II)B"⟩ : MethodName)) hown (mvT hZ (hw _ (List.mem_of_getElem? (i := 5) rfl))) (mvT hZ (hw _ (List.mem_of_getElem? (i := 6) rfl))) (mvT hZ (hw _ (List.mem_of_getElem? (i := 2) rfl))) (mvT hZ (hw _ (List.mem_of_getElem? (i := 7) rfl))) (by decide) (backOf (W := 2) (rm2 l Z aw hw [] p0 ((1 : Int32)) h40 n0 Z43 ) hZ (hw _ (List.mem_of_getElem? (i := 7) rfl)) (hw _ (List.mem_of_getElem? (i := 2) rfl)) (by decide) (by decide)) (g := (mkF m 25 #[.val (.int p0), .val (.int (3 : Int32)), .val (.ref b34)] [(.int (1 : Int32)), (.int p0), (.int (1 : Int32)), (.ref b34)])) rfl (by rw [hml]; rfl) (argsL := [(.int p0), (.int (1 : Int32))]) (rest := [(.int (1 : Int32)), (.ref b34)]) (lenOf pd_1 rfl) rfl (by show 2 * 0 + _ ≤ _; exact Nat.le_of_eq rfl) (hb hby d1_25) (fun _ _ => ⟨rfl, e40, (by decide : 1 + 0 ≤ _), (by decide : 3 + 0 ≤ _)⟩)
  dsimp only [Pt.U, Pt.locs, Pt.cells, Pt.slots] at X45 l45 y45 z45 st45 hQ45
  subst l45 y45 z45
  obtain ⟨rfl, N45q, e45⟩ := hQ45
  have N45 := Fr.app N44 N45q
  obtain ⟨cl46, Ar46, q46, S46, M46, H46, G46⟩ := id V40
  have hin47 : ¬ ((1 : Int32) < 0 ∨ cl46.slots.size ≤ ((1 : Int32)).toNatClampNeg) := inb_of S46 ⟨by decide, by decide⟩
  obtain ⟨T48, h48, X48, e48, W48, st48⟩ := stB X45 hx hZ e45 Ar46 (j := (1 : Int32)) hin47 (g := (mkF m 28 #[.val (.int p0), .val (.int (3 : Int32)), .val (.ref b34)] [(.int (nar .byte (((p0.toUInt32 >>> (((8 : Int32) * (1 : Int32)) &&& 31).toUInt32).toInt32).toInt8.toInt32))), (.int (1 : Int32)), (.ref b34)])) rfl rfl (hb hby d1_28)
  have V48 : Arv Z h48 b34 k34 .byte (3 : Int32) [(.int (nar .byte (nar .byte (((p0.toUInt32 >>> (((8 : Int32) * (0 : Int32)) &&& 31).toUInt32).toInt32).toInt8.toInt32)))), (.int (nar .byte (nar .byte (((p0.toUInt32 >>> (((8 : Int32) * (1 : Int32)) &&& 31).toUInt32).toInt32).toInt8.toInt32)))), (.int (0 : Int32))] (.int (0 : Int32)) := Arv.set Ar46 q46 S46 M46 H46 G46 (fits_nar_byte _) W48 1 rfl (Nat.le_of_ble_eq_true rfl)
  have K50 := K42.wr W48 (Or.inr sz_b34)
  have Z51 := Nat.le_trans Z43 (Keep.of_wr W48).1
  have N52 := Fr.snoc X48 N45 g_b34
  obtain ⟨_, _, ⟨T53, L53, k53, n53⟩, -, X53, ⟨Lc53, hQ53, l53, y53, z53⟩, st53⟩ := Jvm.LawKit.callS X48 hx (y := (⟨"com/example/rollcall/rollcall/bench/MilenageXorPinLaw", "oct", "(II)B"⟩ : MethodName)) hown (mvT hZ (hw _ (List.mem_of_getElem? (i := 5) rfl))) (mvT hZ (hw _ (List.mem_of_getElem? (i := 6) rfl))) (mvT hZ (hw _ (List.mem_of_getElem? (i := 2) rfl))) (mvT hZ (hw _ (List.mem_of_getElem? (i := 7) rfl))) (by decide) (backOf (W := 2) (rm2 l Z aw hw [] p0 ((2 : Int32)) h48 n0 Z51 ) hZ (hw _ (List.mem_of_getElem? (i := 7) rfl)) (hw _ (List.mem_of_getElem? (i := 2) rfl)) (by decide) (by decide)) (g := (mkF m 38 #[.val (.int p0), .val (.int (3 : Int32)), .val (.ref b34)] [(.int (2 : Int32)), (.int p0), (.int (2 : Int32)), (.ref b34)])) rfl (by rw [hml]; rfl) (argsL := [(.int p0), (.int (2 : Int32))]) (rest := [(.int (2 : Int32)), (.ref b34)]) (lenOf pd_1 rfl) rfl (by show 2 * 0 + _ ≤ _; exact Nat.le_of_eq rfl) (hb hby d1_38) (fun _ _ => ⟨rfl, e48, (by decide : 1 + 0 ≤ _), (by decide : 3 + 0 ≤ _)⟩)
  dsimp only [Pt.U, Pt.locs, Pt.cells, Pt.slots] at X53 l53 y53 z53 st53 hQ53
  subst l53 y53 z53
  obtain ⟨rfl, N53q, e53⟩ := hQ53
  have N53 := Fr.app N52 N53q
  obtain ⟨cl54, Ar54, q54, S54, M54, H54, G54⟩ := id V48
  have hin55 : ¬ ((2 : Int32) < 0 ∨ cl54.slots.size ≤ ((2 : Int32)).toNatClampNeg) := inb_of S54 ⟨by decide, by decide⟩
  obtain ⟨T56, h56, X56, e56, W56, st56⟩ := stB X53 hx hZ e53 Ar54 (j := (2 : Int32)) hin55 (g := (mkF m 41 #[.val (.int p0), .val (.int (3 : Int32)), .val (.ref b34)] [(.int (nar .byte (((p0.toUInt32 >>> (((8 : Int32) * (2 : Int32)) &&& 31).toUInt32).toInt32).toInt8.toInt32))), (.int (2 : Int32)), (.ref b34)])) rfl rfl (hb hby d1_41)
  have V56 : Arv Z h56 b34 k34 .byte (3 : Int32) [(.int (nar .byte (nar .byte (((p0.toUInt32 >>> (((8 : Int32) * (0 : Int32)) &&& 31).toUInt32).toInt32).toInt8.toInt32)))), (.int (nar .byte (nar .byte (((p0.toUInt32 >>> (((8 : Int32) * (1 : Int32)) &&& 31).toUInt32).toInt32).toInt8.toInt32)))), (.int (nar .byte (nar .byte (((p0.toUInt32 >>> (((8 : Int32) * (2 : Int32)) &&& 31).toUInt32).toInt32).toInt8.toInt32))))] (.int (0 : Int32)) := Arv.set Ar54 q54 S54 M54 H54 G54 (fits_nar_byte _) W56 2 rfl (Nat.le_of_ble_eq_true rfl)
  have K58 := K50.wr W56 (Or.inr sz_b34)
  have Z59 := Nat.le_trans Z51 (Keep.of_wr W56).1
  have N60 := Fr.snoc X56 N53 g_b34
  obtain ⟨fs, hr, hrun, hended, hW, hsame⟩ := X56.leave (v := some (.ref b34)) (fun h => by rw [Bd.returns] at h; cases h)
  refine ⟨_, _, pre0 _ ?_, hrun, hended, _, _, rfl, ?_, ⟨_, rfl⟩, hW, hsame.mono (by decide) (by decide)⟩
  · skip
    show Steps p.tables e below (s₁.setTop (mkF m 0 #[.val (.int p0), .val (.int (3 : Int32)), .unset] [])) _
    refine XS.iloadN X0.here hx rfl (hb hby d1_0) rfl ?_
    show Steps p.tables e below (s₁.setTop (mkF m 1 #[.val (.int p0), .val (.int (3 : Int32)), .unset] [(.int (3 : Int32))])) _
    refine st34 _ ?_
    show Steps p.tables e below (T34.setTop (mkF m 3 #[.val (.int p0), .val (.int (3 : Int32)), .unset] [(.ref b34)])) _
    refine XS.astoreN X34.here hx rfl (hb hby d1_3) rfl rfl (l' := #[.val (.int p0), .val (.int (3 : Int32)), .val (.ref b34)]) rfl ?_
    show Steps p.tables e below (T34.setTop (mkF m 4 #[.val (.int p0), .val (.int (3 : Int32)), .val (.ref b34)] [])) _
    refine XS.iloadN X34.here hx rfl (hb hby d1_4) rfl ?_
    show Steps p.tables e below (T34.setTop (mkF m 5 #[.val (.int p0), .val (.int (3 : Int32)), .val (.ref b34)] [(.int (3 : Int32))])) _
    refine XS.ifNo X34.here hx rfl (hb hby d1_5) rfl ((if0 _ _).trans (tlt (by decide : (0 : Int32) < (3 : Int32))).2.2.2) ?_
    show Steps p.tables e below (T34.setTop (mkF m 8 #[.val (.int p0), .val (.int (3 : Int32)), .val (.ref b34)] [])) _
    refine XS.aloadN X34.here hx rfl (hb hby d1_8) rfl rfl ?_
    show Steps p.tables e below (T34.setTop (mkF m 9 #[.val (.int p0), .val (.int (3 : Int32)), .val (.ref b34)] [(.ref b34)])) _
    refine XS.iconst X34.here hx rfl (hb hby d1_9) ?_
    show Steps p.tables e below (T34.setTop (mkF m 10 #[.val (.int p0), .val (.int (3 : Int32)), .val (.ref b34)] [(.int (0 : Int32)), (.ref b34)])) _
    refine XS.iloadN X34.here hx rfl (hb hby d1_10) rfl ?_
    show Steps p.tables e below (T34.setTop (mkF m 11 #[.val (.int p0), .val (.int (3 : Int32)), .val (.ref b34)] [(.int p0), (.int (0 : Int32)), (.ref b34)])) _
    refine XS.iconst X34.here hx rfl (hb hby d1_11) ?_
    show Steps p.tables e below (T34.setTop (mkF m 12 #[.val (.int p0), .val (.int (3 : Int32)), .val (.ref b34)] [(.int (0 : Int32)), (.int p0), (.int (0 : Int32)), (.ref b34)])) _
    refine st37 _ ?_
    show Steps p.tables e below (T37.setTop (mkF m 15 #[.val (.int p0), .val (.int (3 : Int32)), .val (.ref b34)] [(.int (nar .byte (((p0.toUInt32 >>> (((8 : Int32) * (0 : Int32)) &&& 31).toUInt32).toInt32).toInt8.toInt32))), (.int (0 : Int32)), (.ref b34)])) _
    refine st40 _ ?_
    show Steps p.tables e below (T40.setTop (mkF m 16 #[.val (.int p0), .val (.int (3 : Int32)), .val (.ref b34)] [])) _
    refine XS.iloadN X40.here hx rfl (hb hby d1_16) rfl ?_
    show Steps p.tables e below (T40.setTop (mkF m 17 #[.val (.int p0), .val (.int (3 : Int32)), .val (.ref b34)] [(.int (3 : Int32))])) _
    refine XS.iconst X40.here hx rfl (hb hby d1_17) ?_
    show Steps p.tables e below (T40.setTop (mkF m 18 #[.val (.int p0), .val (.int (3 : Int32)), .val (.ref b34)] [(.int (1 : Int32)), (.int (3 : Int32))])) _
    refine XS.icmpNo X40.here hx rfl (hb hby d1_18) rfl (tlt (by decide : (1 : Int32) < (3 : Int32))).2.2.2 ?_
    show Steps p.tables e below (T40.setTop (mkF m 21 #[.val (.int p0), .val (.int (3 : Int32)), .val (.ref b34)] [])) _
    refine XS.aloadN X40.here hx rfl (hb hby d1_21) rfl rfl ?_
    show Steps p.tables e below (T40.setTop (mkF m 22 #[.val (.int p0), .val (.int (3 : Int32)), .val (.ref b34)] [(.ref b34)])) _
    refine XS.iconst X40.here hx rfl (hb hby d1_22) ?_
    show Steps p.tables e below (T40.setTop (mkF m 23 #[.val (.int p0), .val (.int (3 : Int32)), .val (.ref b34)] [(.int (1 : Int32)), (.ref b34)])) _
    refine XS.iloadN X40.here hx rfl (hb hby d1_23) rfl ?_
    show Steps p.tables e below (T40.setTop (mkF m 24 #[.val (.int p0), .val (.int (3 : Int32)), .val (.ref b34)] [(.int p0), (.int (1 : Int32)), (.ref b34)])) _
    refine XS.iconst X40.here hx rfl (hb hby d1_24) ?_
    show Steps p.tables e below (T40.setTop (mkF m 25 #[.val (.int p0), .val (.int (3 : Int32)), .val (.ref b34)] [(.int (1 : Int32)), (.int p0), (.int (1 : Int32)), (.ref b34)])) _
    refine st45 _ ?_
    show Steps p.tables e below (T45.setTop (mkF m 28 #[.val (.int p0), .val (.int (3 : Int32)), .val (.ref b34)] [(.int (nar .byte (((p0.toUInt32 >>> (((8 : Int32) * (1 : Int32)) &&& 31).toUInt32).toInt32).toInt8.toInt32))), (.int (1 : Int32)), (.ref b34)])) _
    refine st48 _ ?_
    show Steps p.tables e below (T48.setTop (mkF m 29 #[.val (.int p0), .val (.int (3 : Int32)), .val (.ref b34)] [])) _
    refine XS.iloadN X48.here hx rfl (hb hby d1_29) rfl ?_
    show Steps p.tables e below (T48.setTop (mkF m 30 #[.val (.int p0), .val (.int (3 : Int32)), .val (.ref b34)] [(.int (3 : Int32))])) _
    refine XS.iconst X48.here hx rfl (hb hby d1_30) ?_
    show Steps p.tables e below (T48.setTop (mkF m 31 #[.val (.int p0), .val (.int (3 : Int32)), .val (.ref b34)] [(.int (2 : Int32)), (.int (3 : Int32))])) _
    refine XS.icmpNo X48.here hx rfl (hb hby d1_31) rfl (tlt (by decide : (2 : Int32) < (3 : Int32))).2.2.2 ?_
    show Steps p.tables e below (T48.setTop (mkF m 34 #[.val (.int p0), .val (.int (3 : Int32)), .val (.ref b34)] [])) _
    refine XS.aloadN X48.here hx rfl (hb hby d1_34) rfl rfl ?_
    show Steps p.tables e below (T48.setTop (mkF m 35 #[.val (.int p0), .val (.int (3 : Int32)), .val (.ref b34)] [(.ref b34)])) _
    refine XS.iconst X48.here hx rfl (hb hby d1_35) ?_
    show Steps p.tables e below (T48.setTop (mkF m 36 #[.val (.int p0), .val (.int (3 : Int32)), .val (.ref b34)] [(.int (2 : Int32)), (.ref b34)])) _
    refine XS.iloadN X48.here hx rfl (hb hby d1_36) rfl ?_
    show Steps p.tables e below (T48.setTop (mkF m 37 #[.val (.int p0), .val (.int (3 : Int32)), .val (.ref b34)] [(.int p0), (.int (2 : Int32)), (.ref b34)])) _
    refine XS.iconst X48.here hx rfl (hb hby d1_37) ?_
    show Steps p.tables e below (T48.setTop (mkF m 38 #[.val (.int p0), .val (.int (3 : Int32)), .val (.ref b34)] [(.int (2 : Int32)), (.int p0), (.int (2 : Int32)), (.ref b34)])) _
    refine st53 _ ?_
    show Steps p.tables e below (T53.setTop (mkF m 41 #[.val (.int p0), .val (.int (3 : Int32)), .val (.ref b34)] [(.int (nar .byte (((p0.toUInt32 >>> (((8 : Int32) * (2 : Int32)) &&& 31).toUInt32).toInt32).toInt8.toInt32))), (.int (2 : Int32)), (.ref b34)])) _
    refine st56 _ ?_
    show Steps p.tables e below (T56.setTop (mkF m 42 #[.val (.int p0), .val (.int (3 : Int32)), .val (.ref b34)] [])) _
    refine XS.iloadN X56.here hx rfl (hb hby d1_42) rfl ?_
    show Steps p.tables e below (T56.setTop (mkF m 43 #[.val (.int p0), .val (.int (3 : Int32)), .val (.ref b34)] [(.int (3 : Int32))])) _
    refine XS.iconst X56.here hx rfl (hb hby d1_43) ?_
    show Steps p.tables e below (T56.setTop (mkF m 44 #[.val (.int p0), .val (.int (3 : Int32)), .val (.ref b34)] [(.int (3 : Int32)), (.int (3 : Int32))])) _
    refine XS.icmpYes X56.here hx rfl (pc0 := 44) (pc' := 55) rfl (hb hby d1_44) rfl (flt (by decide : ¬ ((3 : Int32) < (3 : Int32)))).2.2.2 (by decide) (by decide) ?_
    show Steps p.tables e below (T56.setTop (mkF m 55 #[.val (.int p0), .val (.int (3 : Int32)), .val (.ref b34)] [])) _
    refine XS.aloadN X56.here hx rfl (hb hby d1_55) rfl rfl ?_
    show Steps p.tables e below (T56.setTop (mkF m 56 #[.val (.int p0), .val (.int (3 : Int32)), .val (.ref b34)] [(.ref b34)])) _
    exact retOut X56 hx Bd.returns rfl (Or.inr (Or.inr (Or.inr (Or.inr ⟨rfl, rfl, rfl⟩)))) (hb hby d1_56) hr
  · show Q1_3 Z p0 h0 n0 _ T56.heap _
    rw [e56]
    exact ⟨b34, k34, rfl, N60, K58, g_b34, sz_b34, V56⟩
theorem d1_47 : decode method_4_code 47 = .ok (.aload_n 2, 1) := by decide +kernel
theorem d1_48 : decode method_4_code 48 = .ok (.iconst 3, 1) := by decide +kernel
theorem d1_49 : decode method_4_code 49 = .ok (.iload_n 0, 1) := by decide +kernel
theorem d1_50 : decode method_4_code 50 = .ok (.iconst 3, 1) := by decide +kernel
theorem d1_51 : decode method_4_code 51 = .ok (.invokestatic 27, 3) := by decide +kernel
theorem d1_54 : decode method_4_code 54 = .ok (.bastore, 1) := by decide +kernel
theorem ef1_4 (m : MethodId) (x0 : Int32) (x1 : Int32) : entryFrame m #[(.int x0), (.int x1)] 3 = mkF m 0 #[.val (.int x0), .val (.int x1), .unset] [] := by first | (simp [entryFrame, mkF, argsToLocals, Value.category]; done) | rfl
abbrev rr1_4 : Room := { frames := 1, cells := 1, slots := 4, locals := 15 }
def Q1_4 (Z : State) (p0 : Int32) (h0 : Heap) (n0 : Nat) (v : Option Value) (h : Heap) (L : List Loc) : Prop := ∃ (x0 : Addr) (y0 : ClassId), v = some (.ref x0) ∧ Fr n0 L ∧ Keep h0 h [] ∧ n0 ≤ x0 ∧ h0.size ≤ x0 ∧ Arv Z h x0 y0 .byte (4 : Int32) [(.int (nar .byte (nar .byte (((p0.toUInt32 >>> (((8 : Int32) * (0 : Int32)) &&& 31).toUInt32).toInt32).toInt8.toInt32)))), (.int (nar .byte (nar .byte (((p0.toUInt32 >>> (((8 : Int32) * (1 : Int32)) &&& 31).toUInt32).toInt32).toInt8.toInt32)))), (.int (nar .byte (nar .byte (((p0.toUInt32 >>> (((8 : Int32) * (2 : Int32)) &&& 31).toUInt32).toInt32).toInt8.toInt32)))), (.int (nar .byte (nar .byte (((p0.toUInt32 >>> (((8 : Int32) * (3 : Int32)) &&& 31).toUInt32).toInt32).toInt8.toInt32))))] (.int (0 : Int32))
set_option maxRecDepth 65536 in
set_option maxHeartbeats 40000000 in
theorem rm1_4 (l : Launch) (Z : State) (aw : Array Value) (hw : ∀ d ∈ tables_1, d.before aw Z = true) (ws : List Jvm.Cond) (p0 : Int32) (h0 : Heap) (n0 : Nat) (Z0 : n0 ≤ h0.size)  :
    MetFree l (⟨"com/example/rollcall/rollcall/bench/MilenageXorPinLaw", "bytes", "(II)[B"⟩ : MethodName) (head1 (Jvm.Cond.code (⟨"com/example/rollcall/rollcall/bench/MilenageXorPinLaw", "bytes", "(II)[B"⟩ : MethodName) method_4_code 3 (some (.array .byte)) :: ws) rr1_4) (fun a U => a = #[(.int p0), (.int (4 : Int32))] ∧ Z.Warmed39 U.vm ∧ U.heap = h0) (fun _ _ _ _ _ => True) (fun _ U o U' => ∃ v L, o = .returned v ∧ Q1_4 Z p0 h0 n0 v U'.heap L ∧ FrameEnd U o U' L rr1_4.cells rr1_4.slots) := by
  refine MetFree.of_bodySF (plainFor_of_name pn_1) hisR ?_
  intro p e s m args below meth c s₁ Bd hml0 hP hK
  obtain ⟨rfl, hZ, hh⟩ := hP
  have hx := Bd.exec
  have hby := Bd.bytes
  have hml : c.maxLocals = 3 := hml0
  have hown : s.vm.findClass "com/example/rollcall/rollcall/bench/MilenageXorPinLaw" = some m.cls := findClass_of_methodNamed Bd.named
  have hnm := (name_of_methodNamed Bd.named Bd.method).1
  have X0 : Stand p l e rr1_4 s m #[(.int p0), (.int (4 : Int32))] below meth c s₁ [] 0 0 := Stand.of_body Bd
  have e0 : s₁.heap = h0 := by rw [← hh, Bd.state]; rfl
  have N0 := Fr.nil n0
  have K0 := Keep.refl h0 []
  have pre0 : ∀ t, Steps p.tables e below (s₁.setTop (mkF m 0 #[.val (.int p0), .val (.int (4 : Int32)), .unset] [])) t → Steps p.tables e below (s₁.setTop (entryFrame m #[(.int p0), (.int (4 : Int32))] 3)) t := fun t k => castTop (ef1_4 m p0 (4 : Int32)) k
  obtain ⟨T61, h61, k61, X61, e61, E61, A61, st61⟩ := newP X0 hx hZ (hw _ (List.mem_of_getElem? (i := 4) rfl)) e0 (g := (mkF m 1 #[.val (.int p0), .val (.int (4 : Int32)), .unset] [(.int (4 : Int32))])) rfl (hb hby d1_1) rfl (by decide) (cap := 4) (by decide) (by decide) (by decide) (by decide)
  obtain ⟨b61, gg61⟩ : ∃ z, z = h0.size := ⟨_, rfl⟩
  rw [← gg61] at A61 st61
  have g_b61 : n0 ≤ b61 := Nat.le_trans Z0 (Nat.le_of_eq gg61.symm)
  have sz_b61 : h0.size ≤ b61 := Nat.le_trans K0.1 (Nat.le_of_eq gg61.symm)
  have K62 := K0.ext E61
  have Z63 := Nat.le_trans Z0 E61.1
  have V61 : Arv Z h61 b61 k61 .byte (4 : Int32) [(.int (0 : Int32)), (.int (0 : Int32)), (.int (0 : Int32)), (.int (0 : Int32))] (.int (0 : Int32)) := (Arv.new A61 (by decide)).pad (pad_rep [] (.int (0 : Int32)) 4)
  obtain ⟨_, _, ⟨T64, L64, k64, n64⟩, -, X64, ⟨Lc64, hQ64, l64, y64, z64⟩, st64⟩ := Jvm.LawKit.callS X61 hx (y := (⟨"com/example/rollcall/rollcall/bench/MilenageXorPinLaw", "oct", "(II)B"⟩ : MethodName)) hown (mvT hZ (hw _ (List.mem_of_getElem? (i := 5) rfl))) (mvT hZ (hw _ (List.mem_of_getElem? (i := 6) rfl))) (mvT hZ (hw _ (List.mem_of_getElem? (i := 2) rfl))) (mvT hZ (hw _ (List.mem_of_getElem? (i := 7) rfl))) (by decide) (backOf (W := 2) (rm2 l Z aw hw [] p0 ((0 : Int32)) h61 n0 Z63 ) hZ (hw _ (List.mem_of_getElem? (i := 7) rfl)) (hw _ (List.mem_of_getElem? (i := 2) rfl)) (by decide) (by decide)) (g := (mkF m 12 #[.val (.int p0), .val (.int (4 : Int32)), .val (.ref b61)] [(.int (0 : Int32)), (.int p0), (.int (0 : Int32)), (.ref b61)])) rfl (by rw [hml]; rfl) (argsL := [(.int p0), (.int (0 : Int32))]) (rest := [(.int (0 : Int32)), (.ref b61)]) (lenOf pd_1 rfl) rfl (by show 2 * 0 + _ ≤ _; exact Nat.le_of_eq rfl) (hb hby d1_12) (fun _ _ => ⟨rfl, e61, (by decide : 1 + 0 ≤ _), (by decide : 4 + 0 ≤ _)⟩)
  dsimp only [Pt.U, Pt.locs, Pt.cells, Pt.slots] at X64 l64 y64 z64 st64 hQ64
  subst l64 y64 z64
  obtain ⟨rfl, N64q, e64⟩ := hQ64
  have N64 := Fr.app N0 N64q
  obtain ⟨cl65, Ar65, q65, S65, M65, H65, G65⟩ := id V61
  have hin66 : ¬ ((0 : Int32) < 0 ∨ cl65.slots.size ≤ ((0 : Int32)).toNatClampNeg) := inb_of S65 ⟨by decide, by decide⟩
  obtain ⟨T67, h67, X67, e67, W67, st67⟩ := stB X64 hx hZ e64 Ar65 (j := (0 : Int32)) hin66 (g := (mkF m 15 #[.val (.int p0), .val (.int (4 : Int32)), .val (.ref b61)] [(.int (nar .byte (((p0.toUInt32 >>> (((8 : Int32) * (0 : Int32)) &&& 31).toUInt32).toInt32).toInt8.toInt32))), (.int (0 : Int32)), (.ref b61)])) rfl rfl (hb hby d1_15)
  have V67 : Arv Z h67 b61 k61 .byte (4 : Int32) [(.int (nar .byte (nar .byte (((p0.toUInt32 >>> (((8 : Int32) * (0 : Int32)) &&& 31).toUInt32).toInt32).toInt8.toInt32)))), (.int (0 : Int32)), (.int (0 : Int32)), (.int (0 : Int32))] (.int (0 : Int32)) := Arv.set Ar65 q65 S65 M65 H65 G65 (fits_nar_byte _) W67 0 rfl (Nat.le_of_ble_eq_true rfl)
  have K69 := K62.wr W67 (Or.inr sz_b61)
  have Z70 := Nat.le_trans Z63 (Keep.of_wr W67).1
  have N71 := Fr.snoc X67 N64 g_b61
  obtain ⟨_, _, ⟨T72, L72, k72, n72⟩, -, X72, ⟨Lc72, hQ72, l72, y72, z72⟩, st72⟩ := Jvm.LawKit.callS X67 hx (y := (⟨"com/example/rollcall/rollcall/bench/MilenageXorPinLaw", "oct", "(II)B"⟩ : MethodName)) hown (mvT hZ (hw _ (List.mem_of_getElem? (i := 5) rfl))) (mvT hZ (hw _ (List.mem_of_getElem? (i := 6) rfl))) (mvT hZ (hw _ (List.mem_of_getElem? (i := 2) rfl))) (mvT hZ (hw _ (List.mem_of_getElem? (i := 7) rfl))) (by decide) (backOf (W := 2) (rm2 l Z aw hw [] p0 ((1 : Int32)) h67 n0 Z70 ) hZ (hw _ (List.mem_of_getElem? (i := 7) rfl)) (hw _ (List.mem_of_getElem? (i := 2) rfl)) (by decide) (by decide)) (g := (mkF m 25 #[.val (.int p0), .val (.int (4 : Int32)), .val (.ref b61)] [(.int (1 : Int32)), (.int p0), (.int (1 : Int32)), (.ref b61)])) rfl (by rw [hml]; rfl) (argsL := [(.int p0), (.int (1 : Int32))]) (rest := [(.int (1 : Int32)), (.ref b61)]) (lenOf pd_1 rfl) rfl (by show 2 * 0 + _ ≤ _; exact Nat.le_of_eq rfl) (hb hby d1_25) (fun _ _ => ⟨rfl, e67, (by decide : 1 + 0 ≤ _), (by decide : 4 + 0 ≤ _)⟩)
  dsimp only [Pt.U, Pt.locs, Pt.cells, Pt.slots] at X72 l72 y72 z72 st72 hQ72
  subst l72 y72 z72
  obtain ⟨rfl, N72q, e72⟩ := hQ72
  have N72 := Fr.app N71 N72q
  obtain ⟨cl73, Ar73, q73, S73, M73, H73, G73⟩ := id V67
  have hin74 : ¬ ((1 : Int32) < 0 ∨ cl73.slots.size ≤ ((1 : Int32)).toNatClampNeg) := inb_of S73 ⟨by decide, by decide⟩
  obtain ⟨T75, h75, X75, e75, W75, st75⟩ := stB X72 hx hZ e72 Ar73 (j := (1 : Int32)) hin74 (g := (mkF m 28 #[.val (.int p0), .val (.int (4 : Int32)), .val (.ref b61)] [(.int (nar .byte (((p0.toUInt32 >>> (((8 : Int32) * (1 : Int32)) &&& 31).toUInt32).toInt32).toInt8.toInt32))), (.int (1 : Int32)), (.ref b61)])) rfl rfl (hb hby d1_28)
  have V75 : Arv Z h75 b61 k61 .byte (4 : Int32) [(.int (nar .byte (nar .byte (((p0.toUInt32 >>> (((8 : Int32) * (0 : Int32)) &&& 31).toUInt32).toInt32).toInt8.toInt32)))), (.int (nar .byte (nar .byte (((p0.toUInt32 >>> (((8 : Int32) * (1 : Int32)) &&& 31).toUInt32).toInt32).toInt8.toInt32)))), (.int (0 : Int32)), (.int (0 : Int32))] (.int (0 : Int32)) := Arv.set Ar73 q73 S73 M73 H73 G73 (fits_nar_byte _) W75 1 rfl (Nat.le_of_ble_eq_true rfl)
  have K77 := K69.wr W75 (Or.inr sz_b61)
  have Z78 := Nat.le_trans Z70 (Keep.of_wr W75).1
  have N79 := Fr.snoc X75 N72 g_b61
  obtain ⟨_, _, ⟨T80, L80, k80, n80⟩, -, X80, ⟨Lc80, hQ80, l80, y80, z80⟩, st80⟩ := Jvm.LawKit.callS X75 hx (y := (⟨"com/example/rollcall/rollcall/bench/MilenageXorPinLaw", "oct", "(II)B"⟩ : MethodName)) hown (mvT hZ (hw _ (List.mem_of_getElem? (i := 5) rfl))) (mvT hZ (hw _ (List.mem_of_getElem? (i := 6) rfl))) (mvT hZ (hw _ (List.mem_of_getElem? (i := 2) rfl))) (mvT hZ (hw _ (List.mem_of_getElem? (i := 7) rfl))) (by decide) (backOf (W := 2) (rm2 l Z aw hw [] p0 ((2 : Int32)) h75 n0 Z78 ) hZ (hw _ (List.mem_of_getElem? (i := 7) rfl)) (hw _ (List.mem_of_getElem? (i := 2) rfl)) (by decide) (by decide)) (g := (mkF m 38 #[.val (.int p0), .val (.int (4 : Int32)), .val (.ref b61)] [(.int (2 : Int32)), (.int p0), (.int (2 : Int32)), (.ref b61)])) rfl (by rw [hml]; rfl) (argsL := [(.int p0), (.int (2 : Int32))]) (rest := [(.int (2 : Int32)), (.ref b61)]) (lenOf pd_1 rfl) rfl (by show 2 * 0 + _ ≤ _; exact Nat.le_of_eq rfl) (hb hby d1_38) (fun _ _ => ⟨rfl, e75, (by decide : 1 + 0 ≤ _), (by decide : 4 + 0 ≤ _)⟩)
  dsimp only [Pt.U, Pt.locs, Pt.cells, Pt.slots] at X80 l80 y80 z80 st80 hQ80
  subst l80 y80 z80
  obtain ⟨rfl, N80q, e80⟩ := hQ80
  have N80 := Fr.app N79 N80q
  obtain ⟨cl81, Ar81, q81, S81, M81, H81, G81⟩ := id V75
  have hin82 : ¬ ((2 : Int32) < 0 ∨ cl81.slots.size ≤ ((2 : Int32)).toNatClampNeg) := inb_of S81 ⟨by decide, by decide⟩
  obtain ⟨T83, h83, X83, e83, W83, st83⟩ := stB X80 hx hZ e80 Ar81 (j := (2 : Int32)) hin82 (g := (mkF m 41 #[.val (.int p0), .val (.int (4 : Int32)), .val (.ref b61)] [(.int (nar .byte (((p0.toUInt32 >>> (((8 : Int32) * (2 : Int32)) &&& 31).toUInt32).toInt32).toInt8.toInt32))), (.int (2 : Int32)), (.ref b61)])) rfl rfl (hb hby d1_41)
  have V83 : Arv Z h83 b61 k61 .byte (4 : Int32) [(.int (nar .byte (nar .byte (((p0.toUInt32 >>> (((8 : Int32) * (0 : Int32)) &&& 31).toUInt32).toInt32).toInt8.toInt32)))), (.int (nar .byte (nar .byte (((p0.toUInt32 >>> (((8 : Int32) * (1 : Int32)) &&& 31).toUInt32).toInt32).toInt8.toInt32)))), (.int (nar .byte (nar .byte (((p0.toUInt32 >>> (((8 : Int32) * (2 : Int32)) &&& 31).toUInt32).toInt32).toInt8.toInt32)))), (.int (0 : Int32))] (.int (0 : Int32)) := Arv.set Ar81 q81 S81 M81 H81 G81 (fits_nar_byte _) W83 2 rfl (Nat.le_of_ble_eq_true rfl)
  have K85 := K77.wr W83 (Or.inr sz_b61)
  have Z86 := Nat.le_trans Z78 (Keep.of_wr W83).1
  have N87 := Fr.snoc X83 N80 g_b61
  obtain ⟨_, _, ⟨T88, L88, k88, n88⟩, -, X88, ⟨Lc88, hQ88, l88, y88, z88⟩, st88⟩ := Jvm.LawKit.callS X83 hx (y := (⟨"com/example/rollcall/rollcall/bench/MilenageXorPinLaw", "oct", "(II)B"⟩ : MethodName)) hown (mvT hZ (hw _ (List.mem_of_getElem? (i := 5) rfl))) (mvT hZ (hw _ (List.mem_of_getElem? (i := 6) rfl))) (mvT hZ (hw _ (List.mem_of_getElem? (i := 2) rfl))) (mvT hZ (hw _ (List.mem_of_getElem? (i := 7) rfl))) (by decide) (backOf (W := 2) (rm2 l Z aw hw [] p0 ((3 : Int32)) h83 n0 Z86 ) hZ (hw _ (List.mem_of_getElem? (i := 7) rfl)) (hw _ (List.mem_of_getElem? (i := 2) rfl)) (by decide) (by decide)) (g := (mkF m 51 #[.val (.int p0), .val (.int (4 : Int32)), .val (.ref b61)] [(.int (3 : Int32)), (.int p0), (.int (3 : Int32)), (.ref b61)])) rfl (by rw [hml]; rfl) (argsL := [(.int p0), (.int (3 : Int32))]) (rest := [(.int (3 : Int32)), (.ref b61)]) (lenOf pd_1 rfl) rfl (by show 2 * 0 + _ ≤ _; exact Nat.le_of_eq rfl) (hb hby d1_51) (fun _ _ => ⟨rfl, e83, (by decide : 1 + 0 ≤ _), (by decide : 4 + 0 ≤ _)⟩)
  dsimp only [Pt.U, Pt.locs, Pt.cells, Pt.slots] at X88 l88 y88 z88 st88 hQ88
  subst l88 y88 z88
  obtain ⟨rfl, N88q, e88⟩ := hQ88
  have N88 := Fr.app N87 N88q
  obtain ⟨cl89, Ar89, q89, S89, M89, H89, G89⟩ := id V83
  have hin90 : ¬ ((3 : Int32) < 0 ∨ cl89.slots.size ≤ ((3 : Int32)).toNatClampNeg) := inb_of S89 ⟨by decide, by decide⟩
  obtain ⟨T91, h91, X91, e91, W91, st91⟩ := stB X88 hx hZ e88 Ar89 (j := (3 : Int32)) hin90 (g := (mkF m 54 #[.val (.int p0), .val (.int (4 : Int32)), .val (.ref b61)] [(.int (nar .byte (((p0.toUInt32 >>> (((8 : Int32) * (3 : Int32)) &&& 31).toUInt32).toInt32).toInt8.toInt32))), (.int (3 : Int32)), (.ref b61)])) rfl rfl (hb hby d1_54)
  have V91 : Arv Z h91 b61 k61 .byte (4 : Int32) [(.int (nar .byte (nar .byte (((p0.toUInt32 >>> (((8 : Int32) * (0 : Int32)) &&& 31).toUInt32).toInt32).toInt8.toInt32)))), (.int (nar .byte (nar .byte (((p0.toUInt32 >>> (((8 : Int32) * (1 : Int32)) &&& 31).toUInt32).toInt32).toInt8.toInt32)))), (.int (nar .byte (nar .byte (((p0.toUInt32 >>> (((8 : Int32) * (2 : Int32)) &&& 31).toUInt32).toInt32).toInt8.toInt32)))), (.int (nar .byte (nar .byte (((p0.toUInt32 >>> (((8 : Int32) * (3 : Int32)) &&& 31).toUInt32).toInt32).toInt8.toInt32))))] (.int (0 : Int32)) := Arv.set Ar89 q89 S89 M89 H89 G89 (fits_nar_byte _) W91 3 rfl (Nat.le_of_ble_eq_true rfl)
  have K93 := K85.wr W91 (Or.inr sz_b61)
  have Z94 := Nat.le_trans Z86 (Keep.of_wr W91).1
  have N95 := Fr.snoc X91 N88 g_b61
  obtain ⟨fs, hr, hrun, hended, hW, hsame⟩ := X91.leave (v := some (.ref b61)) (fun h => by rw [Bd.returns] at h; cases h)
  refine ⟨_, _, pre0 _ ?_, hrun, hended, _, _, rfl, ?_, ⟨_, rfl⟩, hW, hsame.mono (by decide) (by decide)⟩
  · skip
    show Steps p.tables e below (s₁.setTop (mkF m 0 #[.val (.int p0), .val (.int (4 : Int32)), .unset] [])) _
    refine XS.iloadN X0.here hx rfl (hb hby d1_0) rfl ?_
    show Steps p.tables e below (s₁.setTop (mkF m 1 #[.val (.int p0), .val (.int (4 : Int32)), .unset] [(.int (4 : Int32))])) _
    refine st61 _ ?_
    show Steps p.tables e below (T61.setTop (mkF m 3 #[.val (.int p0), .val (.int (4 : Int32)), .unset] [(.ref b61)])) _
    refine XS.astoreN X61.here hx rfl (hb hby d1_3) rfl rfl (l' := #[.val (.int p0), .val (.int (4 : Int32)), .val (.ref b61)]) rfl ?_
    show Steps p.tables e below (T61.setTop (mkF m 4 #[.val (.int p0), .val (.int (4 : Int32)), .val (.ref b61)] [])) _
    refine XS.iloadN X61.here hx rfl (hb hby d1_4) rfl ?_
    show Steps p.tables e below (T61.setTop (mkF m 5 #[.val (.int p0), .val (.int (4 : Int32)), .val (.ref b61)] [(.int (4 : Int32))])) _
    refine XS.ifNo X61.here hx rfl (hb hby d1_5) rfl ((if0 _ _).trans (tlt (by decide : (0 : Int32) < (4 : Int32))).2.2.2) ?_
    show Steps p.tables e below (T61.setTop (mkF m 8 #[.val (.int p0), .val (.int (4 : Int32)), .val (.ref b61)] [])) _
    refine XS.aloadN X61.here hx rfl (hb hby d1_8) rfl rfl ?_
    show Steps p.tables e below (T61.setTop (mkF m 9 #[.val (.int p0), .val (.int (4 : Int32)), .val (.ref b61)] [(.ref b61)])) _
    refine XS.iconst X61.here hx rfl (hb hby d1_9) ?_
    show Steps p.tables e below (T61.setTop (mkF m 10 #[.val (.int p0), .val (.int (4 : Int32)), .val (.ref b61)] [(.int (0 : Int32)), (.ref b61)])) _
    refine XS.iloadN X61.here hx rfl (hb hby d1_10) rfl ?_
    show Steps p.tables e below (T61.setTop (mkF m 11 #[.val (.int p0), .val (.int (4 : Int32)), .val (.ref b61)] [(.int p0), (.int (0 : Int32)), (.ref b61)])) _
    refine XS.iconst X61.here hx rfl (hb hby d1_11) ?_
    show Steps p.tables e below (T61.setTop (mkF m 12 #[.val (.int p0), .val (.int (4 : Int32)), .val (.ref b61)] [(.int (0 : Int32)), (.int p0), (.int (0 : Int32)), (.ref b61)])) _
    refine st64 _ ?_
    show Steps p.tables e below (T64.setTop (mkF m 15 #[.val (.int p0), .val (.int (4 : Int32)), .val (.ref b61)] [(.int (nar .byte (((p0.toUInt32 >>> (((8 : Int32) * (0 : Int32)) &&& 31).toUInt32).toInt32).toInt8.toInt32))), (.int (0 : Int32)), (.ref b61)])) _
    refine st67 _ ?_
    show Steps p.tables e below (T67.setTop (mkF m 16 #[.val (.int p0), .val (.int (4 : Int32)), .val (.ref b61)] [])) _
    refine XS.iloadN X67.here hx rfl (hb hby d1_16) rfl ?_
    show Steps p.tables e below (T67.setTop (mkF m 17 #[.val (.int p0), .val (.int (4 : Int32)), .val (.ref b61)] [(.int (4 : Int32))])) _
    refine XS.iconst X67.here hx rfl (hb hby d1_17) ?_
    show Steps p.tables e below (T67.setTop (mkF m 18 #[.val (.int p0), .val (.int (4 : Int32)), .val (.ref b61)] [(.int (1 : Int32)), (.int (4 : Int32))])) _
    refine XS.icmpNo X67.here hx rfl (hb hby d1_18) rfl (tlt (by decide : (1 : Int32) < (4 : Int32))).2.2.2 ?_
    show Steps p.tables e below (T67.setTop (mkF m 21 #[.val (.int p0), .val (.int (4 : Int32)), .val (.ref b61)] [])) _
    refine XS.aloadN X67.here hx rfl (hb hby d1_21) rfl rfl ?_
    show Steps p.tables e below (T67.setTop (mkF m 22 #[.val (.int p0), .val (.int (4 : Int32)), .val (.ref b61)] [(.ref b61)])) _
    refine XS.iconst X67.here hx rfl (hb hby d1_22) ?_
    show Steps p.tables e below (T67.setTop (mkF m 23 #[.val (.int p0), .val (.int (4 : Int32)), .val (.ref b61)] [(.int (1 : Int32)), (.ref b61)])) _
    refine XS.iloadN X67.here hx rfl (hb hby d1_23) rfl ?_
    show Steps p.tables e below (T67.setTop (mkF m 24 #[.val (.int p0), .val (.int (4 : Int32)), .val (.ref b61)] [(.int p0), (.int (1 : Int32)), (.ref b61)])) _
    refine XS.iconst X67.here hx rfl (hb hby d1_24) ?_
    show Steps p.tables e below (T67.setTop (mkF m 25 #[.val (.int p0), .val (.int (4 : Int32)), .val (.ref b61)] [(.int (1 : Int32)), (.int p0), (.int (1 : Int32)), (.ref b61)])) _
    refine st72 _ ?_
    show Steps p.tables e below (T72.setTop (mkF m 28 #[.val (.int p0), .val (.int (4 : Int32)), .val (.ref b61)] [(.int (nar .byte (((p0.toUInt32 >>> (((8 : Int32) * (1 : Int32)) &&& 31).toUInt32).toInt32).toInt8.toInt32))), (.int (1 : Int32)), (.ref b61)])) _
    refine st75 _ ?_
    show Steps p.tables e below (T75.setTop (mkF m 29 #[.val (.int p0), .val (.int (4 : Int32)), .val (.ref b61)] [])) _
    refine XS.iloadN X75.here hx rfl (hb hby d1_29) rfl ?_
    show Steps p.tables e below (T75.setTop (mkF m 30 #[.val (.int p0), .val (.int (4 : Int32)), .val (.ref b61)] [(.int (4 : Int32))])) _
    refine XS.iconst X75.here hx rfl (hb hby d1_30) ?_
    show Steps p.tables e below (T75.setTop (mkF m 31 #[.val (.int p0), .val (.int (4 : Int32)), .val (.ref b61)] [(.int (2 : Int32)), (.int (4 : Int32))])) _
    refine XS.icmpNo X75.here hx rfl (hb hby d1_31) rfl (tlt (by decide : (2 : Int32) < (4 : Int32))).2.2.2 ?_
    show Steps p.tables e below (T75.setTop (mkF m 34 #[.val (.int p0), .val (.int (4 : Int32)), .val (.ref b61)] [])) _
    refine XS.aloadN X75.here hx rfl (hb hby d1_34) rfl rfl ?_
    show Steps p.tables e below (T75.setTop (mkF m 35 #[.val (.int p0), .val (.int (4 : Int32)), .val (.ref b61)] [(.ref b61)])) _
    refine XS.iconst X75.here hx rfl (hb hby d1_35) ?_
    show Steps p.tables e below (T75.setTop (mkF m 36 #[.val (.int p0), .val (.int (4 : Int32)), .val (.ref b61)] [(.int (2 : Int32)), (.ref b61)])) _
    refine XS.iloadN X75.here hx rfl (hb hby d1_36) rfl ?_
    show Steps p.tables e below (T75.setTop (mkF m 37 #[.val (.int p0), .val (.int (4 : Int32)), .val (.ref b61)] [(.int p0), (.int (2 : Int32)), (.ref b61)])) _
    refine XS.iconst X75.here hx rfl (hb hby d1_37) ?_
    show Steps p.tables e below (T75.setTop (mkF m 38 #[.val (.int p0), .val (.int (4 : Int32)), .val (.ref b61)] [(.int (2 : Int32)), (.int p0), (.int (2 : Int32)), (.ref b61)])) _
    refine st80 _ ?_
    show Steps p.tables e below (T80.setTop (mkF m 41 #[.val (.int p0), .val (.int (4 : Int32)), .val (.ref b61)] [(.int (nar .byte (((p0.toUInt32 >>> (((8 : Int32) * (2 : Int32)) &&& 31).toUInt32).toInt32).toInt8.toInt32))), (.int (2 : Int32)), (.ref b61)])) _
    refine st83 _ ?_
    show Steps p.tables e below (T83.setTop (mkF m 42 #[.val (.int p0), .val (.int (4 : Int32)), .val (.ref b61)] [])) _
    refine XS.iloadN X83.here hx rfl (hb hby d1_42) rfl ?_
    show Steps p.tables e below (T83.setTop (mkF m 43 #[.val (.int p0), .val (.int (4 : Int32)), .val (.ref b61)] [(.int (4 : Int32))])) _
    refine XS.iconst X83.here hx rfl (hb hby d1_43) ?_
    show Steps p.tables e below (T83.setTop (mkF m 44 #[.val (.int p0), .val (.int (4 : Int32)), .val (.ref b61)] [(.int (3 : Int32)), (.int (4 : Int32))])) _
    refine XS.icmpNo X83.here hx rfl (hb hby d1_44) rfl (tlt (by decide : (3 : Int32) < (4 : Int32))).2.2.2 ?_
    show Steps p.tables e below (T83.setTop (mkF m 47 #[.val (.int p0), .val (.int (4 : Int32)), .val (.ref b61)] [])) _
    refine XS.aloadN X83.here hx rfl (hb hby d1_47) rfl rfl ?_
    show Steps p.tables e below (T83.setTop (mkF m 48 #[.val (.int p0), .val (.int (4 : Int32)), .val (.ref b61)] [(.ref b61)])) _
    refine XS.iconst X83.here hx rfl (hb hby d1_48) ?_
    show Steps p.tables e below (T83.setTop (mkF m 49 #[.val (.int p0), .val (.int (4 : Int32)), .val (.ref b61)] [(.int (3 : Int32)), (.ref b61)])) _
    refine XS.iloadN X83.here hx rfl (hb hby d1_49) rfl ?_
    show Steps p.tables e below (T83.setTop (mkF m 50 #[.val (.int p0), .val (.int (4 : Int32)), .val (.ref b61)] [(.int p0), (.int (3 : Int32)), (.ref b61)])) _
    refine XS.iconst X83.here hx rfl (hb hby d1_50) ?_
    show Steps p.tables e below (T83.setTop (mkF m 51 #[.val (.int p0), .val (.int (4 : Int32)), .val (.ref b61)] [(.int (3 : Int32)), (.int p0), (.int (3 : Int32)), (.ref b61)])) _
    refine st88 _ ?_
    show Steps p.tables e below (T88.setTop (mkF m 54 #[.val (.int p0), .val (.int (4 : Int32)), .val (.ref b61)] [(.int (nar .byte (((p0.toUInt32 >>> (((8 : Int32) * (3 : Int32)) &&& 31).toUInt32).toInt32).toInt8.toInt32))), (.int (3 : Int32)), (.ref b61)])) _
    refine st91 _ ?_
    show Steps p.tables e below (T91.setTop (mkF m 55 #[.val (.int p0), .val (.int (4 : Int32)), .val (.ref b61)] [])) _
    refine XS.aloadN X91.here hx rfl (hb hby d1_55) rfl rfl ?_
    show Steps p.tables e below (T91.setTop (mkF m 56 #[.val (.int p0), .val (.int (4 : Int32)), .val (.ref b61)] [(.ref b61)])) _
    exact retOut X91 hx Bd.returns rfl (Or.inr (Or.inr (Or.inr (Or.inr ⟨rfl, rfl, rfl⟩)))) (hb hby d1_56) hr
  · show Q1_4 Z p0 h0 n0 _ T91.heap _
    rw [e91]
    exact ⟨b61, k61, rfl, N95, K93, g_b61, sz_b61, V91⟩
theorem d3_0 : decode prog_13_method_8_code 0 = .ok (.aload_n 0, 1) := by decide +kernel
theorem d3_1 : decode prog_13_method_8_code 1 = .ok (.arraylength, 1) := by decide +kernel
theorem d3_2 : decode prog_13_method_8_code 2 = .ok (.newarray .byte, 2) := by decide +kernel
theorem d3_4 : decode prog_13_method_8_code 4 = .ok (.astore_n 2, 1) := by decide +kernel
theorem d3_5 : decode prog_13_method_8_code 5 = .ok (.iconst 0, 1) := by decide +kernel
theorem d3_6 : decode prog_13_method_8_code 6 = .ok (.istore_n 3, 1) := by decide +kernel
theorem d3_7 : decode prog_13_method_8_code 7 = .ok (.iload_n 3, 1) := by decide +kernel
theorem d3_8 : decode prog_13_method_8_code 8 = .ok (.aload_n 0, 1) := by decide +kernel
theorem d3_9 : decode prog_13_method_8_code 9 = .ok (.arraylength, 1) := by decide +kernel
theorem d3_10 : decode prog_13_method_8_code 10 = .ok (.if_icmp .ge 20, 3) := by decide +kernel
theorem d3_30 : decode prog_13_method_8_code 30 = .ok (.aload_n 2, 1) := by decide +kernel
theorem d3_31 : decode prog_13_method_8_code 31 = .ok (.areturn, 1) := by decide +kernel
theorem pn_2 : plainName "com/example/rollcall/rollcall/bench/Milenage" = true := by first | (simp [plainName, overriddenIn]; done) | decide +kernel
theorem ef3_0_0 (m : MethodId) (x0 : Addr) (x1 : Addr) : entryFrame m #[(.ref x0), (.ref x1)] 4 = mkF m 0 #[.val (.ref x0), .val (.ref x1), .unset, .unset] [] := by first | (simp [entryFrame, mkF, argsToLocals, Value.category]; done) | rfl
abbrev rr3_0_0 : Room := { frames := 0, cells := 1, slots := 0, locals := 0 }
def Q3_0_0 (Z : State) (a0 : Addr) (a1 : Addr) (k_a0 : ClassId) (k_a1 : ClassId) (h0 : Heap) (n0 : Nat) (v : Option Value) (h : Heap) (L : List Loc) : Prop := ∃ (x0 : Addr) (y0 : ClassId), v = some (.ref x0) ∧ Fr n0 L ∧ Keep h0 h [] ∧ n0 ≤ x0 ∧ h0.size ≤ x0 ∧ Arv Z h x0 y0 .byte (0 : Int32) [] (.int (0 : Int32))
set_option maxRecDepth 65536 in
set_option maxHeartbeats 40000000 in
theorem rm3_0_0 (l : Launch) (Z : State) (aw : Array Value) (hw : ∀ d ∈ tables_1, d.before aw Z = true) (ws : List Jvm.Cond) (a0 : Addr) (a1 : Addr) (k_a0 : ClassId) (k_a1 : ClassId) (h0 : Heap) (n0 : Nat) (Z0 : n0 ≤ h0.size) (V_a0 : Arv Z h0 a0 k_a0 .byte (0 : Int32) [] (.int (0 : Int32))) (V_a1 : Arv Z h0 a1 k_a1 .byte (0 : Int32) [] (.int (0 : Int32))) :
    MetFree l (⟨"com/example/rollcall/rollcall/bench/Milenage", "xor", "([B[B)[B"⟩ : MethodName) (head1 (Jvm.Cond.code (⟨"com/example/rollcall/rollcall/bench/Milenage", "xor", "([B[B)[B"⟩ : MethodName) prog_13_method_8_code 4 (some (.array .byte)) :: ws) rr3_0_0) (fun a U => a = #[(.ref a0), (.ref a1)] ∧ Z.Warmed39 U.vm ∧ U.heap = h0) (fun _ _ _ _ _ => True) (fun _ U o U' => ∃ v L, o = .returned v ∧ Q3_0_0 Z a0 a1 k_a0 k_a1 h0 n0 v U'.heap L ∧ FrameEnd U o U' L rr3_0_0.cells rr3_0_0.slots) := by
  refine MetFree.of_bodySF (plainFor_of_name pn_2) hisR ?_
  intro p e s m args below meth c s₁ Bd hml0 hP hK
  obtain ⟨rfl, hZ, hh⟩ := hP
  have hx := Bd.exec
  have hby := Bd.bytes
  have hml : c.maxLocals = 4 := hml0
  have hown : s.vm.findClass "com/example/rollcall/rollcall/bench/Milenage" = some m.cls := findClass_of_methodNamed Bd.named
  have hnm := (name_of_methodNamed Bd.named Bd.method).1
  have X0 : Stand p l e rr3_0_0 s m #[(.ref a0), (.ref a1)] below meth c s₁ [] 0 0 := Stand.of_body Bd
  have e0 : s₁.heap = h0 := by rw [← hh, Bd.state]; rfl
  have N0 := Fr.nil n0
  have K0 := Keep.refl h0 []
  have pre0 : ∀ t, Steps p.tables e below (s₁.setTop (mkF m 0 #[.val (.ref a0), .val (.ref a1), .unset, .unset] [])) t → Steps p.tables e below (s₁.setTop (entryFrame m #[(.ref a0), (.ref a1)] 4)) t := fun t k => castTop (ef3_0_0 m a0 a1) k
  obtain ⟨cl96, Ar96, q96, S96, M96, H96, G96⟩ := id V_a0
  obtain ⟨T97, h97, k97, X97, e97, E97, A97, st97⟩ := newP X0 hx hZ (hw _ (List.mem_of_getElem? (i := 4) rfl)) e0 (g := (mkF m 2 #[.val (.ref a0), .val (.ref a1), .unset, .unset] [(.int (0 : Int32))])) rfl (hb hby d3_2) rfl (by decide) (cap := 0) (by decide) (by decide) (by decide) (by decide)
  obtain ⟨b97, gg97⟩ : ∃ z, z = h0.size := ⟨_, rfl⟩
  rw [← gg97] at A97 st97
  have f98 := V_a0.ext E97
  have f99 := V_a1.ext E97
  have ne100 : a0 ≠ b97 := Nat.ne_of_lt (Nat.lt_of_lt_of_le V_a0.lt (Nat.le_of_eq gg97.symm))
  have ne101 : a1 ≠ b97 := Nat.ne_of_lt (Nat.lt_of_lt_of_le V_a1.lt (Nat.le_of_eq gg97.symm))
  have g_b97 : n0 ≤ b97 := Nat.le_trans Z0 (Nat.le_of_eq gg97.symm)
  have sz_b97 : h0.size ≤ b97 := Nat.le_trans K0.1 (Nat.le_of_eq gg97.symm)
  have K102 := K0.ext E97
  have Z103 := Nat.le_trans Z0 E97.1
  have V97 : Arv Z h97 b97 k97 .byte (0 : Int32) [] (.int (0 : Int32)) := (Arv.new A97 (by decide)).pad (pad_rep [] (.int (0 : Int32)) 0)
  obtain ⟨cl104, Ar104, q104, S104, M104, H104, G104⟩ := id f98
  obtain ⟨fs, hr, hrun, hended, hW, hsame⟩ := X97.leave (v := some (.ref b97)) (fun h => by rw [Bd.returns] at h; cases h)
  refine ⟨_, _, pre0 _ ?_, hrun, hended, _, _, rfl, ?_, ⟨_, rfl⟩, hW, hsame.mono (by decide) (by decide)⟩
  · skip
    show Steps p.tables e below (s₁.setTop (mkF m 0 #[.val (.ref a0), .val (.ref a1), .unset, .unset] [])) _
    refine XS.aloadN X0.here hx rfl (hb hby d3_0) rfl rfl ?_
    show Steps p.tables e below (s₁.setTop (mkF m 1 #[.val (.ref a0), .val (.ref a1), .unset, .unset] [(.ref a0)])) _
    refine X0.arraylength hx (by rw [e0]; exact Ar96.1) (State.isArrayOf_alike hZ.alike Ar96.2.1) (g := (mkF m 1 #[.val (.ref a0), .val (.ref a1), .unset, .unset] [(.ref a0)])) rfl rfl (hb hby d3_1) _ ?_
    rw [len_of S96 M96]
    show Steps p.tables e below (s₁.setTop (mkF m 2 #[.val (.ref a0), .val (.ref a1), .unset, .unset] [(.int (0 : Int32))])) _
    refine st97 _ ?_
    show Steps p.tables e below (T97.setTop (mkF m 4 #[.val (.ref a0), .val (.ref a1), .unset, .unset] [(.ref b97)])) _
    refine XS.astoreN X97.here hx rfl (hb hby d3_4) rfl rfl (l' := #[.val (.ref a0), .val (.ref a1), .val (.ref b97), .unset]) rfl ?_
    show Steps p.tables e below (T97.setTop (mkF m 5 #[.val (.ref a0), .val (.ref a1), .val (.ref b97), .unset] [])) _
    refine XS.iconst X97.here hx rfl (hb hby d3_5) ?_
    show Steps p.tables e below (T97.setTop (mkF m 6 #[.val (.ref a0), .val (.ref a1), .val (.ref b97), .unset] [(.int (0 : Int32))])) _
    refine XS.istoreN X97.here hx rfl (hb hby d3_6) rfl (l' := #[.val (.ref a0), .val (.ref a1), .val (.ref b97), .val (.int (0 : Int32))]) rfl ?_
    show Steps p.tables e below (T97.setTop (mkF m 7 #[.val (.ref a0), .val (.ref a1), .val (.ref b97), .val (.int (0 : Int32))] [])) _
    refine XS.iloadN X97.here hx rfl (hb hby d3_7) rfl ?_
    show Steps p.tables e below (T97.setTop (mkF m 8 #[.val (.ref a0), .val (.ref a1), .val (.ref b97), .val (.int (0 : Int32))] [(.int (0 : Int32))])) _
    refine XS.aloadN X97.here hx rfl (hb hby d3_8) rfl rfl ?_
    show Steps p.tables e below (T97.setTop (mkF m 9 #[.val (.ref a0), .val (.ref a1), .val (.ref b97), .val (.int (0 : Int32))] [(.ref a0), (.int (0 : Int32))])) _
    refine X97.arraylength hx (by rw [e97]; exact Ar104.1) (State.isArrayOf_alike hZ.alike Ar104.2.1) (g := (mkF m 9 #[.val (.ref a0), .val (.ref a1), .val (.ref b97), .val (.int (0 : Int32))] [(.ref a0), (.int (0 : Int32))])) rfl rfl (hb hby d3_9) _ ?_
    rw [len_of S104 M104]
    show Steps p.tables e below (T97.setTop (mkF m 10 #[.val (.ref a0), .val (.ref a1), .val (.ref b97), .val (.int (0 : Int32))] [(.int (0 : Int32)), (.int (0 : Int32))])) _
    refine XS.icmpYes X97.here hx rfl (pc0 := 10) (pc' := 30) rfl (hb hby d3_10) rfl (flt (by decide : ¬ ((0 : Int32) < (0 : Int32)))).2.1 (by decide) (by decide) ?_
    show Steps p.tables e below (T97.setTop (mkF m 30 #[.val (.ref a0), .val (.ref a1), .val (.ref b97), .val (.int (0 : Int32))] [])) _
    refine XS.aloadN X97.here hx rfl (hb hby d3_30) rfl rfl ?_
    show Steps p.tables e below (T97.setTop (mkF m 31 #[.val (.ref a0), .val (.ref a1), .val (.ref b97), .val (.int (0 : Int32))] [(.ref b97)])) _
    exact retOut X97 hx Bd.returns rfl (Or.inr (Or.inr (Or.inr (Or.inr ⟨rfl, rfl, rfl⟩)))) (hb hby d3_31) hr
  · show Q3_0_0 Z a0 a1 k_a0 k_a1 h0 n0 _ T97.heap _
    rw [e97]
    exact ⟨b97, k97, rfl, N0, K102, g_b97, sz_b97, V97⟩
theorem ef3_0_1 (m : MethodId) (x0 : Addr) (x1 : Addr) : entryFrame m #[(.ref x0), (.ref x1)] 4 = mkF m 0 #[.val (.ref x0), .val (.ref x1), .unset, .unset] [] := by first | (simp [entryFrame, mkF, argsToLocals, Value.category]; done) | rfl
abbrev rr3_0_1 : Room := { frames := 0, cells := 1, slots := 0, locals := 0 }
def Q3_0_1 (Z : State) (a0 : Addr) (a1 : Addr) (w0 : Int32) (k_a0 : ClassId) (k_a1 : ClassId) (h0 : Heap) (n0 : Nat) (v : Option Value) (h : Heap) (L : List Loc) : Prop := ∃ (x0 : Addr) (y0 : ClassId), v = some (.ref x0) ∧ Fr n0 L ∧ Keep h0 h [] ∧ n0 ≤ x0 ∧ h0.size ≤ x0 ∧ Arv Z h x0 y0 .byte (0 : Int32) [] (.int (0 : Int32))
set_option maxRecDepth 65536 in
set_option maxHeartbeats 40000000 in
theorem rm3_0_1 (l : Launch) (Z : State) (aw : Array Value) (hw : ∀ d ∈ tables_1, d.before aw Z = true) (ws : List Jvm.Cond) (a0 : Addr) (a1 : Addr) (w0 : Int32) (k_a0 : ClassId) (k_a1 : ClassId) (h0 : Heap) (n0 : Nat) (Z0 : n0 ≤ h0.size) (V_a0 : Arv Z h0 a0 k_a0 .byte (0 : Int32) [] (.int (0 : Int32))) (V_a1 : Arv Z h0 a1 k_a1 .byte (1 : Int32) [(.int w0)] (.int (0 : Int32))) :
    MetFree l (⟨"com/example/rollcall/rollcall/bench/Milenage", "xor", "([B[B)[B"⟩ : MethodName) (head1 (Jvm.Cond.code (⟨"com/example/rollcall/rollcall/bench/Milenage", "xor", "([B[B)[B"⟩ : MethodName) prog_13_method_8_code 4 (some (.array .byte)) :: ws) rr3_0_1) (fun a U => a = #[(.ref a0), (.ref a1)] ∧ Z.Warmed39 U.vm ∧ U.heap = h0) (fun _ _ _ _ _ => True) (fun _ U o U' => ∃ v L, o = .returned v ∧ Q3_0_1 Z a0 a1 w0 k_a0 k_a1 h0 n0 v U'.heap L ∧ FrameEnd U o U' L rr3_0_1.cells rr3_0_1.slots) := by
  refine MetFree.of_bodySF (plainFor_of_name pn_2) hisR ?_
  intro p e s m args below meth c s₁ Bd hml0 hP hK
  obtain ⟨rfl, hZ, hh⟩ := hP
  have hx := Bd.exec
  have hby := Bd.bytes
  have hml : c.maxLocals = 4 := hml0
  have hown : s.vm.findClass "com/example/rollcall/rollcall/bench/Milenage" = some m.cls := findClass_of_methodNamed Bd.named
  have hnm := (name_of_methodNamed Bd.named Bd.method).1
  have X0 : Stand p l e rr3_0_1 s m #[(.ref a0), (.ref a1)] below meth c s₁ [] 0 0 := Stand.of_body Bd
  have e0 : s₁.heap = h0 := by rw [← hh, Bd.state]; rfl
  have N0 := Fr.nil n0
  have K0 := Keep.refl h0 []
  have pre0 : ∀ t, Steps p.tables e below (s₁.setTop (mkF m 0 #[.val (.ref a0), .val (.ref a1), .unset, .unset] [])) t → Steps p.tables e below (s₁.setTop (entryFrame m #[(.ref a0), (.ref a1)] 4)) t := fun t k => castTop (ef3_0_1 m a0 a1) k
  obtain ⟨cl105, Ar105, q105, S105, M105, H105, G105⟩ := id V_a0
  obtain ⟨T106, h106, k106, X106, e106, E106, A106, st106⟩ := newP X0 hx hZ (hw _ (List.mem_of_getElem? (i := 4) rfl)) e0 (g := (mkF m 2 #[.val (.ref a0), .val (.ref a1), .unset, .unset] [(.int (0 : Int32))])) rfl (hb hby d3_2) rfl (by decide) (cap := 0) (by decide) (by decide) (by decide) (by decide)
  obtain ⟨b106, gg106⟩ : ∃ z, z = h0.size := ⟨_, rfl⟩
  rw [← gg106] at A106 st106
  have f107 := V_a0.ext E106
  have f108 := V_a1.ext E106
  have ne109 : a0 ≠ b106 := Nat.ne_of_lt (Nat.lt_of_lt_of_le V_a0.lt (Nat.le_of_eq gg106.symm))
  have ne110 : a1 ≠ b106 := Nat.ne_of_lt (Nat.lt_of_lt_of_le V_a1.lt (Nat.le_of_eq gg106.symm))
  have g_b106 : n0 ≤ b106 := Nat.le_trans Z0 (Nat.le_of_eq gg106.symm)
  have sz_b106 : h0.size ≤ b106 := Nat.le_trans K0.1 (Nat.le_of_eq gg106.symm)
  have K111 := K0.ext E106
  have Z112 := Nat.le_trans Z0 E106.1
  have V106 : Arv Z h106 b106 k106 .byte (0 : Int32) [] (.int (0 : Int32)) := (Arv.new A106 (by decide)).pad (pad_rep [] (.int (0 : Int32)) 0)
  obtain ⟨cl113, Ar113, q113, S113, M113, H113, G113⟩ := id f107
  obtain ⟨fs, hr, hrun, hended, hW, hsame⟩ := X106.leave (v := some (.ref b106)) (fun h => by rw [Bd.returns] at h; cases h)
  refine ⟨_, _, pre0 _ ?_, hrun, hended, _, _, rfl, ?_, ⟨_, rfl⟩, hW, hsame.mono (by decide) (by decide)⟩
  · skip
    show Steps p.tables e below (s₁.setTop (mkF m 0 #[.val (.ref a0), .val (.ref a1), .unset, .unset] [])) _
    refine XS.aloadN X0.here hx rfl (hb hby d3_0) rfl rfl ?_
    show Steps p.tables e below (s₁.setTop (mkF m 1 #[.val (.ref a0), .val (.ref a1), .unset, .unset] [(.ref a0)])) _
    refine X0.arraylength hx (by rw [e0]; exact Ar105.1) (State.isArrayOf_alike hZ.alike Ar105.2.1) (g := (mkF m 1 #[.val (.ref a0), .val (.ref a1), .unset, .unset] [(.ref a0)])) rfl rfl (hb hby d3_1) _ ?_
    rw [len_of S105 M105]
    show Steps p.tables e below (s₁.setTop (mkF m 2 #[.val (.ref a0), .val (.ref a1), .unset, .unset] [(.int (0 : Int32))])) _
    refine st106 _ ?_
    show Steps p.tables e below (T106.setTop (mkF m 4 #[.val (.ref a0), .val (.ref a1), .unset, .unset] [(.ref b106)])) _
    refine XS.astoreN X106.here hx rfl (hb hby d3_4) rfl rfl (l' := #[.val (.ref a0), .val (.ref a1), .val (.ref b106), .unset]) rfl ?_
    show Steps p.tables e below (T106.setTop (mkF m 5 #[.val (.ref a0), .val (.ref a1), .val (.ref b106), .unset] [])) _
    refine XS.iconst X106.here hx rfl (hb hby d3_5) ?_
    show Steps p.tables e below (T106.setTop (mkF m 6 #[.val (.ref a0), .val (.ref a1), .val (.ref b106), .unset] [(.int (0 : Int32))])) _
    refine XS.istoreN X106.here hx rfl (hb hby d3_6) rfl (l' := #[.val (.ref a0), .val (.ref a1), .val (.ref b106), .val (.int (0 : Int32))]) rfl ?_
    show Steps p.tables e below (T106.setTop (mkF m 7 #[.val (.ref a0), .val (.ref a1), .val (.ref b106), .val (.int (0 : Int32))] [])) _
    refine XS.iloadN X106.here hx rfl (hb hby d3_7) rfl ?_
    show Steps p.tables e below (T106.setTop (mkF m 8 #[.val (.ref a0), .val (.ref a1), .val (.ref b106), .val (.int (0 : Int32))] [(.int (0 : Int32))])) _
    refine XS.aloadN X106.here hx rfl (hb hby d3_8) rfl rfl ?_
    show Steps p.tables e below (T106.setTop (mkF m 9 #[.val (.ref a0), .val (.ref a1), .val (.ref b106), .val (.int (0 : Int32))] [(.ref a0), (.int (0 : Int32))])) _
    refine X106.arraylength hx (by rw [e106]; exact Ar113.1) (State.isArrayOf_alike hZ.alike Ar113.2.1) (g := (mkF m 9 #[.val (.ref a0), .val (.ref a1), .val (.ref b106), .val (.int (0 : Int32))] [(.ref a0), (.int (0 : Int32))])) rfl rfl (hb hby d3_9) _ ?_
    rw [len_of S113 M113]
    show Steps p.tables e below (T106.setTop (mkF m 10 #[.val (.ref a0), .val (.ref a1), .val (.ref b106), .val (.int (0 : Int32))] [(.int (0 : Int32)), (.int (0 : Int32))])) _
    refine XS.icmpYes X106.here hx rfl (pc0 := 10) (pc' := 30) rfl (hb hby d3_10) rfl (flt (by decide : ¬ ((0 : Int32) < (0 : Int32)))).2.1 (by decide) (by decide) ?_
    show Steps p.tables e below (T106.setTop (mkF m 30 #[.val (.ref a0), .val (.ref a1), .val (.ref b106), .val (.int (0 : Int32))] [])) _
    refine XS.aloadN X106.here hx rfl (hb hby d3_30) rfl rfl ?_
    show Steps p.tables e below (T106.setTop (mkF m 31 #[.val (.ref a0), .val (.ref a1), .val (.ref b106), .val (.int (0 : Int32))] [(.ref b106)])) _
    exact retOut X106 hx Bd.returns rfl (Or.inr (Or.inr (Or.inr (Or.inr ⟨rfl, rfl, rfl⟩)))) (hb hby d3_31) hr
  · show Q3_0_1 Z a0 a1 w0 k_a0 k_a1 h0 n0 _ T106.heap _
    rw [e106]
    exact ⟨b106, k106, rfl, N0, K111, g_b106, sz_b106, V106⟩
theorem d3_13 : decode prog_13_method_8_code 13 = .ok (.aload_n 2, 1) := by decide +kernel
theorem d3_14 : decode prog_13_method_8_code 14 = .ok (.iload_n 3, 1) := by decide +kernel
theorem d3_15 : decode prog_13_method_8_code 15 = .ok (.aload_n 0, 1) := by decide +kernel
theorem d3_16 : decode prog_13_method_8_code 16 = .ok (.iload_n 3, 1) := by decide +kernel
theorem d3_17 : decode prog_13_method_8_code 17 = .ok (.baload, 1) := by decide +kernel
theorem d3_18 : decode prog_13_method_8_code 18 = .ok (.aload_n 1, 1) := by decide +kernel
theorem d3_19 : decode prog_13_method_8_code 19 = .ok (.iload_n 3, 1) := by decide +kernel
theorem d3_20 : decode prog_13_method_8_code 20 = .ok (.baload, 1) := by decide +kernel
theorem d3_21 : decode prog_13_method_8_code 21 = .ok (.ixor, 1) := by decide +kernel
theorem d3_22 : decode prog_13_method_8_code 22 = .ok (.i2b, 1) := by decide +kernel
theorem d3_23 : decode prog_13_method_8_code 23 = .ok (.bastore, 1) := by decide +kernel
theorem d3_24 : decode prog_13_method_8_code 24 = .ok (.iinc 3 1, 3) := by decide +kernel
theorem d3_27 : decode prog_13_method_8_code 27 = .ok (.goto (-20), 3) := by decide +kernel
theorem ef3_1_1 (m : MethodId) (x0 : Addr) (x1 : Addr) : entryFrame m #[(.ref x0), (.ref x1)] 4 = mkF m 0 #[.val (.ref x0), .val (.ref x1), .unset, .unset] [] := by first | (simp [entryFrame, mkF, argsToLocals, Value.category]; done) | rfl
abbrev rr3_1_1 : Room := { frames := 0, cells := 1, slots := 1, locals := 0 }
def Q3_1_1 (Z : State) (a0 : Addr) (a1 : Addr) (u0 : Int32) (w0 : Int32) (k_a0 : ClassId) (k_a1 : ClassId) (h0 : Heap) (n0 : Nat) (v : Option Value) (h : Heap) (L : List Loc) : Prop := ∃ (x0 : Addr) (y0 : ClassId), v = some (.ref x0) ∧ Fr n0 L ∧ Keep h0 h [] ∧ n0 ≤ x0 ∧ h0.size ≤ x0 ∧ Arv Z h x0 y0 .byte (1 : Int32) [(.int (nar .byte ((u0 ^^^ w0).toInt8.toInt32)))] (.int (0 : Int32))
set_option maxRecDepth 65536 in
set_option maxHeartbeats 40000000 in
theorem rm3_1_1 (l : Launch) (Z : State) (aw : Array Value) (hw : ∀ d ∈ tables_1, d.before aw Z = true) (ws : List Jvm.Cond) (a0 : Addr) (a1 : Addr) (u0 : Int32) (w0 : Int32) (k_a0 : ClassId) (k_a1 : ClassId) (h0 : Heap) (n0 : Nat) (Z0 : n0 ≤ h0.size) (V_a0 : Arv Z h0 a0 k_a0 .byte (1 : Int32) [(.int u0)] (.int (0 : Int32))) (V_a1 : Arv Z h0 a1 k_a1 .byte (1 : Int32) [(.int w0)] (.int (0 : Int32))) :
    MetFree l (⟨"com/example/rollcall/rollcall/bench/Milenage", "xor", "([B[B)[B"⟩ : MethodName) (head1 (Jvm.Cond.code (⟨"com/example/rollcall/rollcall/bench/Milenage", "xor", "([B[B)[B"⟩ : MethodName) prog_13_method_8_code 4 (some (.array .byte)) :: ws) rr3_1_1) (fun a U => a = #[(.ref a0), (.ref a1)] ∧ Z.Warmed39 U.vm ∧ U.heap = h0) (fun _ _ _ _ _ => True) (fun _ U o U' => ∃ v L, o = .returned v ∧ Q3_1_1 Z a0 a1 u0 w0 k_a0 k_a1 h0 n0 v U'.heap L ∧ FrameEnd U o U' L rr3_1_1.cells rr3_1_1.slots) := by
  refine MetFree.of_bodySF (plainFor_of_name pn_2) hisR ?_
  intro p e s m args below meth c s₁ Bd hml0 hP hK
  obtain ⟨rfl, hZ, hh⟩ := hP
  have hx := Bd.exec
  have hby := Bd.bytes
  have hml : c.maxLocals = 4 := hml0
  have hown : s.vm.findClass "com/example/rollcall/rollcall/bench/Milenage" = some m.cls := findClass_of_methodNamed Bd.named
  have hnm := (name_of_methodNamed Bd.named Bd.method).1
  have X0 : Stand p l e rr3_1_1 s m #[(.ref a0), (.ref a1)] below meth c s₁ [] 0 0 := Stand.of_body Bd
  have e0 : s₁.heap = h0 := by rw [← hh, Bd.state]; rfl
  have N0 := Fr.nil n0
  have K0 := Keep.refl h0 []
  have pre0 : ∀ t, Steps p.tables e below (s₁.setTop (mkF m 0 #[.val (.ref a0), .val (.ref a1), .unset, .unset] [])) t → Steps p.tables e below (s₁.setTop (entryFrame m #[(.ref a0), (.ref a1)] 4)) t := fun t k => castTop (ef3_1_1 m a0 a1) k
  obtain ⟨cl114, Ar114, q114, S114, M114, H114, G114⟩ := id V_a0
  obtain ⟨T115, h115, k115, X115, e115, E115, A115, st115⟩ := newP X0 hx hZ (hw _ (List.mem_of_getElem? (i := 4) rfl)) e0 (g := (mkF m 2 #[.val (.ref a0), .val (.ref a1), .unset, .unset] [(.int (1 : Int32))])) rfl (hb hby d3_2) rfl (by decide) (cap := 1) (by decide) (by decide) (by decide) (by decide)
  obtain ⟨b115, gg115⟩ : ∃ z, z = h0.size := ⟨_, rfl⟩
  rw [← gg115] at A115 st115
  have f116 := V_a0.ext E115
  have f117 := V_a1.ext E115
  have ne118 : a0 ≠ b115 := Nat.ne_of_lt (Nat.lt_of_lt_of_le V_a0.lt (Nat.le_of_eq gg115.symm))
  have ne119 : a1 ≠ b115 := Nat.ne_of_lt (Nat.lt_of_lt_of_le V_a1.lt (Nat.le_of_eq gg115.symm))
  have g_b115 : n0 ≤ b115 := Nat.le_trans Z0 (Nat.le_of_eq gg115.symm)
  have sz_b115 : h0.size ≤ b115 := Nat.le_trans K0.1 (Nat.le_of_eq gg115.symm)
  have K120 := K0.ext E115
  have Z121 := Nat.le_trans Z0 E115.1
  have V115 : Arv Z h115 b115 k115 .byte (1 : Int32) [(.int (0 : Int32))] (.int (0 : Int32)) := (Arv.new A115 (by decide)).pad (pad_rep [] (.int (0 : Int32)) 1)
  obtain ⟨cl122, Ar122, q122, S122, M122, H122, G122⟩ := id f116
  obtain ⟨cl123, Ar123, q123, S123, M123, H123, G123⟩ := id f116
  have hin124 : ¬ ((0 : Int32) < 0 ∨ cl123.slots.size ≤ ((0 : Int32)).toNatClampNeg) := inb_of S123 ⟨by decide, by decide⟩
  have hat125 : cl123.slots[((0 : Int32)).toNatClampNeg]? = some (.int u0) := H123.at hin124 rfl
  obtain ⟨cl126, Ar126, q126, S126, M126, H126, G126⟩ := id f117
  have hin127 : ¬ ((0 : Int32) < 0 ∨ cl126.slots.size ≤ ((0 : Int32)).toNatClampNeg) := inb_of S126 ⟨by decide, by decide⟩
  have hat128 : cl126.slots[((0 : Int32)).toNatClampNeg]? = some (.int w0) := H126.at hin127 rfl
  obtain ⟨cl129, Ar129, q129, S129, M129, H129, G129⟩ := id V115
  have hin130 : ¬ ((0 : Int32) < 0 ∨ cl129.slots.size ≤ ((0 : Int32)).toNatClampNeg) := inb_of S129 ⟨by decide, by decide⟩
  obtain ⟨T131, h131, X131, e131, W131, st131⟩ := stB X115 hx hZ e115 Ar129 (j := (0 : Int32)) hin130 (g := (mkF m 23 #[.val (.ref a0), .val (.ref a1), .val (.ref b115), .val (.int (0 : Int32))] [(.int ((u0 ^^^ w0).toInt8.toInt32)), (.int (0 : Int32)), (.ref b115)])) rfl rfl (hb hby d3_23)
  have V131 : Arv Z h131 b115 k115 .byte (1 : Int32) [(.int (nar .byte ((u0 ^^^ w0).toInt8.toInt32)))] (.int (0 : Int32)) := Arv.set Ar129 q129 S129 M129 H129 G129 (fits_nar_byte _) W131 0 rfl (Nat.le_of_ble_eq_true rfl)
  have f132 := f116.other W131 ne118
  have f133 := f117.other W131 ne119
  have K135 := K120.wr W131 (Or.inr sz_b115)
  have Z136 := Nat.le_trans Z121 (Keep.of_wr W131).1
  have N137 := Fr.snoc X131 N0 g_b115
  obtain ⟨cl138, Ar138, q138, S138, M138, H138, G138⟩ := id f132
  obtain ⟨fs, hr, hrun, hended, hW, hsame⟩ := X131.leave (v := some (.ref b115)) (fun h => by rw [Bd.returns] at h; cases h)
  refine ⟨_, _, pre0 _ ?_, hrun, hended, _, _, rfl, ?_, ⟨_, rfl⟩, hW, hsame.mono (by decide) (by decide)⟩
  · skip
    show Steps p.tables e below (s₁.setTop (mkF m 0 #[.val (.ref a0), .val (.ref a1), .unset, .unset] [])) _
    refine XS.aloadN X0.here hx rfl (hb hby d3_0) rfl rfl ?_
    show Steps p.tables e below (s₁.setTop (mkF m 1 #[.val (.ref a0), .val (.ref a1), .unset, .unset] [(.ref a0)])) _
    refine X0.arraylength hx (by rw [e0]; exact Ar114.1) (State.isArrayOf_alike hZ.alike Ar114.2.1) (g := (mkF m 1 #[.val (.ref a0), .val (.ref a1), .unset, .unset] [(.ref a0)])) rfl rfl (hb hby d3_1) _ ?_
    rw [len_of S114 M114]
    show Steps p.tables e below (s₁.setTop (mkF m 2 #[.val (.ref a0), .val (.ref a1), .unset, .unset] [(.int (1 : Int32))])) _
    refine st115 _ ?_
    show Steps p.tables e below (T115.setTop (mkF m 4 #[.val (.ref a0), .val (.ref a1), .unset, .unset] [(.ref b115)])) _
    refine XS.astoreN X115.here hx rfl (hb hby d3_4) rfl rfl (l' := #[.val (.ref a0), .val (.ref a1), .val (.ref b115), .unset]) rfl ?_
    show Steps p.tables e below (T115.setTop (mkF m 5 #[.val (.ref a0), .val (.ref a1), .val (.ref b115), .unset] [])) _
    refine XS.iconst X115.here hx rfl (hb hby d3_5) ?_
    show Steps p.tables e below (T115.setTop (mkF m 6 #[.val (.ref a0), .val (.ref a1), .val (.ref b115), .unset] [(.int (0 : Int32))])) _
    refine XS.istoreN X115.here hx rfl (hb hby d3_6) rfl (l' := #[.val (.ref a0), .val (.ref a1), .val (.ref b115), .val (.int (0 : Int32))]) rfl ?_
    show Steps p.tables e below (T115.setTop (mkF m 7 #[.val (.ref a0), .val (.ref a1), .val (.ref b115), .val (.int (0 : Int32))] [])) _
    refine XS.iloadN X115.here hx rfl (hb hby d3_7) rfl ?_
    show Steps p.tables e below (T115.setTop (mkF m 8 #[.val (.ref a0), .val (.ref a1), .val (.ref b115), .val (.int (0 : Int32))] [(.int (0 : Int32))])) _
    refine XS.aloadN X115.here hx rfl (hb hby d3_8) rfl rfl ?_
    show Steps p.tables e below (T115.setTop (mkF m 9 #[.val (.ref a0), .val (.ref a1), .val (.ref b115), .val (.int (0 : Int32))] [(.ref a0), (.int (0 : Int32))])) _
    refine X115.arraylength hx (by rw [e115]; exact Ar122.1) (State.isArrayOf_alike hZ.alike Ar122.2.1) (g := (mkF m 9 #[.val (.ref a0), .val (.ref a1), .val (.ref b115), .val (.int (0 : Int32))] [(.ref a0), (.int (0 : Int32))])) rfl rfl (hb hby d3_9) _ ?_
    rw [len_of S122 M122]
    show Steps p.tables e below (T115.setTop (mkF m 10 #[.val (.ref a0), .val (.ref a1), .val (.ref b115), .val (.int (0 : Int32))] [(.int (1 : Int32)), (.int (0 : Int32))])) _
    refine XS.icmpNo X115.here hx rfl (hb hby d3_10) rfl (tlt (by decide : (0 : Int32) < (1 : Int32))).2.1 ?_
    show Steps p.tables e below (T115.setTop (mkF m 13 #[.val (.ref a0), .val (.ref a1), .val (.ref b115), .val (.int (0 : Int32))] [])) _
    refine XS.aloadN X115.here hx rfl (hb hby d3_13) rfl rfl ?_
    show Steps p.tables e below (T115.setTop (mkF m 14 #[.val (.ref a0), .val (.ref a1), .val (.ref b115), .val (.int (0 : Int32))] [(.ref b115)])) _
    refine XS.iloadN X115.here hx rfl (hb hby d3_14) rfl ?_
    show Steps p.tables e below (T115.setTop (mkF m 15 #[.val (.ref a0), .val (.ref a1), .val (.ref b115), .val (.int (0 : Int32))] [(.int (0 : Int32)), (.ref b115)])) _
    refine XS.aloadN X115.here hx rfl (hb hby d3_15) rfl rfl ?_
    show Steps p.tables e below (T115.setTop (mkF m 16 #[.val (.ref a0), .val (.ref a1), .val (.ref b115), .val (.int (0 : Int32))] [(.ref a0), (.int (0 : Int32)), (.ref b115)])) _
    refine XS.iloadN X115.here hx rfl (hb hby d3_16) rfl ?_
    show Steps p.tables e below (T115.setTop (mkF m 17 #[.val (.ref a0), .val (.ref a1), .val (.ref b115), .val (.int (0 : Int32))] [(.int (0 : Int32)), (.ref a0), (.int (0 : Int32)), (.ref b115)])) _
    refine X115.baloadBytes hx (j := (0 : Int32)) (v := (.int u0)) (by rw [e115]; exact Ar123.1) (State.isArrayOf_alike hZ.alike Ar123.2.1) Ar123.2.2 hin124 hat125 (g := (mkF m 17 #[.val (.ref a0), .val (.ref a1), .val (.ref b115), .val (.int (0 : Int32))] [(.int (0 : Int32)), (.ref a0), (.int (0 : Int32)), (.ref b115)])) rfl rfl (hb hby d3_17) _ ?_
    show Steps p.tables e below (T115.setTop (mkF m 18 #[.val (.ref a0), .val (.ref a1), .val (.ref b115), .val (.int (0 : Int32))] [(.int u0), (.int (0 : Int32)), (.ref b115)])) _
    refine XS.aloadN X115.here hx rfl (hb hby d3_18) rfl rfl ?_
    show Steps p.tables e below (T115.setTop (mkF m 19 #[.val (.ref a0), .val (.ref a1), .val (.ref b115), .val (.int (0 : Int32))] [(.ref a1), (.int u0), (.int (0 : Int32)), (.ref b115)])) _
    refine XS.iloadN X115.here hx rfl (hb hby d3_19) rfl ?_
    show Steps p.tables e below (T115.setTop (mkF m 20 #[.val (.ref a0), .val (.ref a1), .val (.ref b115), .val (.int (0 : Int32))] [(.int (0 : Int32)), (.ref a1), (.int u0), (.int (0 : Int32)), (.ref b115)])) _
    refine X115.baloadBytes hx (j := (0 : Int32)) (v := (.int w0)) (by rw [e115]; exact Ar126.1) (State.isArrayOf_alike hZ.alike Ar126.2.1) Ar126.2.2 hin127 hat128 (g := (mkF m 20 #[.val (.ref a0), .val (.ref a1), .val (.ref b115), .val (.int (0 : Int32))] [(.int (0 : Int32)), (.ref a1), (.int u0), (.int (0 : Int32)), (.ref b115)])) rfl rfl (hb hby d3_20) _ ?_
    show Steps p.tables e below (T115.setTop (mkF m 21 #[.val (.ref a0), .val (.ref a1), .val (.ref b115), .val (.int (0 : Int32))] [(.int w0), (.int u0), (.int (0 : Int32)), (.ref b115)])) _
    refine XS.ixor X115.here hx rfl (hb hby d3_21) rfl ?_
    show Steps p.tables e below (T115.setTop (mkF m 22 #[.val (.ref a0), .val (.ref a1), .val (.ref b115), .val (.int (0 : Int32))] [(.int (u0 ^^^ w0)), (.int (0 : Int32)), (.ref b115)])) _
    refine XS.i2b X115.here hx rfl (hb hby d3_22) rfl ?_
    show Steps p.tables e below (T115.setTop (mkF m 23 #[.val (.ref a0), .val (.ref a1), .val (.ref b115), .val (.int (0 : Int32))] [(.int ((u0 ^^^ w0).toInt8.toInt32)), (.int (0 : Int32)), (.ref b115)])) _
    refine st131 _ ?_
    show Steps p.tables e below (T131.setTop (mkF m 24 #[.val (.ref a0), .val (.ref a1), .val (.ref b115), .val (.int (0 : Int32))] [])) _
    refine XS.iinc X131.here hx rfl (hb hby d3_24) rfl (l' := #[.val (.ref a0), .val (.ref a1), .val (.ref b115), .val (.int (1 : Int32))]) rfl ?_
    show Steps p.tables e below (T131.setTop (mkF m 27 #[.val (.ref a0), .val (.ref a1), .val (.ref b115), .val (.int (1 : Int32))] [])) _
    refine XS.goto X131.here hx rfl (pc0 := 27) (pc' := 7) rfl (hb hby d3_27) (by decide) (by decide) ?_
    show Steps p.tables e below (T131.setTop (mkF m 7 #[.val (.ref a0), .val (.ref a1), .val (.ref b115), .val (.int (1 : Int32))] [])) _
    refine XS.iloadN X131.here hx rfl (hb hby d3_7) rfl ?_
    show Steps p.tables e below (T131.setTop (mkF m 8 #[.val (.ref a0), .val (.ref a1), .val (.ref b115), .val (.int (1 : Int32))] [(.int (1 : Int32))])) _
    refine XS.aloadN X131.here hx rfl (hb hby d3_8) rfl rfl ?_
    show Steps p.tables e below (T131.setTop (mkF m 9 #[.val (.ref a0), .val (.ref a1), .val (.ref b115), .val (.int (1 : Int32))] [(.ref a0), (.int (1 : Int32))])) _
    refine X131.arraylength hx (by rw [e131]; exact Ar138.1) (State.isArrayOf_alike hZ.alike Ar138.2.1) (g := (mkF m 9 #[.val (.ref a0), .val (.ref a1), .val (.ref b115), .val (.int (1 : Int32))] [(.ref a0), (.int (1 : Int32))])) rfl rfl (hb hby d3_9) _ ?_
    rw [len_of S138 M138]
    show Steps p.tables e below (T131.setTop (mkF m 10 #[.val (.ref a0), .val (.ref a1), .val (.ref b115), .val (.int (1 : Int32))] [(.int (1 : Int32)), (.int (1 : Int32))])) _
    refine XS.icmpYes X131.here hx rfl (pc0 := 10) (pc' := 30) rfl (hb hby d3_10) rfl (flt (by decide : ¬ ((1 : Int32) < (1 : Int32)))).2.1 (by decide) (by decide) ?_
    show Steps p.tables e below (T131.setTop (mkF m 30 #[.val (.ref a0), .val (.ref a1), .val (.ref b115), .val (.int (1 : Int32))] [])) _
    refine XS.aloadN X131.here hx rfl (hb hby d3_30) rfl rfl ?_
    show Steps p.tables e below (T131.setTop (mkF m 31 #[.val (.ref a0), .val (.ref a1), .val (.ref b115), .val (.int (1 : Int32))] [(.ref b115)])) _
    exact retOut X131 hx Bd.returns rfl (Or.inr (Or.inr (Or.inr (Or.inr ⟨rfl, rfl, rfl⟩)))) (hb hby d3_31) hr
  · show Q3_1_1 Z a0 a1 u0 w0 k_a0 k_a1 h0 n0 _ T131.heap _
    rw [e131]
    exact ⟨b115, k115, rfl, N137, K135, g_b115, sz_b115, V131⟩
theorem ef3_1_2 (m : MethodId) (x0 : Addr) (x1 : Addr) : entryFrame m #[(.ref x0), (.ref x1)] 4 = mkF m 0 #[.val (.ref x0), .val (.ref x1), .unset, .unset] [] := by first | (simp [entryFrame, mkF, argsToLocals, Value.category]; done) | rfl
abbrev rr3_1_2 : Room := { frames := 0, cells := 1, slots := 1, locals := 0 }
def Q3_1_2 (Z : State) (a0 : Addr) (a1 : Addr) (u0 : Int32) (w0 : Int32) (w1 : Int32) (k_a0 : ClassId) (k_a1 : ClassId) (h0 : Heap) (n0 : Nat) (v : Option Value) (h : Heap) (L : List Loc) : Prop := ∃ (x0 : Addr) (y0 : ClassId), v = some (.ref x0) ∧ Fr n0 L ∧ Keep h0 h [] ∧ n0 ≤ x0 ∧ h0.size ≤ x0 ∧ Arv Z h x0 y0 .byte (1 : Int32) [(.int (nar .byte ((u0 ^^^ w0).toInt8.toInt32)))] (.int (0 : Int32))
set_option maxRecDepth 65536 in
set_option maxHeartbeats 40000000 in
theorem rm3_1_2 (l : Launch) (Z : State) (aw : Array Value) (hw : ∀ d ∈ tables_1, d.before aw Z = true) (ws : List Jvm.Cond) (a0 : Addr) (a1 : Addr) (u0 : Int32) (w0 : Int32) (w1 : Int32) (k_a0 : ClassId) (k_a1 : ClassId) (h0 : Heap) (n0 : Nat) (Z0 : n0 ≤ h0.size) (V_a0 : Arv Z h0 a0 k_a0 .byte (1 : Int32) [(.int u0)] (.int (0 : Int32))) (V_a1 : Arv Z h0 a1 k_a1 .byte (2 : Int32) [(.int w0), (.int w1)] (.int (0 : Int32))) :
    MetFree l (⟨"com/example/rollcall/rollcall/bench/Milenage", "xor", "([B[B)[B"⟩ : MethodName) (head1 (Jvm.Cond.code (⟨"com/example/rollcall/rollcall/bench/Milenage", "xor", "([B[B)[B"⟩ : MethodName) prog_13_method_8_code 4 (some (.array .byte)) :: ws) rr3_1_2) (fun a U => a = #[(.ref a0), (.ref a1)] ∧ Z.Warmed39 U.vm ∧ U.heap = h0) (fun _ _ _ _ _ => True) (fun _ U o U' => ∃ v L, o = .returned v ∧ Q3_1_2 Z a0 a1 u0 w0 w1 k_a0 k_a1 h0 n0 v U'.heap L ∧ FrameEnd U o U' L rr3_1_2.cells rr3_1_2.slots) := by
  refine MetFree.of_bodySF (plainFor_of_name pn_2) hisR ?_
  intro p e s m args below meth c s₁ Bd hml0 hP hK
  obtain ⟨rfl, hZ, hh⟩ := hP
  have hx := Bd.exec
  have hby := Bd.bytes
  have hml : c.maxLocals = 4 := hml0
  have hown : s.vm.findClass "com/example/rollcall/rollcall/bench/Milenage" = some m.cls := findClass_of_methodNamed Bd.named
  have hnm := (name_of_methodNamed Bd.named Bd.method).1
  have X0 : Stand p l e rr3_1_2 s m #[(.ref a0), (.ref a1)] below meth c s₁ [] 0 0 := Stand.of_body Bd
  have e0 : s₁.heap = h0 := by rw [← hh, Bd.state]; rfl
  have N0 := Fr.nil n0
  have K0 := Keep.refl h0 []
  have pre0 : ∀ t, Steps p.tables e below (s₁.setTop (mkF m 0 #[.val (.ref a0), .val (.ref a1), .unset, .unset] [])) t → Steps p.tables e below (s₁.setTop (entryFrame m #[(.ref a0), (.ref a1)] 4)) t := fun t k => castTop (ef3_1_2 m a0 a1) k
  obtain ⟨cl139, Ar139, q139, S139, M139, H139, G139⟩ := id V_a0
  obtain ⟨T140, h140, k140, X140, e140, E140, A140, st140⟩ := newP X0 hx hZ (hw _ (List.mem_of_getElem? (i := 4) rfl)) e0 (g := (mkF m 2 #[.val (.ref a0), .val (.ref a1), .unset, .unset] [(.int (1 : Int32))])) rfl (hb hby d3_2) rfl (by decide) (cap := 1) (by decide) (by decide) (by decide) (by decide)
  obtain ⟨b140, gg140⟩ : ∃ z, z = h0.size := ⟨_, rfl⟩
  rw [← gg140] at A140 st140
  have f141 := V_a0.ext E140
  have f142 := V_a1.ext E140
  have ne143 : a0 ≠ b140 := Nat.ne_of_lt (Nat.lt_of_lt_of_le V_a0.lt (Nat.le_of_eq gg140.symm))
  have ne144 : a1 ≠ b140 := Nat.ne_of_lt (Nat.lt_of_lt_of_le V_a1.lt (Nat.le_of_eq gg140.symm))
  have g_b140 : n0 ≤ b140 := Nat.le_trans Z0 (Nat.le_of_eq gg140.symm)
  have sz_b140 : h0.size ≤ b140 := Nat.le_trans K0.1 (Nat.le_of_eq gg140.symm)
  have K145 := K0.ext E140
  have Z146 := Nat.le_trans Z0 E140.1
  have V140 : Arv Z h140 b140 k140 .byte (1 : Int32) [(.int (0 : Int32))] (.int (0 : Int32)) := (Arv.new A140 (by decide)).pad (pad_rep [] (.int (0 : Int32)) 1)
  obtain ⟨cl147, Ar147, q147, S147, M147, H147, G147⟩ := id f141
  obtain ⟨cl148, Ar148, q148, S148, M148, H148, G148⟩ := id f141
  have hin149 : ¬ ((0 : Int32) < 0 ∨ cl148.slots.size ≤ ((0 : Int32)).toNatClampNeg) := inb_of S148 ⟨by decide, by decide⟩
  have hat150 : cl148.slots[((0 : Int32)).toNatClampNeg]? = some (.int u0) := H148.at hin149 rfl
  obtain ⟨cl151, Ar151, q151, S151, M151, H151, G151⟩ := id f142
  have hin152 : ¬ ((0 : Int32) < 0 ∨ cl151.slots.size ≤ ((0 : Int32)).toNatClampNeg) := inb_of S151 ⟨by decide, by decide⟩
  have hat153 : cl151.slots[((0 : Int32)).toNatClampNeg]? = some (.int w0) := H151.at hin152 rfl
  obtain ⟨cl154, Ar154, q154, S154, M154, H154, G154⟩ := id V140
  have hin155 : ¬ ((0 : Int32) < 0 ∨ cl154.slots.size ≤ ((0 : Int32)).toNatClampNeg) := inb_of S154 ⟨by decide, by decide⟩
  obtain ⟨T156, h156, X156, e156, W156, st156⟩ := stB X140 hx hZ e140 Ar154 (j := (0 : Int32)) hin155 (g := (mkF m 23 #[.val (.ref a0), .val (.ref a1), .val (.ref b140), .val (.int (0 : Int32))] [(.int ((u0 ^^^ w0).toInt8.toInt32)), (.int (0 : Int32)), (.ref b140)])) rfl rfl (hb hby d3_23)
  have V156 : Arv Z h156 b140 k140 .byte (1 : Int32) [(.int (nar .byte ((u0 ^^^ w0).toInt8.toInt32)))] (.int (0 : Int32)) := Arv.set Ar154 q154 S154 M154 H154 G154 (fits_nar_byte _) W156 0 rfl (Nat.le_of_ble_eq_true rfl)
  have f157 := f141.other W156 ne143
  have f158 := f142.other W156 ne144
  have K160 := K145.wr W156 (Or.inr sz_b140)
  have Z161 := Nat.le_trans Z146 (Keep.of_wr W156).1
  have N162 := Fr.snoc X156 N0 g_b140
  obtain ⟨cl163, Ar163, q163, S163, M163, H163, G163⟩ := id f157
  obtain ⟨fs, hr, hrun, hended, hW, hsame⟩ := X156.leave (v := some (.ref b140)) (fun h => by rw [Bd.returns] at h; cases h)
  refine ⟨_, _, pre0 _ ?_, hrun, hended, _, _, rfl, ?_, ⟨_, rfl⟩, hW, hsame.mono (by decide) (by decide)⟩
  · skip
    show Steps p.tables e below (s₁.setTop (mkF m 0 #[.val (.ref a0), .val (.ref a1), .unset, .unset] [])) _
    refine XS.aloadN X0.here hx rfl (hb hby d3_0) rfl rfl ?_
    show Steps p.tables e below (s₁.setTop (mkF m 1 #[.val (.ref a0), .val (.ref a1), .unset, .unset] [(.ref a0)])) _
    refine X0.arraylength hx (by rw [e0]; exact Ar139.1) (State.isArrayOf_alike hZ.alike Ar139.2.1) (g := (mkF m 1 #[.val (.ref a0), .val (.ref a1), .unset, .unset] [(.ref a0)])) rfl rfl (hb hby d3_1) _ ?_
    rw [len_of S139 M139]
    show Steps p.tables e below (s₁.setTop (mkF m 2 #[.val (.ref a0), .val (.ref a1), .unset, .unset] [(.int (1 : Int32))])) _
    refine st140 _ ?_
    show Steps p.tables e below (T140.setTop (mkF m 4 #[.val (.ref a0), .val (.ref a1), .unset, .unset] [(.ref b140)])) _
    refine XS.astoreN X140.here hx rfl (hb hby d3_4) rfl rfl (l' := #[.val (.ref a0), .val (.ref a1), .val (.ref b140), .unset]) rfl ?_
    show Steps p.tables e below (T140.setTop (mkF m 5 #[.val (.ref a0), .val (.ref a1), .val (.ref b140), .unset] [])) _
    refine XS.iconst X140.here hx rfl (hb hby d3_5) ?_
    show Steps p.tables e below (T140.setTop (mkF m 6 #[.val (.ref a0), .val (.ref a1), .val (.ref b140), .unset] [(.int (0 : Int32))])) _
    refine XS.istoreN X140.here hx rfl (hb hby d3_6) rfl (l' := #[.val (.ref a0), .val (.ref a1), .val (.ref b140), .val (.int (0 : Int32))]) rfl ?_
    show Steps p.tables e below (T140.setTop (mkF m 7 #[.val (.ref a0), .val (.ref a1), .val (.ref b140), .val (.int (0 : Int32))] [])) _
    refine XS.iloadN X140.here hx rfl (hb hby d3_7) rfl ?_
    show Steps p.tables e below (T140.setTop (mkF m 8 #[.val (.ref a0), .val (.ref a1), .val (.ref b140), .val (.int (0 : Int32))] [(.int (0 : Int32))])) _
    refine XS.aloadN X140.here hx rfl (hb hby d3_8) rfl rfl ?_
    show Steps p.tables e below (T140.setTop (mkF m 9 #[.val (.ref a0), .val (.ref a1), .val (.ref b140), .val (.int (0 : Int32))] [(.ref a0), (.int (0 : Int32))])) _
    refine X140.arraylength hx (by rw [e140]; exact Ar147.1) (State.isArrayOf_alike hZ.alike Ar147.2.1) (g := (mkF m 9 #[.val (.ref a0), .val (.ref a1), .val (.ref b140), .val (.int (0 : Int32))] [(.ref a0), (.int (0 : Int32))])) rfl rfl (hb hby d3_9) _ ?_
    rw [len_of S147 M147]
    show Steps p.tables e below (T140.setTop (mkF m 10 #[.val (.ref a0), .val (.ref a1), .val (.ref b140), .val (.int (0 : Int32))] [(.int (1 : Int32)), (.int (0 : Int32))])) _
    refine XS.icmpNo X140.here hx rfl (hb hby d3_10) rfl (tlt (by decide : (0 : Int32) < (1 : Int32))).2.1 ?_
    show Steps p.tables e below (T140.setTop (mkF m 13 #[.val (.ref a0), .val (.ref a1), .val (.ref b140), .val (.int (0 : Int32))] [])) _
    refine XS.aloadN X140.here hx rfl (hb hby d3_13) rfl rfl ?_
    show Steps p.tables e below (T140.setTop (mkF m 14 #[.val (.ref a0), .val (.ref a1), .val (.ref b140), .val (.int (0 : Int32))] [(.ref b140)])) _
    refine XS.iloadN X140.here hx rfl (hb hby d3_14) rfl ?_
    show Steps p.tables e below (T140.setTop (mkF m 15 #[.val (.ref a0), .val (.ref a1), .val (.ref b140), .val (.int (0 : Int32))] [(.int (0 : Int32)), (.ref b140)])) _
    refine XS.aloadN X140.here hx rfl (hb hby d3_15) rfl rfl ?_
    show Steps p.tables e below (T140.setTop (mkF m 16 #[.val (.ref a0), .val (.ref a1), .val (.ref b140), .val (.int (0 : Int32))] [(.ref a0), (.int (0 : Int32)), (.ref b140)])) _
    refine XS.iloadN X140.here hx rfl (hb hby d3_16) rfl ?_
    show Steps p.tables e below (T140.setTop (mkF m 17 #[.val (.ref a0), .val (.ref a1), .val (.ref b140), .val (.int (0 : Int32))] [(.int (0 : Int32)), (.ref a0), (.int (0 : Int32)), (.ref b140)])) _
    refine X140.baloadBytes hx (j := (0 : Int32)) (v := (.int u0)) (by rw [e140]; exact Ar148.1) (State.isArrayOf_alike hZ.alike Ar148.2.1) Ar148.2.2 hin149 hat150 (g := (mkF m 17 #[.val (.ref a0), .val (.ref a1), .val (.ref b140), .val (.int (0 : Int32))] [(.int (0 : Int32)), (.ref a0), (.int (0 : Int32)), (.ref b140)])) rfl rfl (hb hby d3_17) _ ?_
    show Steps p.tables e below (T140.setTop (mkF m 18 #[.val (.ref a0), .val (.ref a1), .val (.ref b140), .val (.int (0 : Int32))] [(.int u0), (.int (0 : Int32)), (.ref b140)])) _
    refine XS.aloadN X140.here hx rfl (hb hby d3_18) rfl rfl ?_
    show Steps p.tables e below (T140.setTop (mkF m 19 #[.val (.ref a0), .val (.ref a1), .val (.ref b140), .val (.int (0 : Int32))] [(.ref a1), (.int u0), (.int (0 : Int32)), (.ref b140)])) _
    refine XS.iloadN X140.here hx rfl (hb hby d3_19) rfl ?_
    show Steps p.tables e below (T140.setTop (mkF m 20 #[.val (.ref a0), .val (.ref a1), .val (.ref b140), .val (.int (0 : Int32))] [(.int (0 : Int32)), (.ref a1), (.int u0), (.int (0 : Int32)), (.ref b140)])) _
    refine X140.baloadBytes hx (j := (0 : Int32)) (v := (.int w0)) (by rw [e140]; exact Ar151.1) (State.isArrayOf_alike hZ.alike Ar151.2.1) Ar151.2.2 hin152 hat153 (g := (mkF m 20 #[.val (.ref a0), .val (.ref a1), .val (.ref b140), .val (.int (0 : Int32))] [(.int (0 : Int32)), (.ref a1), (.int u0), (.int (0 : Int32)), (.ref b140)])) rfl rfl (hb hby d3_20) _ ?_
    show Steps p.tables e below (T140.setTop (mkF m 21 #[.val (.ref a0), .val (.ref a1), .val (.ref b140), .val (.int (0 : Int32))] [(.int w0), (.int u0), (.int (0 : Int32)), (.ref b140)])) _
    refine XS.ixor X140.here hx rfl (hb hby d3_21) rfl ?_
    show Steps p.tables e below (T140.setTop (mkF m 22 #[.val (.ref a0), .val (.ref a1), .val (.ref b140), .val (.int (0 : Int32))] [(.int (u0 ^^^ w0)), (.int (0 : Int32)), (.ref b140)])) _
    refine XS.i2b X140.here hx rfl (hb hby d3_22) rfl ?_
    show Steps p.tables e below (T140.setTop (mkF m 23 #[.val (.ref a0), .val (.ref a1), .val (.ref b140), .val (.int (0 : Int32))] [(.int ((u0 ^^^ w0).toInt8.toInt32)), (.int (0 : Int32)), (.ref b140)])) _
    refine st156 _ ?_
    show Steps p.tables e below (T156.setTop (mkF m 24 #[.val (.ref a0), .val (.ref a1), .val (.ref b140), .val (.int (0 : Int32))] [])) _
    refine XS.iinc X156.here hx rfl (hb hby d3_24) rfl (l' := #[.val (.ref a0), .val (.ref a1), .val (.ref b140), .val (.int (1 : Int32))]) rfl ?_
    show Steps p.tables e below (T156.setTop (mkF m 27 #[.val (.ref a0), .val (.ref a1), .val (.ref b140), .val (.int (1 : Int32))] [])) _
    refine XS.goto X156.here hx rfl (pc0 := 27) (pc' := 7) rfl (hb hby d3_27) (by decide) (by decide) ?_
    show Steps p.tables e below (T156.setTop (mkF m 7 #[.val (.ref a0), .val (.ref a1), .val (.ref b140), .val (.int (1 : Int32))] [])) _
    refine XS.iloadN X156.here hx rfl (hb hby d3_7) rfl ?_
    show Steps p.tables e below (T156.setTop (mkF m 8 #[.val (.ref a0), .val (.ref a1), .val (.ref b140), .val (.int (1 : Int32))] [(.int (1 : Int32))])) _
    refine XS.aloadN X156.here hx rfl (hb hby d3_8) rfl rfl ?_
    show Steps p.tables e below (T156.setTop (mkF m 9 #[.val (.ref a0), .val (.ref a1), .val (.ref b140), .val (.int (1 : Int32))] [(.ref a0), (.int (1 : Int32))])) _
    refine X156.arraylength hx (by rw [e156]; exact Ar163.1) (State.isArrayOf_alike hZ.alike Ar163.2.1) (g := (mkF m 9 #[.val (.ref a0), .val (.ref a1), .val (.ref b140), .val (.int (1 : Int32))] [(.ref a0), (.int (1 : Int32))])) rfl rfl (hb hby d3_9) _ ?_
    rw [len_of S163 M163]
    show Steps p.tables e below (T156.setTop (mkF m 10 #[.val (.ref a0), .val (.ref a1), .val (.ref b140), .val (.int (1 : Int32))] [(.int (1 : Int32)), (.int (1 : Int32))])) _
    refine XS.icmpYes X156.here hx rfl (pc0 := 10) (pc' := 30) rfl (hb hby d3_10) rfl (flt (by decide : ¬ ((1 : Int32) < (1 : Int32)))).2.1 (by decide) (by decide) ?_
    show Steps p.tables e below (T156.setTop (mkF m 30 #[.val (.ref a0), .val (.ref a1), .val (.ref b140), .val (.int (1 : Int32))] [])) _
    refine XS.aloadN X156.here hx rfl (hb hby d3_30) rfl rfl ?_
    show Steps p.tables e below (T156.setTop (mkF m 31 #[.val (.ref a0), .val (.ref a1), .val (.ref b140), .val (.int (1 : Int32))] [(.ref b140)])) _
    exact retOut X156 hx Bd.returns rfl (Or.inr (Or.inr (Or.inr (Or.inr ⟨rfl, rfl, rfl⟩)))) (hb hby d3_31) hr
  · show Q3_1_2 Z a0 a1 u0 w0 w1 k_a0 k_a1 h0 n0 _ T156.heap _
    rw [e156]
    exact ⟨b140, k140, rfl, N162, K160, g_b140, sz_b140, V156⟩
theorem ef3_2_2 (m : MethodId) (x0 : Addr) (x1 : Addr) : entryFrame m #[(.ref x0), (.ref x1)] 4 = mkF m 0 #[.val (.ref x0), .val (.ref x1), .unset, .unset] [] := by first | (simp [entryFrame, mkF, argsToLocals, Value.category]; done) | rfl
abbrev rr3_2_2 : Room := { frames := 0, cells := 1, slots := 2, locals := 0 }
def Q3_2_2 (Z : State) (a0 : Addr) (a1 : Addr) (u0 : Int32) (u1 : Int32) (w0 : Int32) (w1 : Int32) (k_a0 : ClassId) (k_a1 : ClassId) (h0 : Heap) (n0 : Nat) (v : Option Value) (h : Heap) (L : List Loc) : Prop := ∃ (x0 : Addr) (y0 : ClassId), v = some (.ref x0) ∧ Fr n0 L ∧ Keep h0 h [] ∧ n0 ≤ x0 ∧ h0.size ≤ x0 ∧ Arv Z h x0 y0 .byte (2 : Int32) [(.int (nar .byte ((u0 ^^^ w0).toInt8.toInt32))), (.int (nar .byte ((u1 ^^^ w1).toInt8.toInt32)))] (.int (0 : Int32))
set_option maxRecDepth 65536 in
set_option maxHeartbeats 40000000 in
theorem rm3_2_2 (l : Launch) (Z : State) (aw : Array Value) (hw : ∀ d ∈ tables_1, d.before aw Z = true) (ws : List Jvm.Cond) (a0 : Addr) (a1 : Addr) (u0 : Int32) (u1 : Int32) (w0 : Int32) (w1 : Int32) (k_a0 : ClassId) (k_a1 : ClassId) (h0 : Heap) (n0 : Nat) (Z0 : n0 ≤ h0.size) (V_a0 : Arv Z h0 a0 k_a0 .byte (2 : Int32) [(.int u0), (.int u1)] (.int (0 : Int32))) (V_a1 : Arv Z h0 a1 k_a1 .byte (2 : Int32) [(.int w0), (.int w1)] (.int (0 : Int32))) :
    MetFree l (⟨"com/example/rollcall/rollcall/bench/Milenage", "xor", "([B[B)[B"⟩ : MethodName) (head1 (Jvm.Cond.code (⟨"com/example/rollcall/rollcall/bench/Milenage", "xor", "([B[B)[B"⟩ : MethodName) prog_13_method_8_code 4 (some (.array .byte)) :: ws) rr3_2_2) (fun a U => a = #[(.ref a0), (.ref a1)] ∧ Z.Warmed39 U.vm ∧ U.heap = h0) (fun _ _ _ _ _ => True) (fun _ U o U' => ∃ v L, o = .returned v ∧ Q3_2_2 Z a0 a1 u0 u1 w0 w1 k_a0 k_a1 h0 n0 v U'.heap L ∧ FrameEnd U o U' L rr3_2_2.cells rr3_2_2.slots) := by
  refine MetFree.of_bodySF (plainFor_of_name pn_2) hisR ?_
  intro p e s m args below meth c s₁ Bd hml0 hP hK
  obtain ⟨rfl, hZ, hh⟩ := hP
  have hx := Bd.exec
  have hby := Bd.bytes
  have hml : c.maxLocals = 4 := hml0
  have hown : s.vm.findClass "com/example/rollcall/rollcall/bench/Milenage" = some m.cls := findClass_of_methodNamed Bd.named
  have hnm := (name_of_methodNamed Bd.named Bd.method).1
  have X0 : Stand p l e rr3_2_2 s m #[(.ref a0), (.ref a1)] below meth c s₁ [] 0 0 := Stand.of_body Bd
  have e0 : s₁.heap = h0 := by rw [← hh, Bd.state]; rfl
  have N0 := Fr.nil n0
  have K0 := Keep.refl h0 []
  have pre0 : ∀ t, Steps p.tables e below (s₁.setTop (mkF m 0 #[.val (.ref a0), .val (.ref a1), .unset, .unset] [])) t → Steps p.tables e below (s₁.setTop (entryFrame m #[(.ref a0), (.ref a1)] 4)) t := fun t k => castTop (ef3_2_2 m a0 a1) k
  obtain ⟨cl164, Ar164, q164, S164, M164, H164, G164⟩ := id V_a0
  obtain ⟨T165, h165, k165, X165, e165, E165, A165, st165⟩ := newP X0 hx hZ (hw _ (List.mem_of_getElem? (i := 4) rfl)) e0 (g := (mkF m 2 #[.val (.ref a0), .val (.ref a1), .unset, .unset] [(.int (2 : Int32))])) rfl (hb hby d3_2) rfl (by decide) (cap := 2) (by decide) (by decide) (by decide) (by decide)
  obtain ⟨b165, gg165⟩ : ∃ z, z = h0.size := ⟨_, rfl⟩
  rw [← gg165] at A165 st165
  have f166 := V_a0.ext E165
  have f167 := V_a1.ext E165
  have ne168 : a0 ≠ b165 := Nat.ne_of_lt (Nat.lt_of_lt_of_le V_a0.lt (Nat.le_of_eq gg165.symm))
  have ne169 : a1 ≠ b165 := Nat.ne_of_lt (Nat.lt_of_lt_of_le V_a1.lt (Nat.le_of_eq gg165.symm))
  have g_b165 : n0 ≤ b165 := Nat.le_trans Z0 (Nat.le_of_eq gg165.symm)
  have sz_b165 : h0.size ≤ b165 := Nat.le_trans K0.1 (Nat.le_of_eq gg165.symm)
  have K170 := K0.ext E165
  have Z171 := Nat.le_trans Z0 E165.1
  have V165 : Arv Z h165 b165 k165 .byte (2 : Int32) [(.int (0 : Int32)), (.int (0 : Int32))] (.int (0 : Int32)) := (Arv.new A165 (by decide)).pad (pad_rep [] (.int (0 : Int32)) 2)
  obtain ⟨cl172, Ar172, q172, S172, M172, H172, G172⟩ := id f166
  obtain ⟨cl173, Ar173, q173, S173, M173, H173, G173⟩ := id f166
  have hin174 : ¬ ((0 : Int32) < 0 ∨ cl173.slots.size ≤ ((0 : Int32)).toNatClampNeg) := inb_of S173 ⟨by decide, by decide⟩
  have hat175 : cl173.slots[((0 : Int32)).toNatClampNeg]? = some (.int u0) := H173.at hin174 rfl
  obtain ⟨cl176, Ar176, q176, S176, M176, H176, G176⟩ := id f167
  have hin177 : ¬ ((0 : Int32) < 0 ∨ cl176.slots.size ≤ ((0 : Int32)).toNatClampNeg) := inb_of S176 ⟨by decide, by decide⟩
  have hat178 : cl176.slots[((0 : Int32)).toNatClampNeg]? = some (.int w0) := H176.at hin177 rfl
  obtain ⟨cl179, Ar179, q179, S179, M179, H179, G179⟩ := id V165
  have hin180 : ¬ ((0 : Int32) < 0 ∨ cl179.slots.size ≤ ((0 : Int32)).toNatClampNeg) := inb_of S179 ⟨by decide, by decide⟩
  obtain ⟨T181, h181, X181, e181, W181, st181⟩ := stB X165 hx hZ e165 Ar179 (j := (0 : Int32)) hin180 (g := (mkF m 23 #[.val (.ref a0), .val (.ref a1), .val (.ref b165), .val (.int (0 : Int32))] [(.int ((u0 ^^^ w0).toInt8.toInt32)), (.int (0 : Int32)), (.ref b165)])) rfl rfl (hb hby d3_23)
  have V181 : Arv Z h181 b165 k165 .byte (2 : Int32) [(.int (nar .byte ((u0 ^^^ w0).toInt8.toInt32))), (.int (0 : Int32))] (.int (0 : Int32)) := Arv.set Ar179 q179 S179 M179 H179 G179 (fits_nar_byte _) W181 0 rfl (Nat.le_of_ble_eq_true rfl)
  have f182 := f166.other W181 ne168
  have f183 := f167.other W181 ne169
  have K185 := K170.wr W181 (Or.inr sz_b165)
  have Z186 := Nat.le_trans Z171 (Keep.of_wr W181).1
  have N187 := Fr.snoc X181 N0 g_b165
  obtain ⟨cl188, Ar188, q188, S188, M188, H188, G188⟩ := id f182
  obtain ⟨cl189, Ar189, q189, S189, M189, H189, G189⟩ := id f182
  have hin190 : ¬ ((1 : Int32) < 0 ∨ cl189.slots.size ≤ ((1 : Int32)).toNatClampNeg) := inb_of S189 ⟨by decide, by decide⟩
  have hat191 : cl189.slots[((1 : Int32)).toNatClampNeg]? = some (.int u1) := H189.at hin190 rfl
  obtain ⟨cl192, Ar192, q192, S192, M192, H192, G192⟩ := id f183
  have hin193 : ¬ ((1 : Int32) < 0 ∨ cl192.slots.size ≤ ((1 : Int32)).toNatClampNeg) := inb_of S192 ⟨by decide, by decide⟩
  have hat194 : cl192.slots[((1 : Int32)).toNatClampNeg]? = some (.int w1) := H192.at hin193 rfl
  obtain ⟨cl195, Ar195, q195, S195, M195, H195, G195⟩ := id V181
  have hin196 : ¬ ((1 : Int32) < 0 ∨ cl195.slots.size ≤ ((1 : Int32)).toNatClampNeg) := inb_of S195 ⟨by decide, by decide⟩
  obtain ⟨T197, h197, X197, e197, W197, st197⟩ := stB X181 hx hZ e181 Ar195 (j := (1 : Int32)) hin196 (g := (mkF m 23 #[.val (.ref a0), .val (.ref a1), .val (.ref b165), .val (.int (1 : Int32))] [(.int ((u1 ^^^ w1).toInt8.toInt32)), (.int (1 : Int32)), (.ref b165)])) rfl rfl (hb hby d3_23)
  have V197 : Arv Z h197 b165 k165 .byte (2 : Int32) [(.int (nar .byte ((u0 ^^^ w0).toInt8.toInt32))), (.int (nar .byte ((u1 ^^^ w1).toInt8.toInt32)))] (.int (0 : Int32)) := Arv.set Ar195 q195 S195 M195 H195 G195 (fits_nar_byte _) W197 1 rfl (Nat.le_of_ble_eq_true rfl)
  have f198 := f182.other W197 ne168
  have f199 := f183.other W197 ne169
  have K201 := K185.wr W197 (Or.inr sz_b165)
  have Z202 := Nat.le_trans Z186 (Keep.of_wr W197).1
  have N203 := Fr.snoc X197 N187 g_b165
  obtain ⟨cl204, Ar204, q204, S204, M204, H204, G204⟩ := id f198
  obtain ⟨fs, hr, hrun, hended, hW, hsame⟩ := X197.leave (v := some (.ref b165)) (fun h => by rw [Bd.returns] at h; cases h)
  refine ⟨_, _, pre0 _ ?_, hrun, hended, _, _, rfl, ?_, ⟨_, rfl⟩, hW, hsame.mono (by decide) (by decide)⟩
  · skip
    show Steps p.tables e below (s₁.setTop (mkF m 0 #[.val (.ref a0), .val (.ref a1), .unset, .unset] [])) _
    refine XS.aloadN X0.here hx rfl (hb hby d3_0) rfl rfl ?_
    show Steps p.tables e below (s₁.setTop (mkF m 1 #[.val (.ref a0), .val (.ref a1), .unset, .unset] [(.ref a0)])) _
    refine X0.arraylength hx (by rw [e0]; exact Ar164.1) (State.isArrayOf_alike hZ.alike Ar164.2.1) (g := (mkF m 1 #[.val (.ref a0), .val (.ref a1), .unset, .unset] [(.ref a0)])) rfl rfl (hb hby d3_1) _ ?_
    rw [len_of S164 M164]
    show Steps p.tables e below (s₁.setTop (mkF m 2 #[.val (.ref a0), .val (.ref a1), .unset, .unset] [(.int (2 : Int32))])) _
    refine st165 _ ?_
    show Steps p.tables e below (T165.setTop (mkF m 4 #[.val (.ref a0), .val (.ref a1), .unset, .unset] [(.ref b165)])) _
    refine XS.astoreN X165.here hx rfl (hb hby d3_4) rfl rfl (l' := #[.val (.ref a0), .val (.ref a1), .val (.ref b165), .unset]) rfl ?_
    show Steps p.tables e below (T165.setTop (mkF m 5 #[.val (.ref a0), .val (.ref a1), .val (.ref b165), .unset] [])) _
    refine XS.iconst X165.here hx rfl (hb hby d3_5) ?_
    show Steps p.tables e below (T165.setTop (mkF m 6 #[.val (.ref a0), .val (.ref a1), .val (.ref b165), .unset] [(.int (0 : Int32))])) _
    refine XS.istoreN X165.here hx rfl (hb hby d3_6) rfl (l' := #[.val (.ref a0), .val (.ref a1), .val (.ref b165), .val (.int (0 : Int32))]) rfl ?_
    show Steps p.tables e below (T165.setTop (mkF m 7 #[.val (.ref a0), .val (.ref a1), .val (.ref b165), .val (.int (0 : Int32))] [])) _
    refine XS.iloadN X165.here hx rfl (hb hby d3_7) rfl ?_
    show Steps p.tables e below (T165.setTop (mkF m 8 #[.val (.ref a0), .val (.ref a1), .val (.ref b165), .val (.int (0 : Int32))] [(.int (0 : Int32))])) _
    refine XS.aloadN X165.here hx rfl (hb hby d3_8) rfl rfl ?_
    show Steps p.tables e below (T165.setTop (mkF m 9 #[.val (.ref a0), .val (.ref a1), .val (.ref b165), .val (.int (0 : Int32))] [(.ref a0), (.int (0 : Int32))])) _
    refine X165.arraylength hx (by rw [e165]; exact Ar172.1) (State.isArrayOf_alike hZ.alike Ar172.2.1) (g := (mkF m 9 #[.val (.ref a0), .val (.ref a1), .val (.ref b165), .val (.int (0 : Int32))] [(.ref a0), (.int (0 : Int32))])) rfl rfl (hb hby d3_9) _ ?_
    rw [len_of S172 M172]
    show Steps p.tables e below (T165.setTop (mkF m 10 #[.val (.ref a0), .val (.ref a1), .val (.ref b165), .val (.int (0 : Int32))] [(.int (2 : Int32)), (.int (0 : Int32))])) _
    refine XS.icmpNo X165.here hx rfl (hb hby d3_10) rfl (tlt (by decide : (0 : Int32) < (2 : Int32))).2.1 ?_
    show Steps p.tables e below (T165.setTop (mkF m 13 #[.val (.ref a0), .val (.ref a1), .val (.ref b165), .val (.int (0 : Int32))] [])) _
    refine XS.aloadN X165.here hx rfl (hb hby d3_13) rfl rfl ?_
    show Steps p.tables e below (T165.setTop (mkF m 14 #[.val (.ref a0), .val (.ref a1), .val (.ref b165), .val (.int (0 : Int32))] [(.ref b165)])) _
    refine XS.iloadN X165.here hx rfl (hb hby d3_14) rfl ?_
    show Steps p.tables e below (T165.setTop (mkF m 15 #[.val (.ref a0), .val (.ref a1), .val (.ref b165), .val (.int (0 : Int32))] [(.int (0 : Int32)), (.ref b165)])) _
    refine XS.aloadN X165.here hx rfl (hb hby d3_15) rfl rfl ?_
    show Steps p.tables e below (T165.setTop (mkF m 16 #[.val (.ref a0), .val (.ref a1), .val (.ref b165), .val (.int (0 : Int32))] [(.ref a0), (.int (0 : Int32)), (.ref b165)])) _
    refine XS.iloadN X165.here hx rfl (hb hby d3_16) rfl ?_
    show Steps p.tables e below (T165.setTop (mkF m 17 #[.val (.ref a0), .val (.ref a1), .val (.ref b165), .val (.int (0 : Int32))] [(.int (0 : Int32)), (.ref a0), (.int (0 : Int32)), (.ref b165)])) _
    refine X165.baloadBytes hx (j := (0 : Int32)) (v := (.int u0)) (by rw [e165]; exact Ar173.1) (State.isArrayOf_alike hZ.alike Ar173.2.1) Ar173.2.2 hin174 hat175 (g := (mkF m 17 #[.val (.ref a0), .val (.ref a1), .val (.ref b165), .val (.int (0 : Int32))] [(.int (0 : Int32)), (.ref a0), (.int (0 : Int32)), (.ref b165)])) rfl rfl (hb hby d3_17) _ ?_
    show Steps p.tables e below (T165.setTop (mkF m 18 #[.val (.ref a0), .val (.ref a1), .val (.ref b165), .val (.int (0 : Int32))] [(.int u0), (.int (0 : Int32)), (.ref b165)])) _
    refine XS.aloadN X165.here hx rfl (hb hby d3_18) rfl rfl ?_
    show Steps p.tables e below (T165.setTop (mkF m 19 #[.val (.ref a0), .val (.ref a1), .val (.ref b165), .val (.int (0 : Int32))] [(.ref a1), (.int u0), (.int (0 : Int32)), (.ref b165)])) _
    refine XS.iloadN X165.here hx rfl (hb hby d3_19) rfl ?_
    show Steps p.tables e below (T165.setTop (mkF m 20 #[.val (.ref a0), .val (.ref a1), .val (.ref b165), .val (.int (0 : Int32))] [(.int (0 : Int32)), (.ref a1), (.int u0), (.int (0 : Int32)), (.ref b165)])) _
    refine X165.baloadBytes hx (j := (0 : Int32)) (v := (.int w0)) (by rw [e165]; exact Ar176.1) (State.isArrayOf_alike hZ.alike Ar176.2.1) Ar176.2.2 hin177 hat178 (g := (mkF m 20 #[.val (.ref a0), .val (.ref a1), .val (.ref b165), .val (.int (0 : Int32))] [(.int (0 : Int32)), (.ref a1), (.int u0), (.int (0 : Int32)), (.ref b165)])) rfl rfl (hb hby d3_20) _ ?_
    show Steps p.tables e below (T165.setTop (mkF m 21 #[.val (.ref a0), .val (.ref a1), .val (.ref b165), .val (.int (0 : Int32))] [(.int w0), (.int u0), (.int (0 : Int32)), (.ref b165)])) _
    refine XS.ixor X165.here hx rfl (hb hby d3_21) rfl ?_
    show Steps p.tables e below (T165.setTop (mkF m 22 #[.val (.ref a0), .val (.ref a1), .val (.ref b165), .val (.int (0 : Int32))] [(.int (u0 ^^^ w0)), (.int (0 : Int32)), (.ref b165)])) _
    refine XS.i2b X165.here hx rfl (hb hby d3_22) rfl ?_
    show Steps p.tables e below (T165.setTop (mkF m 23 #[.val (.ref a0), .val (.ref a1), .val (.ref b165), .val (.int (0 : Int32))] [(.int ((u0 ^^^ w0).toInt8.toInt32)), (.int (0 : Int32)), (.ref b165)])) _
    refine st181 _ ?_
    show Steps p.tables e below (T181.setTop (mkF m 24 #[.val (.ref a0), .val (.ref a1), .val (.ref b165), .val (.int (0 : Int32))] [])) _
    refine XS.iinc X181.here hx rfl (hb hby d3_24) rfl (l' := #[.val (.ref a0), .val (.ref a1), .val (.ref b165), .val (.int (1 : Int32))]) rfl ?_
    show Steps p.tables e below (T181.setTop (mkF m 27 #[.val (.ref a0), .val (.ref a1), .val (.ref b165), .val (.int (1 : Int32))] [])) _
    refine XS.goto X181.here hx rfl (pc0 := 27) (pc' := 7) rfl (hb hby d3_27) (by decide) (by decide) ?_
    show Steps p.tables e below (T181.setTop (mkF m 7 #[.val (.ref a0), .val (.ref a1), .val (.ref b165), .val (.int (1 : Int32))] [])) _
    refine XS.iloadN X181.here hx rfl (hb hby d3_7) rfl ?_
    show Steps p.tables e below (T181.setTop (mkF m 8 #[.val (.ref a0), .val (.ref a1), .val (.ref b165), .val (.int (1 : Int32))] [(.int (1 : Int32))])) _
    refine XS.aloadN X181.here hx rfl (hb hby d3_8) rfl rfl ?_
    show Steps p.tables e below (T181.setTop (mkF m 9 #[.val (.ref a0), .val (.ref a1), .val (.ref b165), .val (.int (1 : Int32))] [(.ref a0), (.int (1 : Int32))])) _
    refine X181.arraylength hx (by rw [e181]; exact Ar188.1) (State.isArrayOf_alike hZ.alike Ar188.2.1) (g := (mkF m 9 #[.val (.ref a0), .val (.ref a1), .val (.ref b165), .val (.int (1 : Int32))] [(.ref a0), (.int (1 : Int32))])) rfl rfl (hb hby d3_9) _ ?_
    rw [len_of S188 M188]
    show Steps p.tables e below (T181.setTop (mkF m 10 #[.val (.ref a0), .val (.ref a1), .val (.ref b165), .val (.int (1 : Int32))] [(.int (2 : Int32)), (.int (1 : Int32))])) _
    refine XS.icmpNo X181.here hx rfl (hb hby d3_10) rfl (tlt (by decide : (1 : Int32) < (2 : Int32))).2.1 ?_
    show Steps p.tables e below (T181.setTop (mkF m 13 #[.val (.ref a0), .val (.ref a1), .val (.ref b165), .val (.int (1 : Int32))] [])) _
    refine XS.aloadN X181.here hx rfl (hb hby d3_13) rfl rfl ?_
    show Steps p.tables e below (T181.setTop (mkF m 14 #[.val (.ref a0), .val (.ref a1), .val (.ref b165), .val (.int (1 : Int32))] [(.ref b165)])) _
    refine XS.iloadN X181.here hx rfl (hb hby d3_14) rfl ?_
    show Steps p.tables e below (T181.setTop (mkF m 15 #[.val (.ref a0), .val (.ref a1), .val (.ref b165), .val (.int (1 : Int32))] [(.int (1 : Int32)), (.ref b165)])) _
    refine XS.aloadN X181.here hx rfl (hb hby d3_15) rfl rfl ?_
    show Steps p.tables e below (T181.setTop (mkF m 16 #[.val (.ref a0), .val (.ref a1), .val (.ref b165), .val (.int (1 : Int32))] [(.ref a0), (.int (1 : Int32)), (.ref b165)])) _
    refine XS.iloadN X181.here hx rfl (hb hby d3_16) rfl ?_
    show Steps p.tables e below (T181.setTop (mkF m 17 #[.val (.ref a0), .val (.ref a1), .val (.ref b165), .val (.int (1 : Int32))] [(.int (1 : Int32)), (.ref a0), (.int (1 : Int32)), (.ref b165)])) _
    refine X181.baloadBytes hx (j := (1 : Int32)) (v := (.int u1)) (by rw [e181]; exact Ar189.1) (State.isArrayOf_alike hZ.alike Ar189.2.1) Ar189.2.2 hin190 hat191 (g := (mkF m 17 #[.val (.ref a0), .val (.ref a1), .val (.ref b165), .val (.int (1 : Int32))] [(.int (1 : Int32)), (.ref a0), (.int (1 : Int32)), (.ref b165)])) rfl rfl (hb hby d3_17) _ ?_
    show Steps p.tables e below (T181.setTop (mkF m 18 #[.val (.ref a0), .val (.ref a1), .val (.ref b165), .val (.int (1 : Int32))] [(.int u1), (.int (1 : Int32)), (.ref b165)])) _
    refine XS.aloadN X181.here hx rfl (hb hby d3_18) rfl rfl ?_
    show Steps p.tables e below (T181.setTop (mkF m 19 #[.val (.ref a0), .val (.ref a1), .val (.ref b165), .val (.int (1 : Int32))] [(.ref a1), (.int u1), (.int (1 : Int32)), (.ref b165)])) _
    refine XS.iloadN X181.here hx rfl (hb hby d3_19) rfl ?_
    show Steps p.tables e below (T181.setTop (mkF m 20 #[.val (.ref a0), .val (.ref a1), .val (.ref b165), .val (.int (1 : Int32))] [(.int (1 : Int32)), (.ref a1), (.int u1), (.int (1 : Int32)), (.ref b165)])) _
    refine X181.baloadBytes hx (j := (1 : Int32)) (v := (.int w1)) (by rw [e181]; exact Ar192.1) (State.isArrayOf_alike hZ.alike Ar192.2.1) Ar192.2.2 hin193 hat194 (g := (mkF m 20 #[.val (.ref a0), .val (.ref a1), .val (.ref b165), .val (.int (1 : Int32))] [(.int (1 : Int32)), (.ref a1), (.int u1), (.int (1 : Int32)), (.ref b165)])) rfl rfl (hb hby d3_20) _ ?_
    show Steps p.tables e below (T181.setTop (mkF m 21 #[.val (.ref a0), .val (.ref a1), .val (.ref b165), .val (.int (1 : Int32))] [(.int w1), (.int u1), (.int (1 : Int32)), (.ref b165)])) _
    refine XS.ixor X181.here hx rfl (hb hby d3_21) rfl ?_
    show Steps p.tables e below (T181.setTop (mkF m 22 #[.val (.ref a0), .val (.ref a1), .val (.ref b165), .val (.int (1 : Int32))] [(.int (u1 ^^^ w1)), (.int (1 : Int32)), (.ref b165)])) _
    refine XS.i2b X181.here hx rfl (hb hby d3_22) rfl ?_
    show Steps p.tables e below (T181.setTop (mkF m 23 #[.val (.ref a0), .val (.ref a1), .val (.ref b165), .val (.int (1 : Int32))] [(.int ((u1 ^^^ w1).toInt8.toInt32)), (.int (1 : Int32)), (.ref b165)])) _
    refine st197 _ ?_
    show Steps p.tables e below (T197.setTop (mkF m 24 #[.val (.ref a0), .val (.ref a1), .val (.ref b165), .val (.int (1 : Int32))] [])) _
    refine XS.iinc X197.here hx rfl (hb hby d3_24) rfl (l' := #[.val (.ref a0), .val (.ref a1), .val (.ref b165), .val (.int (2 : Int32))]) rfl ?_
    show Steps p.tables e below (T197.setTop (mkF m 27 #[.val (.ref a0), .val (.ref a1), .val (.ref b165), .val (.int (2 : Int32))] [])) _
    refine XS.goto X197.here hx rfl (pc0 := 27) (pc' := 7) rfl (hb hby d3_27) (by decide) (by decide) ?_
    show Steps p.tables e below (T197.setTop (mkF m 7 #[.val (.ref a0), .val (.ref a1), .val (.ref b165), .val (.int (2 : Int32))] [])) _
    refine XS.iloadN X197.here hx rfl (hb hby d3_7) rfl ?_
    show Steps p.tables e below (T197.setTop (mkF m 8 #[.val (.ref a0), .val (.ref a1), .val (.ref b165), .val (.int (2 : Int32))] [(.int (2 : Int32))])) _
    refine XS.aloadN X197.here hx rfl (hb hby d3_8) rfl rfl ?_
    show Steps p.tables e below (T197.setTop (mkF m 9 #[.val (.ref a0), .val (.ref a1), .val (.ref b165), .val (.int (2 : Int32))] [(.ref a0), (.int (2 : Int32))])) _
    refine X197.arraylength hx (by rw [e197]; exact Ar204.1) (State.isArrayOf_alike hZ.alike Ar204.2.1) (g := (mkF m 9 #[.val (.ref a0), .val (.ref a1), .val (.ref b165), .val (.int (2 : Int32))] [(.ref a0), (.int (2 : Int32))])) rfl rfl (hb hby d3_9) _ ?_
    rw [len_of S204 M204]
    show Steps p.tables e below (T197.setTop (mkF m 10 #[.val (.ref a0), .val (.ref a1), .val (.ref b165), .val (.int (2 : Int32))] [(.int (2 : Int32)), (.int (2 : Int32))])) _
    refine XS.icmpYes X197.here hx rfl (pc0 := 10) (pc' := 30) rfl (hb hby d3_10) rfl (flt (by decide : ¬ ((2 : Int32) < (2 : Int32)))).2.1 (by decide) (by decide) ?_
    show Steps p.tables e below (T197.setTop (mkF m 30 #[.val (.ref a0), .val (.ref a1), .val (.ref b165), .val (.int (2 : Int32))] [])) _
    refine XS.aloadN X197.here hx rfl (hb hby d3_30) rfl rfl ?_
    show Steps p.tables e below (T197.setTop (mkF m 31 #[.val (.ref a0), .val (.ref a1), .val (.ref b165), .val (.int (2 : Int32))] [(.ref b165)])) _
    exact retOut X197 hx Bd.returns rfl (Or.inr (Or.inr (Or.inr (Or.inr ⟨rfl, rfl, rfl⟩)))) (hb hby d3_31) hr
  · show Q3_2_2 Z a0 a1 u0 u1 w0 w1 k_a0 k_a1 h0 n0 _ T197.heap _
    rw [e197]
    exact ⟨b165, k165, rfl, N203, K201, g_b165, sz_b165, V197⟩
theorem ef3_2_3 (m : MethodId) (x0 : Addr) (x1 : Addr) : entryFrame m #[(.ref x0), (.ref x1)] 4 = mkF m 0 #[.val (.ref x0), .val (.ref x1), .unset, .unset] [] := by first | (simp [entryFrame, mkF, argsToLocals, Value.category]; done) | rfl
abbrev rr3_2_3 : Room := { frames := 0, cells := 1, slots := 2, locals := 0 }
def Q3_2_3 (Z : State) (a0 : Addr) (a1 : Addr) (u0 : Int32) (u1 : Int32) (w0 : Int32) (w1 : Int32) (w2 : Int32) (k_a0 : ClassId) (k_a1 : ClassId) (h0 : Heap) (n0 : Nat) (v : Option Value) (h : Heap) (L : List Loc) : Prop := ∃ (x0 : Addr) (y0 : ClassId), v = some (.ref x0) ∧ Fr n0 L ∧ Keep h0 h [] ∧ n0 ≤ x0 ∧ h0.size ≤ x0 ∧ Arv Z h x0 y0 .byte (2 : Int32) [(.int (nar .byte ((u0 ^^^ w0).toInt8.toInt32))), (.int (nar .byte ((u1 ^^^ w1).toInt8.toInt32)))] (.int (0 : Int32))
set_option maxRecDepth 65536 in
set_option maxHeartbeats 40000000 in
theorem rm3_2_3 (l : Launch) (Z : State) (aw : Array Value) (hw : ∀ d ∈ tables_1, d.before aw Z = true) (ws : List Jvm.Cond) (a0 : Addr) (a1 : Addr) (u0 : Int32) (u1 : Int32) (w0 : Int32) (w1 : Int32) (w2 : Int32) (k_a0 : ClassId) (k_a1 : ClassId) (h0 : Heap) (n0 : Nat) (Z0 : n0 ≤ h0.size) (V_a0 : Arv Z h0 a0 k_a0 .byte (2 : Int32) [(.int u0), (.int u1)] (.int (0 : Int32))) (V_a1 : Arv Z h0 a1 k_a1 .byte (3 : Int32) [(.int w0), (.int w1), (.int w2)] (.int (0 : Int32))) :
    MetFree l (⟨"com/example/rollcall/rollcall/bench/Milenage", "xor", "([B[B)[B"⟩ : MethodName) (head1 (Jvm.Cond.code (⟨"com/example/rollcall/rollcall/bench/Milenage", "xor", "([B[B)[B"⟩ : MethodName) prog_13_method_8_code 4 (some (.array .byte)) :: ws) rr3_2_3) (fun a U => a = #[(.ref a0), (.ref a1)] ∧ Z.Warmed39 U.vm ∧ U.heap = h0) (fun _ _ _ _ _ => True) (fun _ U o U' => ∃ v L, o = .returned v ∧ Q3_2_3 Z a0 a1 u0 u1 w0 w1 w2 k_a0 k_a1 h0 n0 v U'.heap L ∧ FrameEnd U o U' L rr3_2_3.cells rr3_2_3.slots) := by
  refine MetFree.of_bodySF (plainFor_of_name pn_2) hisR ?_
  intro p e s m args below meth c s₁ Bd hml0 hP hK
  obtain ⟨rfl, hZ, hh⟩ := hP
  have hx := Bd.exec
  have hby := Bd.bytes
  have hml : c.maxLocals = 4 := hml0
  have hown : s.vm.findClass "com/example/rollcall/rollcall/bench/Milenage" = some m.cls := findClass_of_methodNamed Bd.named
  have hnm := (name_of_methodNamed Bd.named Bd.method).1
  have X0 : Stand p l e rr3_2_3 s m #[(.ref a0), (.ref a1)] below meth c s₁ [] 0 0 := Stand.of_body Bd
  have e0 : s₁.heap = h0 := by rw [← hh, Bd.state]; rfl
  have N0 := Fr.nil n0
  have K0 := Keep.refl h0 []
  have pre0 : ∀ t, Steps p.tables e below (s₁.setTop (mkF m 0 #[.val (.ref a0), .val (.ref a1), .unset, .unset] [])) t → Steps p.tables e below (s₁.setTop (entryFrame m #[(.ref a0), (.ref a1)] 4)) t := fun t k => castTop (ef3_2_3 m a0 a1) k
  obtain ⟨cl205, Ar205, q205, S205, M205, H205, G205⟩ := id V_a0
  obtain ⟨T206, h206, k206, X206, e206, E206, A206, st206⟩ := newP X0 hx hZ (hw _ (List.mem_of_getElem? (i := 4) rfl)) e0 (g := (mkF m 2 #[.val (.ref a0), .val (.ref a1), .unset, .unset] [(.int (2 : Int32))])) rfl (hb hby d3_2) rfl (by decide) (cap := 2) (by decide) (by decide) (by decide) (by decide)
  obtain ⟨b206, gg206⟩ : ∃ z, z = h0.size := ⟨_, rfl⟩
  rw [← gg206] at A206 st206
  have f207 := V_a0.ext E206
  have f208 := V_a1.ext E206
  have ne209 : a0 ≠ b206 := Nat.ne_of_lt (Nat.lt_of_lt_of_le V_a0.lt (Nat.le_of_eq gg206.symm))
  have ne210 : a1 ≠ b206 := Nat.ne_of_lt (Nat.lt_of_lt_of_le V_a1.lt (Nat.le_of_eq gg206.symm))
  have g_b206 : n0 ≤ b206 := Nat.le_trans Z0 (Nat.le_of_eq gg206.symm)
  have sz_b206 : h0.size ≤ b206 := Nat.le_trans K0.1 (Nat.le_of_eq gg206.symm)
  have K211 := K0.ext E206
  have Z212 := Nat.le_trans Z0 E206.1
  have V206 : Arv Z h206 b206 k206 .byte (2 : Int32) [(.int (0 : Int32)), (.int (0 : Int32))] (.int (0 : Int32)) := (Arv.new A206 (by decide)).pad (pad_rep [] (.int (0 : Int32)) 2)
  obtain ⟨cl213, Ar213, q213, S213, M213, H213, G213⟩ := id f207
  obtain ⟨cl214, Ar214, q214, S214, M214, H214, G214⟩ := id f207
  have hin215 : ¬ ((0 : Int32) < 0 ∨ cl214.slots.size ≤ ((0 : Int32)).toNatClampNeg) := inb_of S214 ⟨by decide, by decide⟩
  have hat216 : cl214.slots[((0 : Int32)).toNatClampNeg]? = some (.int u0) := H214.at hin215 rfl
  obtain ⟨cl217, Ar217, q217, S217, M217, H217, G217⟩ := id f208
  have hin218 : ¬ ((0 : Int32) < 0 ∨ cl217.slots.size ≤ ((0 : Int32)).toNatClampNeg) := inb_of S217 ⟨by decide, by decide⟩
  have hat219 : cl217.slots[((0 : Int32)).toNatClampNeg]? = some (.int w0) := H217.at hin218 rfl
  obtain ⟨cl220, Ar220, q220, S220, M220, H220, G220⟩ := id V206
  have hin221 : ¬ ((0 : Int32) < 0 ∨ cl220.slots.size ≤ ((0 : Int32)).toNatClampNeg) := inb_of S220 ⟨by decide, by decide⟩
  obtain ⟨T222, h222, X222, e222, W222, st222⟩ := stB X206 hx hZ e206 Ar220 (j := (0 : Int32)) hin221 (g := (mkF m 23 #[.val (.ref a0), .val (.ref a1), .val (.ref b206), .val (.int (0 : Int32))] [(.int ((u0 ^^^ w0).toInt8.toInt32)), (.int (0 : Int32)), (.ref b206)])) rfl rfl (hb hby d3_23)
  have V222 : Arv Z h222 b206 k206 .byte (2 : Int32) [(.int (nar .byte ((u0 ^^^ w0).toInt8.toInt32))), (.int (0 : Int32))] (.int (0 : Int32)) := Arv.set Ar220 q220 S220 M220 H220 G220 (fits_nar_byte _) W222 0 rfl (Nat.le_of_ble_eq_true rfl)
  have f223 := f207.other W222 ne209
  have f224 := f208.other W222 ne210
  have K226 := K211.wr W222 (Or.inr sz_b206)
  have Z227 := Nat.le_trans Z212 (Keep.of_wr W222).1
  have N228 := Fr.snoc X222 N0 g_b206
  obtain ⟨cl229, Ar229, q229, S229, M229, H229, G229⟩ := id f223
  obtain ⟨cl230, Ar230, q230, S230, M230, H230, G230⟩ := id f223
  have hin231 : ¬ ((1 : Int32) < 0 ∨ cl230.slots.size ≤ ((1 : Int32)).toNatClampNeg) := inb_of S230 ⟨by decide, by decide⟩
  have hat232 : cl230.slots[((1 : Int32)).toNatClampNeg]? = some (.int u1) := H230.at hin231 rfl
  obtain ⟨cl233, Ar233, q233, S233, M233, H233, G233⟩ := id f224
  have hin234 : ¬ ((1 : Int32) < 0 ∨ cl233.slots.size ≤ ((1 : Int32)).toNatClampNeg) := inb_of S233 ⟨by decide, by decide⟩
  have hat235 : cl233.slots[((1 : Int32)).toNatClampNeg]? = some (.int w1) := H233.at hin234 rfl
  obtain ⟨cl236, Ar236, q236, S236, M236, H236, G236⟩ := id V222
  have hin237 : ¬ ((1 : Int32) < 0 ∨ cl236.slots.size ≤ ((1 : Int32)).toNatClampNeg) := inb_of S236 ⟨by decide, by decide⟩
  obtain ⟨T238, h238, X238, e238, W238, st238⟩ := stB X222 hx hZ e222 Ar236 (j := (1 : Int32)) hin237 (g := (mkF m 23 #[.val (.ref a0), .val (.ref a1), .val (.ref b206), .val (.int (1 : Int32))] [(.int ((u1 ^^^ w1).toInt8.toInt32)), (.int (1 : Int32)), (.ref b206)])) rfl rfl (hb hby d3_23)
  have V238 : Arv Z h238 b206 k206 .byte (2 : Int32) [(.int (nar .byte ((u0 ^^^ w0).toInt8.toInt32))), (.int (nar .byte ((u1 ^^^ w1).toInt8.toInt32)))] (.int (0 : Int32)) := Arv.set Ar236 q236 S236 M236 H236 G236 (fits_nar_byte _) W238 1 rfl (Nat.le_of_ble_eq_true rfl)
  have f239 := f223.other W238 ne209
  have f240 := f224.other W238 ne210
  have K242 := K226.wr W238 (Or.inr sz_b206)
  have Z243 := Nat.le_trans Z227 (Keep.of_wr W238).1
  have N244 := Fr.snoc X238 N228 g_b206
  obtain ⟨cl245, Ar245, q245, S245, M245, H245, G245⟩ := id f239
  obtain ⟨fs, hr, hrun, hended, hW, hsame⟩ := X238.leave (v := some (.ref b206)) (fun h => by rw [Bd.returns] at h; cases h)
  refine ⟨_, _, pre0 _ ?_, hrun, hended, _, _, rfl, ?_, ⟨_, rfl⟩, hW, hsame.mono (by decide) (by decide)⟩
  · skip
    show Steps p.tables e below (s₁.setTop (mkF m 0 #[.val (.ref a0), .val (.ref a1), .unset, .unset] [])) _
    refine XS.aloadN X0.here hx rfl (hb hby d3_0) rfl rfl ?_
    show Steps p.tables e below (s₁.setTop (mkF m 1 #[.val (.ref a0), .val (.ref a1), .unset, .unset] [(.ref a0)])) _
    refine X0.arraylength hx (by rw [e0]; exact Ar205.1) (State.isArrayOf_alike hZ.alike Ar205.2.1) (g := (mkF m 1 #[.val (.ref a0), .val (.ref a1), .unset, .unset] [(.ref a0)])) rfl rfl (hb hby d3_1) _ ?_
    rw [len_of S205 M205]
    show Steps p.tables e below (s₁.setTop (mkF m 2 #[.val (.ref a0), .val (.ref a1), .unset, .unset] [(.int (2 : Int32))])) _
    refine st206 _ ?_
    show Steps p.tables e below (T206.setTop (mkF m 4 #[.val (.ref a0), .val (.ref a1), .unset, .unset] [(.ref b206)])) _
    refine XS.astoreN X206.here hx rfl (hb hby d3_4) rfl rfl (l' := #[.val (.ref a0), .val (.ref a1), .val (.ref b206), .unset]) rfl ?_
    show Steps p.tables e below (T206.setTop (mkF m 5 #[.val (.ref a0), .val (.ref a1), .val (.ref b206), .unset] [])) _
    refine XS.iconst X206.here hx rfl (hb hby d3_5) ?_
    show Steps p.tables e below (T206.setTop (mkF m 6 #[.val (.ref a0), .val (.ref a1), .val (.ref b206), .unset] [(.int (0 : Int32))])) _
    refine XS.istoreN X206.here hx rfl (hb hby d3_6) rfl (l' := #[.val (.ref a0), .val (.ref a1), .val (.ref b206), .val (.int (0 : Int32))]) rfl ?_
    show Steps p.tables e below (T206.setTop (mkF m 7 #[.val (.ref a0), .val (.ref a1), .val (.ref b206), .val (.int (0 : Int32))] [])) _
    refine XS.iloadN X206.here hx rfl (hb hby d3_7) rfl ?_
    show Steps p.tables e below (T206.setTop (mkF m 8 #[.val (.ref a0), .val (.ref a1), .val (.ref b206), .val (.int (0 : Int32))] [(.int (0 : Int32))])) _
    refine XS.aloadN X206.here hx rfl (hb hby d3_8) rfl rfl ?_
    show Steps p.tables e below (T206.setTop (mkF m 9 #[.val (.ref a0), .val (.ref a1), .val (.ref b206), .val (.int (0 : Int32))] [(.ref a0), (.int (0 : Int32))])) _
    refine X206.arraylength hx (by rw [e206]; exact Ar213.1) (State.isArrayOf_alike hZ.alike Ar213.2.1) (g := (mkF m 9 #[.val (.ref a0), .val (.ref a1), .val (.ref b206), .val (.int (0 : Int32))] [(.ref a0), (.int (0 : Int32))])) rfl rfl (hb hby d3_9) _ ?_
    rw [len_of S213 M213]
    show Steps p.tables e below (T206.setTop (mkF m 10 #[.val (.ref a0), .val (.ref a1), .val (.ref b206), .val (.int (0 : Int32))] [(.int (2 : Int32)), (.int (0 : Int32))])) _
    refine XS.icmpNo X206.here hx rfl (hb hby d3_10) rfl (tlt (by decide : (0 : Int32) < (2 : Int32))).2.1 ?_
    show Steps p.tables e below (T206.setTop (mkF m 13 #[.val (.ref a0), .val (.ref a1), .val (.ref b206), .val (.int (0 : Int32))] [])) _
    refine XS.aloadN X206.here hx rfl (hb hby d3_13) rfl rfl ?_
    show Steps p.tables e below (T206.setTop (mkF m 14 #[.val (.ref a0), .val (.ref a1), .val (.ref b206), .val (.int (0 : Int32))] [(.ref b206)])) _
    refine XS.iloadN X206.here hx rfl (hb hby d3_14) rfl ?_
    show Steps p.tables e below (T206.setTop (mkF m 15 #[.val (.ref a0), .val (.ref a1), .val (.ref b206), .val (.int (0 : Int32))] [(.int (0 : Int32)), (.ref b206)])) _
    refine XS.aloadN X206.here hx rfl (hb hby d3_15) rfl rfl ?_
    show Steps p.tables e below (T206.setTop (mkF m 16 #[.val (.ref a0), .val (.ref a1), .val (.ref b206), .val (.int (0 : Int32))] [(.ref a0), (.int (0 : Int32)), (.ref b206)])) _
    refine XS.iloadN X206.here hx rfl (hb hby d3_16) rfl ?_
    show Steps p.tables e below (T206.setTop (mkF m 17 #[.val (.ref a0), .val (.ref a1), .val (.ref b206), .val (.int (0 : Int32))] [(.int (0 : Int32)), (.ref a0), (.int (0 : Int32)), (.ref b206)])) _
    refine X206.baloadBytes hx (j := (0 : Int32)) (v := (.int u0)) (by rw [e206]; exact Ar214.1) (State.isArrayOf_alike hZ.alike Ar214.2.1) Ar214.2.2 hin215 hat216 (g := (mkF m 17 #[.val (.ref a0), .val (.ref a1), .val (.ref b206), .val (.int (0 : Int32))] [(.int (0 : Int32)), (.ref a0), (.int (0 : Int32)), (.ref b206)])) rfl rfl (hb hby d3_17) _ ?_
    show Steps p.tables e below (T206.setTop (mkF m 18 #[.val (.ref a0), .val (.ref a1), .val (.ref b206), .val (.int (0 : Int32))] [(.int u0), (.int (0 : Int32)), (.ref b206)])) _
    refine XS.aloadN X206.here hx rfl (hb hby d3_18) rfl rfl ?_
    show Steps p.tables e below (T206.setTop (mkF m 19 #[.val (.ref a0), .val (.ref a1), .val (.ref b206), .val (.int (0 : Int32))] [(.ref a1), (.int u0), (.int (0 : Int32)), (.ref b206)])) _
    refine XS.iloadN X206.here hx rfl (hb hby d3_19) rfl ?_
    show Steps p.tables e below (T206.setTop (mkF m 20 #[.val (.ref a0), .val (.ref a1), .val (.ref b206), .val (.int (0 : Int32))] [(.int (0 : Int32)), (.ref a1), (.int u0), (.int (0 : Int32)), (.ref b206)])) _
    refine X206.baloadBytes hx (j := (0 : Int32)) (v := (.int w0)) (by rw [e206]; exact Ar217.1) (State.isArrayOf_alike hZ.alike Ar217.2.1) Ar217.2.2 hin218 hat219 (g := (mkF m 20 #[.val (.ref a0), .val (.ref a1), .val (.ref b206), .val (.int (0 : Int32))] [(.int (0 : Int32)), (.ref a1), (.int u0), (.int (0 : Int32)), (.ref b206)])) rfl rfl (hb hby d3_20) _ ?_
    show Steps p.tables e below (T206.setTop (mkF m 21 #[.val (.ref a0), .val (.ref a1), .val (.ref b206), .val (.int (0 : Int32))] [(.int w0), (.int u0), (.int (0 : Int32)), (.ref b206)])) _
    refine XS.ixor X206.here hx rfl (hb hby d3_21) rfl ?_
    show Steps p.tables e below (T206.setTop (mkF m 22 #[.val (.ref a0), .val (.ref a1), .val (.ref b206), .val (.int (0 : Int32))] [(.int (u0 ^^^ w0)), (.int (0 : Int32)), (.ref b206)])) _
    refine XS.i2b X206.here hx rfl (hb hby d3_22) rfl ?_
    show Steps p.tables e below (T206.setTop (mkF m 23 #[.val (.ref a0), .val (.ref a1), .val (.ref b206), .val (.int (0 : Int32))] [(.int ((u0 ^^^ w0).toInt8.toInt32)), (.int (0 : Int32)), (.ref b206)])) _
    refine st222 _ ?_
    show Steps p.tables e below (T222.setTop (mkF m 24 #[.val (.ref a0), .val (.ref a1), .val (.ref b206), .val (.int (0 : Int32))] [])) _
    refine XS.iinc X222.here hx rfl (hb hby d3_24) rfl (l' := #[.val (.ref a0), .val (.ref a1), .val (.ref b206), .val (.int (1 : Int32))]) rfl ?_
    show Steps p.tables e below (T222.setTop (mkF m 27 #[.val (.ref a0), .val (.ref a1), .val (.ref b206), .val (.int (1 : Int32))] [])) _
    refine XS.goto X222.here hx rfl (pc0 := 27) (pc' := 7) rfl (hb hby d3_27) (by decide) (by decide) ?_
    show Steps p.tables e below (T222.setTop (mkF m 7 #[.val (.ref a0), .val (.ref a1), .val (.ref b206), .val (.int (1 : Int32))] [])) _
    refine XS.iloadN X222.here hx rfl (hb hby d3_7) rfl ?_
    show Steps p.tables e below (T222.setTop (mkF m 8 #[.val (.ref a0), .val (.ref a1), .val (.ref b206), .val (.int (1 : Int32))] [(.int (1 : Int32))])) _
    refine XS.aloadN X222.here hx rfl (hb hby d3_8) rfl rfl ?_
    show Steps p.tables e below (T222.setTop (mkF m 9 #[.val (.ref a0), .val (.ref a1), .val (.ref b206), .val (.int (1 : Int32))] [(.ref a0), (.int (1 : Int32))])) _
    refine X222.arraylength hx (by rw [e222]; exact Ar229.1) (State.isArrayOf_alike hZ.alike Ar229.2.1) (g := (mkF m 9 #[.val (.ref a0), .val (.ref a1), .val (.ref b206), .val (.int (1 : Int32))] [(.ref a0), (.int (1 : Int32))])) rfl rfl (hb hby d3_9) _ ?_
    rw [len_of S229 M229]
    show Steps p.tables e below (T222.setTop (mkF m 10 #[.val (.ref a0), .val (.ref a1), .val (.ref b206), .val (.int (1 : Int32))] [(.int (2 : Int32)), (.int (1 : Int32))])) _
    refine XS.icmpNo X222.here hx rfl (hb hby d3_10) rfl (tlt (by decide : (1 : Int32) < (2 : Int32))).2.1 ?_
    show Steps p.tables e below (T222.setTop (mkF m 13 #[.val (.ref a0), .val (.ref a1), .val (.ref b206), .val (.int (1 : Int32))] [])) _
    refine XS.aloadN X222.here hx rfl (hb hby d3_13) rfl rfl ?_
    show Steps p.tables e below (T222.setTop (mkF m 14 #[.val (.ref a0), .val (.ref a1), .val (.ref b206), .val (.int (1 : Int32))] [(.ref b206)])) _
    refine XS.iloadN X222.here hx rfl (hb hby d3_14) rfl ?_
    show Steps p.tables e below (T222.setTop (mkF m 15 #[.val (.ref a0), .val (.ref a1), .val (.ref b206), .val (.int (1 : Int32))] [(.int (1 : Int32)), (.ref b206)])) _
    refine XS.aloadN X222.here hx rfl (hb hby d3_15) rfl rfl ?_
    show Steps p.tables e below (T222.setTop (mkF m 16 #[.val (.ref a0), .val (.ref a1), .val (.ref b206), .val (.int (1 : Int32))] [(.ref a0), (.int (1 : Int32)), (.ref b206)])) _
    refine XS.iloadN X222.here hx rfl (hb hby d3_16) rfl ?_
    show Steps p.tables e below (T222.setTop (mkF m 17 #[.val (.ref a0), .val (.ref a1), .val (.ref b206), .val (.int (1 : Int32))] [(.int (1 : Int32)), (.ref a0), (.int (1 : Int32)), (.ref b206)])) _
    refine X222.baloadBytes hx (j := (1 : Int32)) (v := (.int u1)) (by rw [e222]; exact Ar230.1) (State.isArrayOf_alike hZ.alike Ar230.2.1) Ar230.2.2 hin231 hat232 (g := (mkF m 17 #[.val (.ref a0), .val (.ref a1), .val (.ref b206), .val (.int (1 : Int32))] [(.int (1 : Int32)), (.ref a0), (.int (1 : Int32)), (.ref b206)])) rfl rfl (hb hby d3_17) _ ?_
    show Steps p.tables e below (T222.setTop (mkF m 18 #[.val (.ref a0), .val (.ref a1), .val (.ref b206), .val (.int (1 : Int32))] [(.int u1), (.int (1 : Int32)), (.ref b206)])) _
    refine XS.aloadN X222.here hx rfl (hb hby d3_18) rfl rfl ?_
    show Steps p.tables e below (T222.setTop (mkF m 19 #[.val (.ref a0), .val (.ref a1), .val (.ref b206), .val (.int (1 : Int32))] [(.ref a1), (.int u1), (.int (1 : Int32)), (.ref b206)])) _
    refine XS.iloadN X222.here hx rfl (hb hby d3_19) rfl ?_
    show Steps p.tables e below (T222.setTop (mkF m 20 #[.val (.ref a0), .val (.ref a1), .val (.ref b206), .val (.int (1 : Int32))] [(.int (1 : Int32)), (.ref a1), (.int u1), (.int (1 : Int32)), (.ref b206)])) _
    refine X222.baloadBytes hx (j := (1 : Int32)) (v := (.int w1)) (by rw [e222]; exact Ar233.1) (State.isArrayOf_alike hZ.alike Ar233.2.1) Ar233.2.2 hin234 hat235 (g := (mkF m 20 #[.val (.ref a0), .val (.ref a1), .val (.ref b206), .val (.int (1 : Int32))] [(.int (1 : Int32)), (.ref a1), (.int u1), (.int (1 : Int32)), (.ref b206)])) rfl rfl (hb hby d3_20) _ ?_
    show Steps p.tables e below (T222.setTop (mkF m 21 #[.val (.ref a0), .val (.ref a1), .val (.ref b206), .val (.int (1 : Int32))] [(.int w1), (.int u1), (.int (1 : Int32)), (.ref b206)])) _
    refine XS.ixor X222.here hx rfl (hb hby d3_21) rfl ?_
    show Steps p.tables e below (T222.setTop (mkF m 22 #[.val (.ref a0), .val (.ref a1), .val (.ref b206), .val (.int (1 : Int32))] [(.int (u1 ^^^ w1)), (.int (1 : Int32)), (.ref b206)])) _
    refine XS.i2b X222.here hx rfl (hb hby d3_22) rfl ?_
    show Steps p.tables e below (T222.setTop (mkF m 23 #[.val (.ref a0), .val (.ref a1), .val (.ref b206), .val (.int (1 : Int32))] [(.int ((u1 ^^^ w1).toInt8.toInt32)), (.int (1 : Int32)), (.ref b206)])) _
    refine st238 _ ?_
    show Steps p.tables e below (T238.setTop (mkF m 24 #[.val (.ref a0), .val (.ref a1), .val (.ref b206), .val (.int (1 : Int32))] [])) _
    refine XS.iinc X238.here hx rfl (hb hby d3_24) rfl (l' := #[.val (.ref a0), .val (.ref a1), .val (.ref b206), .val (.int (2 : Int32))]) rfl ?_
    show Steps p.tables e below (T238.setTop (mkF m 27 #[.val (.ref a0), .val (.ref a1), .val (.ref b206), .val (.int (2 : Int32))] [])) _
    refine XS.goto X238.here hx rfl (pc0 := 27) (pc' := 7) rfl (hb hby d3_27) (by decide) (by decide) ?_
    show Steps p.tables e below (T238.setTop (mkF m 7 #[.val (.ref a0), .val (.ref a1), .val (.ref b206), .val (.int (2 : Int32))] [])) _
    refine XS.iloadN X238.here hx rfl (hb hby d3_7) rfl ?_
    show Steps p.tables e below (T238.setTop (mkF m 8 #[.val (.ref a0), .val (.ref a1), .val (.ref b206), .val (.int (2 : Int32))] [(.int (2 : Int32))])) _
    refine XS.aloadN X238.here hx rfl (hb hby d3_8) rfl rfl ?_
    show Steps p.tables e below (T238.setTop (mkF m 9 #[.val (.ref a0), .val (.ref a1), .val (.ref b206), .val (.int (2 : Int32))] [(.ref a0), (.int (2 : Int32))])) _
    refine X238.arraylength hx (by rw [e238]; exact Ar245.1) (State.isArrayOf_alike hZ.alike Ar245.2.1) (g := (mkF m 9 #[.val (.ref a0), .val (.ref a1), .val (.ref b206), .val (.int (2 : Int32))] [(.ref a0), (.int (2 : Int32))])) rfl rfl (hb hby d3_9) _ ?_
    rw [len_of S245 M245]
    show Steps p.tables e below (T238.setTop (mkF m 10 #[.val (.ref a0), .val (.ref a1), .val (.ref b206), .val (.int (2 : Int32))] [(.int (2 : Int32)), (.int (2 : Int32))])) _
    refine XS.icmpYes X238.here hx rfl (pc0 := 10) (pc' := 30) rfl (hb hby d3_10) rfl (flt (by decide : ¬ ((2 : Int32) < (2 : Int32)))).2.1 (by decide) (by decide) ?_
    show Steps p.tables e below (T238.setTop (mkF m 30 #[.val (.ref a0), .val (.ref a1), .val (.ref b206), .val (.int (2 : Int32))] [])) _
    refine XS.aloadN X238.here hx rfl (hb hby d3_30) rfl rfl ?_
    show Steps p.tables e below (T238.setTop (mkF m 31 #[.val (.ref a0), .val (.ref a1), .val (.ref b206), .val (.int (2 : Int32))] [(.ref b206)])) _
    exact retOut X238 hx Bd.returns rfl (Or.inr (Or.inr (Or.inr (Or.inr ⟨rfl, rfl, rfl⟩)))) (hb hby d3_31) hr
  · show Q3_2_3 Z a0 a1 u0 u1 w0 w1 w2 k_a0 k_a1 h0 n0 _ T238.heap _
    rw [e238]
    exact ⟨b206, k206, rfl, N244, K242, g_b206, sz_b206, V238⟩
theorem ef3_3_3 (m : MethodId) (x0 : Addr) (x1 : Addr) : entryFrame m #[(.ref x0), (.ref x1)] 4 = mkF m 0 #[.val (.ref x0), .val (.ref x1), .unset, .unset] [] := by first | (simp [entryFrame, mkF, argsToLocals, Value.category]; done) | rfl
abbrev rr3_3_3 : Room := { frames := 0, cells := 1, slots := 3, locals := 0 }
def Q3_3_3 (Z : State) (a0 : Addr) (a1 : Addr) (u0 : Int32) (u1 : Int32) (u2 : Int32) (w0 : Int32) (w1 : Int32) (w2 : Int32) (k_a0 : ClassId) (k_a1 : ClassId) (h0 : Heap) (n0 : Nat) (v : Option Value) (h : Heap) (L : List Loc) : Prop := ∃ (x0 : Addr) (y0 : ClassId), v = some (.ref x0) ∧ Fr n0 L ∧ Keep h0 h [] ∧ n0 ≤ x0 ∧ h0.size ≤ x0 ∧ Arv Z h x0 y0 .byte (3 : Int32) [(.int (nar .byte ((u0 ^^^ w0).toInt8.toInt32))), (.int (nar .byte ((u1 ^^^ w1).toInt8.toInt32))), (.int (nar .byte ((u2 ^^^ w2).toInt8.toInt32)))] (.int (0 : Int32))
set_option maxRecDepth 65536 in
set_option maxHeartbeats 40000000 in
theorem rm3_3_3 (l : Launch) (Z : State) (aw : Array Value) (hw : ∀ d ∈ tables_1, d.before aw Z = true) (ws : List Jvm.Cond) (a0 : Addr) (a1 : Addr) (u0 : Int32) (u1 : Int32) (u2 : Int32) (w0 : Int32) (w1 : Int32) (w2 : Int32) (k_a0 : ClassId) (k_a1 : ClassId) (h0 : Heap) (n0 : Nat) (Z0 : n0 ≤ h0.size) (V_a0 : Arv Z h0 a0 k_a0 .byte (3 : Int32) [(.int u0), (.int u1), (.int u2)] (.int (0 : Int32))) (V_a1 : Arv Z h0 a1 k_a1 .byte (3 : Int32) [(.int w0), (.int w1), (.int w2)] (.int (0 : Int32))) :
    MetFree l (⟨"com/example/rollcall/rollcall/bench/Milenage", "xor", "([B[B)[B"⟩ : MethodName) (head1 (Jvm.Cond.code (⟨"com/example/rollcall/rollcall/bench/Milenage", "xor", "([B[B)[B"⟩ : MethodName) prog_13_method_8_code 4 (some (.array .byte)) :: ws) rr3_3_3) (fun a U => a = #[(.ref a0), (.ref a1)] ∧ Z.Warmed39 U.vm ∧ U.heap = h0) (fun _ _ _ _ _ => True) (fun _ U o U' => ∃ v L, o = .returned v ∧ Q3_3_3 Z a0 a1 u0 u1 u2 w0 w1 w2 k_a0 k_a1 h0 n0 v U'.heap L ∧ FrameEnd U o U' L rr3_3_3.cells rr3_3_3.slots) := by
  refine MetFree.of_bodySF (plainFor_of_name pn_2) hisR ?_
  intro p e s m args below meth c s₁ Bd hml0 hP hK
  obtain ⟨rfl, hZ, hh⟩ := hP
  have hx := Bd.exec
  have hby := Bd.bytes
  have hml : c.maxLocals = 4 := hml0
  have hown : s.vm.findClass "com/example/rollcall/rollcall/bench/Milenage" = some m.cls := findClass_of_methodNamed Bd.named
  have hnm := (name_of_methodNamed Bd.named Bd.method).1
  have X0 : Stand p l e rr3_3_3 s m #[(.ref a0), (.ref a1)] below meth c s₁ [] 0 0 := Stand.of_body Bd
  have e0 : s₁.heap = h0 := by rw [← hh, Bd.state]; rfl
  have N0 := Fr.nil n0
  have K0 := Keep.refl h0 []
  have pre0 : ∀ t, Steps p.tables e below (s₁.setTop (mkF m 0 #[.val (.ref a0), .val (.ref a1), .unset, .unset] [])) t → Steps p.tables e below (s₁.setTop (entryFrame m #[(.ref a0), (.ref a1)] 4)) t := fun t k => castTop (ef3_3_3 m a0 a1) k
  obtain ⟨cl246, Ar246, q246, S246, M246, H246, G246⟩ := id V_a0
  obtain ⟨T247, h247, k247, X247, e247, E247, A247, st247⟩ := newP X0 hx hZ (hw _ (List.mem_of_getElem? (i := 4) rfl)) e0 (g := (mkF m 2 #[.val (.ref a0), .val (.ref a1), .unset, .unset] [(.int (3 : Int32))])) rfl (hb hby d3_2) rfl (by decide) (cap := 3) (by decide) (by decide) (by decide) (by decide)
  obtain ⟨b247, gg247⟩ : ∃ z, z = h0.size := ⟨_, rfl⟩
  rw [← gg247] at A247 st247
  have f248 := V_a0.ext E247
  have f249 := V_a1.ext E247
  have ne250 : a0 ≠ b247 := Nat.ne_of_lt (Nat.lt_of_lt_of_le V_a0.lt (Nat.le_of_eq gg247.symm))
  have ne251 : a1 ≠ b247 := Nat.ne_of_lt (Nat.lt_of_lt_of_le V_a1.lt (Nat.le_of_eq gg247.symm))
  have g_b247 : n0 ≤ b247 := Nat.le_trans Z0 (Nat.le_of_eq gg247.symm)
  have sz_b247 : h0.size ≤ b247 := Nat.le_trans K0.1 (Nat.le_of_eq gg247.symm)
  have K252 := K0.ext E247
  have Z253 := Nat.le_trans Z0 E247.1
  have V247 : Arv Z h247 b247 k247 .byte (3 : Int32) [(.int (0 : Int32)), (.int (0 : Int32)), (.int (0 : Int32))] (.int (0 : Int32)) := (Arv.new A247 (by decide)).pad (pad_rep [] (.int (0 : Int32)) 3)
  obtain ⟨cl254, Ar254, q254, S254, M254, H254, G254⟩ := id f248
  obtain ⟨cl255, Ar255, q255, S255, M255, H255, G255⟩ := id f248
  have hin256 : ¬ ((0 : Int32) < 0 ∨ cl255.slots.size ≤ ((0 : Int32)).toNatClampNeg) := inb_of S255 ⟨by decide, by decide⟩
  have hat257 : cl255.slots[((0 : Int32)).toNatClampNeg]? = some (.int u0) := H255.at hin256 rfl
  obtain ⟨cl258, Ar258, q258, S258, M258, H258, G258⟩ := id f249
  have hin259 : ¬ ((0 : Int32) < 0 ∨ cl258.slots.size ≤ ((0 : Int32)).toNatClampNeg) := inb_of S258 ⟨by decide, by decide⟩
  have hat260 : cl258.slots[((0 : Int32)).toNatClampNeg]? = some (.int w0) := H258.at hin259 rfl
  obtain ⟨cl261, Ar261, q261, S261, M261, H261, G261⟩ := id V247
  have hin262 : ¬ ((0 : Int32) < 0 ∨ cl261.slots.size ≤ ((0 : Int32)).toNatClampNeg) := inb_of S261 ⟨by decide, by decide⟩
  obtain ⟨T263, h263, X263, e263, W263, st263⟩ := stB X247 hx hZ e247 Ar261 (j := (0 : Int32)) hin262 (g := (mkF m 23 #[.val (.ref a0), .val (.ref a1), .val (.ref b247), .val (.int (0 : Int32))] [(.int ((u0 ^^^ w0).toInt8.toInt32)), (.int (0 : Int32)), (.ref b247)])) rfl rfl (hb hby d3_23)
  have V263 : Arv Z h263 b247 k247 .byte (3 : Int32) [(.int (nar .byte ((u0 ^^^ w0).toInt8.toInt32))), (.int (0 : Int32)), (.int (0 : Int32))] (.int (0 : Int32)) := Arv.set Ar261 q261 S261 M261 H261 G261 (fits_nar_byte _) W263 0 rfl (Nat.le_of_ble_eq_true rfl)
  have f264 := f248.other W263 ne250
  have f265 := f249.other W263 ne251
  have K267 := K252.wr W263 (Or.inr sz_b247)
  have Z268 := Nat.le_trans Z253 (Keep.of_wr W263).1
  have N269 := Fr.snoc X263 N0 g_b247
  obtain ⟨cl270, Ar270, q270, S270, M270, H270, G270⟩ := id f264
  obtain ⟨cl271, Ar271, q271, S271, M271, H271, G271⟩ := id f264
  have hin272 : ¬ ((1 : Int32) < 0 ∨ cl271.slots.size ≤ ((1 : Int32)).toNatClampNeg) := inb_of S271 ⟨by decide, by decide⟩
  have hat273 : cl271.slots[((1 : Int32)).toNatClampNeg]? = some (.int u1) := H271.at hin272 rfl
  obtain ⟨cl274, Ar274, q274, S274, M274, H274, G274⟩ := id f265
  have hin275 : ¬ ((1 : Int32) < 0 ∨ cl274.slots.size ≤ ((1 : Int32)).toNatClampNeg) := inb_of S274 ⟨by decide, by decide⟩
  have hat276 : cl274.slots[((1 : Int32)).toNatClampNeg]? = some (.int w1) := H274.at hin275 rfl
  obtain ⟨cl277, Ar277, q277, S277, M277, H277, G277⟩ := id V263
  have hin278 : ¬ ((1 : Int32) < 0 ∨ cl277.slots.size ≤ ((1 : Int32)).toNatClampNeg) := inb_of S277 ⟨by decide, by decide⟩
  obtain ⟨T279, h279, X279, e279, W279, st279⟩ := stB X263 hx hZ e263 Ar277 (j := (1 : Int32)) hin278 (g := (mkF m 23 #[.val (.ref a0), .val (.ref a1), .val (.ref b247), .val (.int (1 : Int32))] [(.int ((u1 ^^^ w1).toInt8.toInt32)), (.int (1 : Int32)), (.ref b247)])) rfl rfl (hb hby d3_23)
  have V279 : Arv Z h279 b247 k247 .byte (3 : Int32) [(.int (nar .byte ((u0 ^^^ w0).toInt8.toInt32))), (.int (nar .byte ((u1 ^^^ w1).toInt8.toInt32))), (.int (0 : Int32))] (.int (0 : Int32)) := Arv.set Ar277 q277 S277 M277 H277 G277 (fits_nar_byte _) W279 1 rfl (Nat.le_of_ble_eq_true rfl)
  have f280 := f264.other W279 ne250
  have f281 := f265.other W279 ne251
  have K283 := K267.wr W279 (Or.inr sz_b247)
  have Z284 := Nat.le_trans Z268 (Keep.of_wr W279).1
  have N285 := Fr.snoc X279 N269 g_b247
  obtain ⟨cl286, Ar286, q286, S286, M286, H286, G286⟩ := id f280
  obtain ⟨cl287, Ar287, q287, S287, M287, H287, G287⟩ := id f280
  have hin288 : ¬ ((2 : Int32) < 0 ∨ cl287.slots.size ≤ ((2 : Int32)).toNatClampNeg) := inb_of S287 ⟨by decide, by decide⟩
  have hat289 : cl287.slots[((2 : Int32)).toNatClampNeg]? = some (.int u2) := H287.at hin288 rfl
  obtain ⟨cl290, Ar290, q290, S290, M290, H290, G290⟩ := id f281
  have hin291 : ¬ ((2 : Int32) < 0 ∨ cl290.slots.size ≤ ((2 : Int32)).toNatClampNeg) := inb_of S290 ⟨by decide, by decide⟩
  have hat292 : cl290.slots[((2 : Int32)).toNatClampNeg]? = some (.int w2) := H290.at hin291 rfl
  obtain ⟨cl293, Ar293, q293, S293, M293, H293, G293⟩ := id V279
  have hin294 : ¬ ((2 : Int32) < 0 ∨ cl293.slots.size ≤ ((2 : Int32)).toNatClampNeg) := inb_of S293 ⟨by decide, by decide⟩
  obtain ⟨T295, h295, X295, e295, W295, st295⟩ := stB X279 hx hZ e279 Ar293 (j := (2 : Int32)) hin294 (g := (mkF m 23 #[.val (.ref a0), .val (.ref a1), .val (.ref b247), .val (.int (2 : Int32))] [(.int ((u2 ^^^ w2).toInt8.toInt32)), (.int (2 : Int32)), (.ref b247)])) rfl rfl (hb hby d3_23)
  have V295 : Arv Z h295 b247 k247 .byte (3 : Int32) [(.int (nar .byte ((u0 ^^^ w0).toInt8.toInt32))), (.int (nar .byte ((u1 ^^^ w1).toInt8.toInt32))), (.int (nar .byte ((u2 ^^^ w2).toInt8.toInt32)))] (.int (0 : Int32)) := Arv.set Ar293 q293 S293 M293 H293 G293 (fits_nar_byte _) W295 2 rfl (Nat.le_of_ble_eq_true rfl)
  have f296 := f280.other W295 ne250
  have f297 := f281.other W295 ne251
  have K299 := K283.wr W295 (Or.inr sz_b247)
  have Z300 := Nat.le_trans Z284 (Keep.of_wr W295).1
  have N301 := Fr.snoc X295 N285 g_b247
  obtain ⟨cl302, Ar302, q302, S302, M302, H302, G302⟩ := id f296
  obtain ⟨fs, hr, hrun, hended, hW, hsame⟩ := X295.leave (v := some (.ref b247)) (fun h => by rw [Bd.returns] at h; cases h)
  refine ⟨_, _, pre0 _ ?_, hrun, hended, _, _, rfl, ?_, ⟨_, rfl⟩, hW, hsame.mono (by decide) (by decide)⟩
  · skip
    show Steps p.tables e below (s₁.setTop (mkF m 0 #[.val (.ref a0), .val (.ref a1), .unset, .unset] [])) _
    refine XS.aloadN X0.here hx rfl (hb hby d3_0) rfl rfl ?_
    show Steps p.tables e below (s₁.setTop (mkF m 1 #[.val (.ref a0), .val (.ref a1), .unset, .unset] [(.ref a0)])) _
    refine X0.arraylength hx (by rw [e0]; exact Ar246.1) (State.isArrayOf_alike hZ.alike Ar246.2.1) (g := (mkF m 1 #[.val (.ref a0), .val (.ref a1), .unset, .unset] [(.ref a0)])) rfl rfl (hb hby d3_1) _ ?_
    rw [len_of S246 M246]
    show Steps p.tables e below (s₁.setTop (mkF m 2 #[.val (.ref a0), .val (.ref a1), .unset, .unset] [(.int (3 : Int32))])) _
    refine st247 _ ?_
    show Steps p.tables e below (T247.setTop (mkF m 4 #[.val (.ref a0), .val (.ref a1), .unset, .unset] [(.ref b247)])) _
    refine XS.astoreN X247.here hx rfl (hb hby d3_4) rfl rfl (l' := #[.val (.ref a0), .val (.ref a1), .val (.ref b247), .unset]) rfl ?_
    show Steps p.tables e below (T247.setTop (mkF m 5 #[.val (.ref a0), .val (.ref a1), .val (.ref b247), .unset] [])) _
    refine XS.iconst X247.here hx rfl (hb hby d3_5) ?_
    show Steps p.tables e below (T247.setTop (mkF m 6 #[.val (.ref a0), .val (.ref a1), .val (.ref b247), .unset] [(.int (0 : Int32))])) _
    refine XS.istoreN X247.here hx rfl (hb hby d3_6) rfl (l' := #[.val (.ref a0), .val (.ref a1), .val (.ref b247), .val (.int (0 : Int32))]) rfl ?_
    show Steps p.tables e below (T247.setTop (mkF m 7 #[.val (.ref a0), .val (.ref a1), .val (.ref b247), .val (.int (0 : Int32))] [])) _
    refine XS.iloadN X247.here hx rfl (hb hby d3_7) rfl ?_
    show Steps p.tables e below (T247.setTop (mkF m 8 #[.val (.ref a0), .val (.ref a1), .val (.ref b247), .val (.int (0 : Int32))] [(.int (0 : Int32))])) _
    refine XS.aloadN X247.here hx rfl (hb hby d3_8) rfl rfl ?_
    show Steps p.tables e below (T247.setTop (mkF m 9 #[.val (.ref a0), .val (.ref a1), .val (.ref b247), .val (.int (0 : Int32))] [(.ref a0), (.int (0 : Int32))])) _
    refine X247.arraylength hx (by rw [e247]; exact Ar254.1) (State.isArrayOf_alike hZ.alike Ar254.2.1) (g := (mkF m 9 #[.val (.ref a0), .val (.ref a1), .val (.ref b247), .val (.int (0 : Int32))] [(.ref a0), (.int (0 : Int32))])) rfl rfl (hb hby d3_9) _ ?_
    rw [len_of S254 M254]
    show Steps p.tables e below (T247.setTop (mkF m 10 #[.val (.ref a0), .val (.ref a1), .val (.ref b247), .val (.int (0 : Int32))] [(.int (3 : Int32)), (.int (0 : Int32))])) _
    refine XS.icmpNo X247.here hx rfl (hb hby d3_10) rfl (tlt (by decide : (0 : Int32) < (3 : Int32))).2.1 ?_
    show Steps p.tables e below (T247.setTop (mkF m 13 #[.val (.ref a0), .val (.ref a1), .val (.ref b247), .val (.int (0 : Int32))] [])) _
    refine XS.aloadN X247.here hx rfl (hb hby d3_13) rfl rfl ?_
    show Steps p.tables e below (T247.setTop (mkF m 14 #[.val (.ref a0), .val (.ref a1), .val (.ref b247), .val (.int (0 : Int32))] [(.ref b247)])) _
    refine XS.iloadN X247.here hx rfl (hb hby d3_14) rfl ?_
    show Steps p.tables e below (T247.setTop (mkF m 15 #[.val (.ref a0), .val (.ref a1), .val (.ref b247), .val (.int (0 : Int32))] [(.int (0 : Int32)), (.ref b247)])) _
    refine XS.aloadN X247.here hx rfl (hb hby d3_15) rfl rfl ?_
    show Steps p.tables e below (T247.setTop (mkF m 16 #[.val (.ref a0), .val (.ref a1), .val (.ref b247), .val (.int (0 : Int32))] [(.ref a0), (.int (0 : Int32)), (.ref b247)])) _
    refine XS.iloadN X247.here hx rfl (hb hby d3_16) rfl ?_
    show Steps p.tables e below (T247.setTop (mkF m 17 #[.val (.ref a0), .val (.ref a1), .val (.ref b247), .val (.int (0 : Int32))] [(.int (0 : Int32)), (.ref a0), (.int (0 : Int32)), (.ref b247)])) _
    refine X247.baloadBytes hx (j := (0 : Int32)) (v := (.int u0)) (by rw [e247]; exact Ar255.1) (State.isArrayOf_alike hZ.alike Ar255.2.1) Ar255.2.2 hin256 hat257 (g := (mkF m 17 #[.val (.ref a0), .val (.ref a1), .val (.ref b247), .val (.int (0 : Int32))] [(.int (0 : Int32)), (.ref a0), (.int (0 : Int32)), (.ref b247)])) rfl rfl (hb hby d3_17) _ ?_
    show Steps p.tables e below (T247.setTop (mkF m 18 #[.val (.ref a0), .val (.ref a1), .val (.ref b247), .val (.int (0 : Int32))] [(.int u0), (.int (0 : Int32)), (.ref b247)])) _
    refine XS.aloadN X247.here hx rfl (hb hby d3_18) rfl rfl ?_
    show Steps p.tables e below (T247.setTop (mkF m 19 #[.val (.ref a0), .val (.ref a1), .val (.ref b247), .val (.int (0 : Int32))] [(.ref a1), (.int u0), (.int (0 : Int32)), (.ref b247)])) _
    refine XS.iloadN X247.here hx rfl (hb hby d3_19) rfl ?_
    show Steps p.tables e below (T247.setTop (mkF m 20 #[.val (.ref a0), .val (.ref a1), .val (.ref b247), .val (.int (0 : Int32))] [(.int (0 : Int32)), (.ref a1), (.int u0), (.int (0 : Int32)), (.ref b247)])) _
    refine X247.baloadBytes hx (j := (0 : Int32)) (v := (.int w0)) (by rw [e247]; exact Ar258.1) (State.isArrayOf_alike hZ.alike Ar258.2.1) Ar258.2.2 hin259 hat260 (g := (mkF m 20 #[.val (.ref a0), .val (.ref a1), .val (.ref b247), .val (.int (0 : Int32))] [(.int (0 : Int32)), (.ref a1), (.int u0), (.int (0 : Int32)), (.ref b247)])) rfl rfl (hb hby d3_20) _ ?_
    show Steps p.tables e below (T247.setTop (mkF m 21 #[.val (.ref a0), .val (.ref a1), .val (.ref b247), .val (.int (0 : Int32))] [(.int w0), (.int u0), (.int (0 : Int32)), (.ref b247)])) _
    refine XS.ixor X247.here hx rfl (hb hby d3_21) rfl ?_
    show Steps p.tables e below (T247.setTop (mkF m 22 #[.val (.ref a0), .val (.ref a1), .val (.ref b247), .val (.int (0 : Int32))] [(.int (u0 ^^^ w0)), (.int (0 : Int32)), (.ref b247)])) _
    refine XS.i2b X247.here hx rfl (hb hby d3_22) rfl ?_
    show Steps p.tables e below (T247.setTop (mkF m 23 #[.val (.ref a0), .val (.ref a1), .val (.ref b247), .val (.int (0 : Int32))] [(.int ((u0 ^^^ w0).toInt8.toInt32)), (.int (0 : Int32)), (.ref b247)])) _
    refine st263 _ ?_
    show Steps p.tables e below (T263.setTop (mkF m 24 #[.val (.ref a0), .val (.ref a1), .val (.ref b247), .val (.int (0 : Int32))] [])) _
    refine XS.iinc X263.here hx rfl (hb hby d3_24) rfl (l' := #[.val (.ref a0), .val (.ref a1), .val (.ref b247), .val (.int (1 : Int32))]) rfl ?_
    show Steps p.tables e below (T263.setTop (mkF m 27 #[.val (.ref a0), .val (.ref a1), .val (.ref b247), .val (.int (1 : Int32))] [])) _
    refine XS.goto X263.here hx rfl (pc0 := 27) (pc' := 7) rfl (hb hby d3_27) (by decide) (by decide) ?_
    show Steps p.tables e below (T263.setTop (mkF m 7 #[.val (.ref a0), .val (.ref a1), .val (.ref b247), .val (.int (1 : Int32))] [])) _
    refine XS.iloadN X263.here hx rfl (hb hby d3_7) rfl ?_
    show Steps p.tables e below (T263.setTop (mkF m 8 #[.val (.ref a0), .val (.ref a1), .val (.ref b247), .val (.int (1 : Int32))] [(.int (1 : Int32))])) _
    refine XS.aloadN X263.here hx rfl (hb hby d3_8) rfl rfl ?_
    show Steps p.tables e below (T263.setTop (mkF m 9 #[.val (.ref a0), .val (.ref a1), .val (.ref b247), .val (.int (1 : Int32))] [(.ref a0), (.int (1 : Int32))])) _
    refine X263.arraylength hx (by rw [e263]; exact Ar270.1) (State.isArrayOf_alike hZ.alike Ar270.2.1) (g := (mkF m 9 #[.val (.ref a0), .val (.ref a1), .val (.ref b247), .val (.int (1 : Int32))] [(.ref a0), (.int (1 : Int32))])) rfl rfl (hb hby d3_9) _ ?_
    rw [len_of S270 M270]
    show Steps p.tables e below (T263.setTop (mkF m 10 #[.val (.ref a0), .val (.ref a1), .val (.ref b247), .val (.int (1 : Int32))] [(.int (3 : Int32)), (.int (1 : Int32))])) _
    refine XS.icmpNo X263.here hx rfl (hb hby d3_10) rfl (tlt (by decide : (1 : Int32) < (3 : Int32))).2.1 ?_
    show Steps p.tables e below (T263.setTop (mkF m 13 #[.val (.ref a0), .val (.ref a1), .val (.ref b247), .val (.int (1 : Int32))] [])) _
    refine XS.aloadN X263.here hx rfl (hb hby d3_13) rfl rfl ?_
    show Steps p.tables e below (T263.setTop (mkF m 14 #[.val (.ref a0), .val (.ref a1), .val (.ref b247), .val (.int (1 : Int32))] [(.ref b247)])) _
    refine XS.iloadN X263.here hx rfl (hb hby d3_14) rfl ?_
    show Steps p.tables e below (T263.setTop (mkF m 15 #[.val (.ref a0), .val (.ref a1), .val (.ref b247), .val (.int (1 : Int32))] [(.int (1 : Int32)), (.ref b247)])) _
    refine XS.aloadN X263.here hx rfl (hb hby d3_15) rfl rfl ?_
    show Steps p.tables e below (T263.setTop (mkF m 16 #[.val (.ref a0), .val (.ref a1), .val (.ref b247), .val (.int (1 : Int32))] [(.ref a0), (.int (1 : Int32)), (.ref b247)])) _
    refine XS.iloadN X263.here hx rfl (hb hby d3_16) rfl ?_
    show Steps p.tables e below (T263.setTop (mkF m 17 #[.val (.ref a0), .val (.ref a1), .val (.ref b247), .val (.int (1 : Int32))] [(.int (1 : Int32)), (.ref a0), (.int (1 : Int32)), (.ref b247)])) _
    refine X263.baloadBytes hx (j := (1 : Int32)) (v := (.int u1)) (by rw [e263]; exact Ar271.1) (State.isArrayOf_alike hZ.alike Ar271.2.1) Ar271.2.2 hin272 hat273 (g := (mkF m 17 #[.val (.ref a0), .val (.ref a1), .val (.ref b247), .val (.int (1 : Int32))] [(.int (1 : Int32)), (.ref a0), (.int (1 : Int32)), (.ref b247)])) rfl rfl (hb hby d3_17) _ ?_
    show Steps p.tables e below (T263.setTop (mkF m 18 #[.val (.ref a0), .val (.ref a1), .val (.ref b247), .val (.int (1 : Int32))] [(.int u1), (.int (1 : Int32)), (.ref b247)])) _
    refine XS.aloadN X263.here hx rfl (hb hby d3_18) rfl rfl ?_
    show Steps p.tables e below (T263.setTop (mkF m 19 #[.val (.ref a0), .val (.ref a1), .val (.ref b247), .val (.int (1 : Int32))] [(.ref a1), (.int u1), (.int (1 : Int32)), (.ref b247)])) _
    refine XS.iloadN X263.here hx rfl (hb hby d3_19) rfl ?_
    show Steps p.tables e below (T263.setTop (mkF m 20 #[.val (.ref a0), .val (.ref a1), .val (.ref b247), .val (.int (1 : Int32))] [(.int (1 : Int32)), (.ref a1), (.int u1), (.int (1 : Int32)), (.ref b247)])) _
    refine X263.baloadBytes hx (j := (1 : Int32)) (v := (.int w1)) (by rw [e263]; exact Ar274.1) (State.isArrayOf_alike hZ.alike Ar274.2.1) Ar274.2.2 hin275 hat276 (g := (mkF m 20 #[.val (.ref a0), .val (.ref a1), .val (.ref b247), .val (.int (1 : Int32))] [(.int (1 : Int32)), (.ref a1), (.int u1), (.int (1 : Int32)), (.ref b247)])) rfl rfl (hb hby d3_20) _ ?_
    show Steps p.tables e below (T263.setTop (mkF m 21 #[.val (.ref a0), .val (.ref a1), .val (.ref b247), .val (.int (1 : Int32))] [(.int w1), (.int u1), (.int (1 : Int32)), (.ref b247)])) _
    refine XS.ixor X263.here hx rfl (hb hby d3_21) rfl ?_
    show Steps p.tables e below (T263.setTop (mkF m 22 #[.val (.ref a0), .val (.ref a1), .val (.ref b247), .val (.int (1 : Int32))] [(.int (u1 ^^^ w1)), (.int (1 : Int32)), (.ref b247)])) _
    refine XS.i2b X263.here hx rfl (hb hby d3_22) rfl ?_
    show Steps p.tables e below (T263.setTop (mkF m 23 #[.val (.ref a0), .val (.ref a1), .val (.ref b247), .val (.int (1 : Int32))] [(.int ((u1 ^^^ w1).toInt8.toInt32)), (.int (1 : Int32)), (.ref b247)])) _
    refine st279 _ ?_
    show Steps p.tables e below (T279.setTop (mkF m 24 #[.val (.ref a0), .val (.ref a1), .val (.ref b247), .val (.int (1 : Int32))] [])) _
    refine XS.iinc X279.here hx rfl (hb hby d3_24) rfl (l' := #[.val (.ref a0), .val (.ref a1), .val (.ref b247), .val (.int (2 : Int32))]) rfl ?_
    show Steps p.tables e below (T279.setTop (mkF m 27 #[.val (.ref a0), .val (.ref a1), .val (.ref b247), .val (.int (2 : Int32))] [])) _
    refine XS.goto X279.here hx rfl (pc0 := 27) (pc' := 7) rfl (hb hby d3_27) (by decide) (by decide) ?_
    show Steps p.tables e below (T279.setTop (mkF m 7 #[.val (.ref a0), .val (.ref a1), .val (.ref b247), .val (.int (2 : Int32))] [])) _
    refine XS.iloadN X279.here hx rfl (hb hby d3_7) rfl ?_
    show Steps p.tables e below (T279.setTop (mkF m 8 #[.val (.ref a0), .val (.ref a1), .val (.ref b247), .val (.int (2 : Int32))] [(.int (2 : Int32))])) _
    refine XS.aloadN X279.here hx rfl (hb hby d3_8) rfl rfl ?_
    show Steps p.tables e below (T279.setTop (mkF m 9 #[.val (.ref a0), .val (.ref a1), .val (.ref b247), .val (.int (2 : Int32))] [(.ref a0), (.int (2 : Int32))])) _
    refine X279.arraylength hx (by rw [e279]; exact Ar286.1) (State.isArrayOf_alike hZ.alike Ar286.2.1) (g := (mkF m 9 #[.val (.ref a0), .val (.ref a1), .val (.ref b247), .val (.int (2 : Int32))] [(.ref a0), (.int (2 : Int32))])) rfl rfl (hb hby d3_9) _ ?_
    rw [len_of S286 M286]
    show Steps p.tables e below (T279.setTop (mkF m 10 #[.val (.ref a0), .val (.ref a1), .val (.ref b247), .val (.int (2 : Int32))] [(.int (3 : Int32)), (.int (2 : Int32))])) _
    refine XS.icmpNo X279.here hx rfl (hb hby d3_10) rfl (tlt (by decide : (2 : Int32) < (3 : Int32))).2.1 ?_
    show Steps p.tables e below (T279.setTop (mkF m 13 #[.val (.ref a0), .val (.ref a1), .val (.ref b247), .val (.int (2 : Int32))] [])) _
    refine XS.aloadN X279.here hx rfl (hb hby d3_13) rfl rfl ?_
    show Steps p.tables e below (T279.setTop (mkF m 14 #[.val (.ref a0), .val (.ref a1), .val (.ref b247), .val (.int (2 : Int32))] [(.ref b247)])) _
    refine XS.iloadN X279.here hx rfl (hb hby d3_14) rfl ?_
    show Steps p.tables e below (T279.setTop (mkF m 15 #[.val (.ref a0), .val (.ref a1), .val (.ref b247), .val (.int (2 : Int32))] [(.int (2 : Int32)), (.ref b247)])) _
    refine XS.aloadN X279.here hx rfl (hb hby d3_15) rfl rfl ?_
    show Steps p.tables e below (T279.setTop (mkF m 16 #[.val (.ref a0), .val (.ref a1), .val (.ref b247), .val (.int (2 : Int32))] [(.ref a0), (.int (2 : Int32)), (.ref b247)])) _
    refine XS.iloadN X279.here hx rfl (hb hby d3_16) rfl ?_
    show Steps p.tables e below (T279.setTop (mkF m 17 #[.val (.ref a0), .val (.ref a1), .val (.ref b247), .val (.int (2 : Int32))] [(.int (2 : Int32)), (.ref a0), (.int (2 : Int32)), (.ref b247)])) _
    refine X279.baloadBytes hx (j := (2 : Int32)) (v := (.int u2)) (by rw [e279]; exact Ar287.1) (State.isArrayOf_alike hZ.alike Ar287.2.1) Ar287.2.2 hin288 hat289 (g := (mkF m 17 #[.val (.ref a0), .val (.ref a1), .val (.ref b247), .val (.int (2 : Int32))] [(.int (2 : Int32)), (.ref a0), (.int (2 : Int32)), (.ref b247)])) rfl rfl (hb hby d3_17) _ ?_
    show Steps p.tables e below (T279.setTop (mkF m 18 #[.val (.ref a0), .val (.ref a1), .val (.ref b247), .val (.int (2 : Int32))] [(.int u2), (.int (2 : Int32)), (.ref b247)])) _
    refine XS.aloadN X279.here hx rfl (hb hby d3_18) rfl rfl ?_
    show Steps p.tables e below (T279.setTop (mkF m 19 #[.val (.ref a0), .val (.ref a1), .val (.ref b247), .val (.int (2 : Int32))] [(.ref a1), (.int u2), (.int (2 : Int32)), (.ref b247)])) _
    refine XS.iloadN X279.here hx rfl (hb hby d3_19) rfl ?_
    show Steps p.tables e below (T279.setTop (mkF m 20 #[.val (.ref a0), .val (.ref a1), .val (.ref b247), .val (.int (2 : Int32))] [(.int (2 : Int32)), (.ref a1), (.int u2), (.int (2 : Int32)), (.ref b247)])) _
    refine X279.baloadBytes hx (j := (2 : Int32)) (v := (.int w2)) (by rw [e279]; exact Ar290.1) (State.isArrayOf_alike hZ.alike Ar290.2.1) Ar290.2.2 hin291 hat292 (g := (mkF m 20 #[.val (.ref a0), .val (.ref a1), .val (.ref b247), .val (.int (2 : Int32))] [(.int (2 : Int32)), (.ref a1), (.int u2), (.int (2 : Int32)), (.ref b247)])) rfl rfl (hb hby d3_20) _ ?_
    show Steps p.tables e below (T279.setTop (mkF m 21 #[.val (.ref a0), .val (.ref a1), .val (.ref b247), .val (.int (2 : Int32))] [(.int w2), (.int u2), (.int (2 : Int32)), (.ref b247)])) _
    refine XS.ixor X279.here hx rfl (hb hby d3_21) rfl ?_
    show Steps p.tables e below (T279.setTop (mkF m 22 #[.val (.ref a0), .val (.ref a1), .val (.ref b247), .val (.int (2 : Int32))] [(.int (u2 ^^^ w2)), (.int (2 : Int32)), (.ref b247)])) _
    refine XS.i2b X279.here hx rfl (hb hby d3_22) rfl ?_
    show Steps p.tables e below (T279.setTop (mkF m 23 #[.val (.ref a0), .val (.ref a1), .val (.ref b247), .val (.int (2 : Int32))] [(.int ((u2 ^^^ w2).toInt8.toInt32)), (.int (2 : Int32)), (.ref b247)])) _
    refine st295 _ ?_
    show Steps p.tables e below (T295.setTop (mkF m 24 #[.val (.ref a0), .val (.ref a1), .val (.ref b247), .val (.int (2 : Int32))] [])) _
    refine XS.iinc X295.here hx rfl (hb hby d3_24) rfl (l' := #[.val (.ref a0), .val (.ref a1), .val (.ref b247), .val (.int (3 : Int32))]) rfl ?_
    show Steps p.tables e below (T295.setTop (mkF m 27 #[.val (.ref a0), .val (.ref a1), .val (.ref b247), .val (.int (3 : Int32))] [])) _
    refine XS.goto X295.here hx rfl (pc0 := 27) (pc' := 7) rfl (hb hby d3_27) (by decide) (by decide) ?_
    show Steps p.tables e below (T295.setTop (mkF m 7 #[.val (.ref a0), .val (.ref a1), .val (.ref b247), .val (.int (3 : Int32))] [])) _
    refine XS.iloadN X295.here hx rfl (hb hby d3_7) rfl ?_
    show Steps p.tables e below (T295.setTop (mkF m 8 #[.val (.ref a0), .val (.ref a1), .val (.ref b247), .val (.int (3 : Int32))] [(.int (3 : Int32))])) _
    refine XS.aloadN X295.here hx rfl (hb hby d3_8) rfl rfl ?_
    show Steps p.tables e below (T295.setTop (mkF m 9 #[.val (.ref a0), .val (.ref a1), .val (.ref b247), .val (.int (3 : Int32))] [(.ref a0), (.int (3 : Int32))])) _
    refine X295.arraylength hx (by rw [e295]; exact Ar302.1) (State.isArrayOf_alike hZ.alike Ar302.2.1) (g := (mkF m 9 #[.val (.ref a0), .val (.ref a1), .val (.ref b247), .val (.int (3 : Int32))] [(.ref a0), (.int (3 : Int32))])) rfl rfl (hb hby d3_9) _ ?_
    rw [len_of S302 M302]
    show Steps p.tables e below (T295.setTop (mkF m 10 #[.val (.ref a0), .val (.ref a1), .val (.ref b247), .val (.int (3 : Int32))] [(.int (3 : Int32)), (.int (3 : Int32))])) _
    refine XS.icmpYes X295.here hx rfl (pc0 := 10) (pc' := 30) rfl (hb hby d3_10) rfl (flt (by decide : ¬ ((3 : Int32) < (3 : Int32)))).2.1 (by decide) (by decide) ?_
    show Steps p.tables e below (T295.setTop (mkF m 30 #[.val (.ref a0), .val (.ref a1), .val (.ref b247), .val (.int (3 : Int32))] [])) _
    refine XS.aloadN X295.here hx rfl (hb hby d3_30) rfl rfl ?_
    show Steps p.tables e below (T295.setTop (mkF m 31 #[.val (.ref a0), .val (.ref a1), .val (.ref b247), .val (.int (3 : Int32))] [(.ref b247)])) _
    exact retOut X295 hx Bd.returns rfl (Or.inr (Or.inr (Or.inr (Or.inr ⟨rfl, rfl, rfl⟩)))) (hb hby d3_31) hr
  · show Q3_3_3 Z a0 a1 u0 u1 u2 w0 w1 w2 k_a0 k_a1 h0 n0 _ T295.heap _
    rw [e295]
    exact ⟨b247, k247, rfl, N301, K299, g_b247, sz_b247, V295⟩
theorem ef3_3_4 (m : MethodId) (x0 : Addr) (x1 : Addr) : entryFrame m #[(.ref x0), (.ref x1)] 4 = mkF m 0 #[.val (.ref x0), .val (.ref x1), .unset, .unset] [] := by first | (simp [entryFrame, mkF, argsToLocals, Value.category]; done) | rfl
abbrev rr3_3_4 : Room := { frames := 0, cells := 1, slots := 3, locals := 0 }
def Q3_3_4 (Z : State) (a0 : Addr) (a1 : Addr) (u0 : Int32) (u1 : Int32) (u2 : Int32) (w0 : Int32) (w1 : Int32) (w2 : Int32) (w3 : Int32) (k_a0 : ClassId) (k_a1 : ClassId) (h0 : Heap) (n0 : Nat) (v : Option Value) (h : Heap) (L : List Loc) : Prop := ∃ (x0 : Addr) (y0 : ClassId), v = some (.ref x0) ∧ Fr n0 L ∧ Keep h0 h [] ∧ n0 ≤ x0 ∧ h0.size ≤ x0 ∧ Arv Z h x0 y0 .byte (3 : Int32) [(.int (nar .byte ((u0 ^^^ w0).toInt8.toInt32))), (.int (nar .byte ((u1 ^^^ w1).toInt8.toInt32))), (.int (nar .byte ((u2 ^^^ w2).toInt8.toInt32)))] (.int (0 : Int32))
set_option maxRecDepth 65536 in
set_option maxHeartbeats 40000000 in
theorem rm3_3_4 (l : Launch) (Z : State) (aw : Array Value) (hw : ∀ d ∈ tables_1, d.before aw Z = true) (ws : List Jvm.Cond) (a0 : Addr) (a1 : Addr) (u0 : Int32) (u1 : Int32) (u2 : Int32) (w0 : Int32) (w1 : Int32) (w2 : Int32) (w3 : Int32) (k_a0 : ClassId) (k_a1 : ClassId) (h0 : Heap) (n0 : Nat) (Z0 : n0 ≤ h0.size) (V_a0 : Arv Z h0 a0 k_a0 .byte (3 : Int32) [(.int u0), (.int u1), (.int u2)] (.int (0 : Int32))) (V_a1 : Arv Z h0 a1 k_a1 .byte (4 : Int32) [(.int w0), (.int w1), (.int w2), (.int w3)] (.int (0 : Int32))) :
    MetFree l (⟨"com/example/rollcall/rollcall/bench/Milenage", "xor", "([B[B)[B"⟩ : MethodName) (head1 (Jvm.Cond.code (⟨"com/example/rollcall/rollcall/bench/Milenage", "xor", "([B[B)[B"⟩ : MethodName) prog_13_method_8_code 4 (some (.array .byte)) :: ws) rr3_3_4) (fun a U => a = #[(.ref a0), (.ref a1)] ∧ Z.Warmed39 U.vm ∧ U.heap = h0) (fun _ _ _ _ _ => True) (fun _ U o U' => ∃ v L, o = .returned v ∧ Q3_3_4 Z a0 a1 u0 u1 u2 w0 w1 w2 w3 k_a0 k_a1 h0 n0 v U'.heap L ∧ FrameEnd U o U' L rr3_3_4.cells rr3_3_4.slots) := by
  refine MetFree.of_bodySF (plainFor_of_name pn_2) hisR ?_
  intro p e s m args below meth c s₁ Bd hml0 hP hK
  obtain ⟨rfl, hZ, hh⟩ := hP
  have hx := Bd.exec
  have hby := Bd.bytes
  have hml : c.maxLocals = 4 := hml0
  have hown : s.vm.findClass "com/example/rollcall/rollcall/bench/Milenage" = some m.cls := findClass_of_methodNamed Bd.named
  have hnm := (name_of_methodNamed Bd.named Bd.method).1
  have X0 : Stand p l e rr3_3_4 s m #[(.ref a0), (.ref a1)] below meth c s₁ [] 0 0 := Stand.of_body Bd
  have e0 : s₁.heap = h0 := by rw [← hh, Bd.state]; rfl
  have N0 := Fr.nil n0
  have K0 := Keep.refl h0 []
  have pre0 : ∀ t, Steps p.tables e below (s₁.setTop (mkF m 0 #[.val (.ref a0), .val (.ref a1), .unset, .unset] [])) t → Steps p.tables e below (s₁.setTop (entryFrame m #[(.ref a0), (.ref a1)] 4)) t := fun t k => castTop (ef3_3_4 m a0 a1) k
  obtain ⟨cl303, Ar303, q303, S303, M303, H303, G303⟩ := id V_a0
  obtain ⟨T304, h304, k304, X304, e304, E304, A304, st304⟩ := newP X0 hx hZ (hw _ (List.mem_of_getElem? (i := 4) rfl)) e0 (g := (mkF m 2 #[.val (.ref a0), .val (.ref a1), .unset, .unset] [(.int (3 : Int32))])) rfl (hb hby d3_2) rfl (by decide) (cap := 3) (by decide) (by decide) (by decide) (by decide)
  obtain ⟨b304, gg304⟩ : ∃ z, z = h0.size := ⟨_, rfl⟩
  rw [← gg304] at A304 st304
  have f305 := V_a0.ext E304
  have f306 := V_a1.ext E304
  have ne307 : a0 ≠ b304 := Nat.ne_of_lt (Nat.lt_of_lt_of_le V_a0.lt (Nat.le_of_eq gg304.symm))
  have ne308 : a1 ≠ b304 := Nat.ne_of_lt (Nat.lt_of_lt_of_le V_a1.lt (Nat.le_of_eq gg304.symm))
  have g_b304 : n0 ≤ b304 := Nat.le_trans Z0 (Nat.le_of_eq gg304.symm)
  have sz_b304 : h0.size ≤ b304 := Nat.le_trans K0.1 (Nat.le_of_eq gg304.symm)
  have K309 := K0.ext E304
  have Z310 := Nat.le_trans Z0 E304.1
  have V304 : Arv Z h304 b304 k304 .byte (3 : Int32) [(.int (0 : Int32)), (.int (0 : Int32)), (.int (0 : Int32))] (.int (0 : Int32)) := (Arv.new A304 (by decide)).pad (pad_rep [] (.int (0 : Int32)) 3)
  obtain ⟨cl311, Ar311, q311, S311, M311, H311, G311⟩ := id f305
  obtain ⟨cl312, Ar312, q312, S312, M312, H312, G312⟩ := id f305
  have hin313 : ¬ ((0 : Int32) < 0 ∨ cl312.slots.size ≤ ((0 : Int32)).toNatClampNeg) := inb_of S312 ⟨by decide, by decide⟩
  have hat314 : cl312.slots[((0 : Int32)).toNatClampNeg]? = some (.int u0) := H312.at hin313 rfl
  obtain ⟨cl315, Ar315, q315, S315, M315, H315, G315⟩ := id f306
  have hin316 : ¬ ((0 : Int32) < 0 ∨ cl315.slots.size ≤ ((0 : Int32)).toNatClampNeg) := inb_of S315 ⟨by decide, by decide⟩
  have hat317 : cl315.slots[((0 : Int32)).toNatClampNeg]? = some (.int w0) := H315.at hin316 rfl
  obtain ⟨cl318, Ar318, q318, S318, M318, H318, G318⟩ := id V304
  have hin319 : ¬ ((0 : Int32) < 0 ∨ cl318.slots.size ≤ ((0 : Int32)).toNatClampNeg) := inb_of S318 ⟨by decide, by decide⟩
  obtain ⟨T320, h320, X320, e320, W320, st320⟩ := stB X304 hx hZ e304 Ar318 (j := (0 : Int32)) hin319 (g := (mkF m 23 #[.val (.ref a0), .val (.ref a1), .val (.ref b304), .val (.int (0 : Int32))] [(.int ((u0 ^^^ w0).toInt8.toInt32)), (.int (0 : Int32)), (.ref b304)])) rfl rfl (hb hby d3_23)
  have V320 : Arv Z h320 b304 k304 .byte (3 : Int32) [(.int (nar .byte ((u0 ^^^ w0).toInt8.toInt32))), (.int (0 : Int32)), (.int (0 : Int32))] (.int (0 : Int32)) := Arv.set Ar318 q318 S318 M318 H318 G318 (fits_nar_byte _) W320 0 rfl (Nat.le_of_ble_eq_true rfl)
  have f321 := f305.other W320 ne307
  have f322 := f306.other W320 ne308
  have K324 := K309.wr W320 (Or.inr sz_b304)
  have Z325 := Nat.le_trans Z310 (Keep.of_wr W320).1
  have N326 := Fr.snoc X320 N0 g_b304
  obtain ⟨cl327, Ar327, q327, S327, M327, H327, G327⟩ := id f321
  obtain ⟨cl328, Ar328, q328, S328, M328, H328, G328⟩ := id f321
  have hin329 : ¬ ((1 : Int32) < 0 ∨ cl328.slots.size ≤ ((1 : Int32)).toNatClampNeg) := inb_of S328 ⟨by decide, by decide⟩
  have hat330 : cl328.slots[((1 : Int32)).toNatClampNeg]? = some (.int u1) := H328.at hin329 rfl
  obtain ⟨cl331, Ar331, q331, S331, M331, H331, G331⟩ := id f322
  have hin332 : ¬ ((1 : Int32) < 0 ∨ cl331.slots.size ≤ ((1 : Int32)).toNatClampNeg) := inb_of S331 ⟨by decide, by decide⟩
  have hat333 : cl331.slots[((1 : Int32)).toNatClampNeg]? = some (.int w1) := H331.at hin332 rfl
  obtain ⟨cl334, Ar334, q334, S334, M334, H334, G334⟩ := id V320
  have hin335 : ¬ ((1 : Int32) < 0 ∨ cl334.slots.size ≤ ((1 : Int32)).toNatClampNeg) := inb_of S334 ⟨by decide, by decide⟩
  obtain ⟨T336, h336, X336, e336, W336, st336⟩ := stB X320 hx hZ e320 Ar334 (j := (1 : Int32)) hin335 (g := (mkF m 23 #[.val (.ref a0), .val (.ref a1), .val (.ref b304), .val (.int (1 : Int32))] [(.int ((u1 ^^^ w1).toInt8.toInt32)), (.int (1 : Int32)), (.ref b304)])) rfl rfl (hb hby d3_23)
  have V336 : Arv Z h336 b304 k304 .byte (3 : Int32) [(.int (nar .byte ((u0 ^^^ w0).toInt8.toInt32))), (.int (nar .byte ((u1 ^^^ w1).toInt8.toInt32))), (.int (0 : Int32))] (.int (0 : Int32)) := Arv.set Ar334 q334 S334 M334 H334 G334 (fits_nar_byte _) W336 1 rfl (Nat.le_of_ble_eq_true rfl)
  have f337 := f321.other W336 ne307
  have f338 := f322.other W336 ne308
  have K340 := K324.wr W336 (Or.inr sz_b304)
  have Z341 := Nat.le_trans Z325 (Keep.of_wr W336).1
  have N342 := Fr.snoc X336 N326 g_b304
  obtain ⟨cl343, Ar343, q343, S343, M343, H343, G343⟩ := id f337
  obtain ⟨cl344, Ar344, q344, S344, M344, H344, G344⟩ := id f337
  have hin345 : ¬ ((2 : Int32) < 0 ∨ cl344.slots.size ≤ ((2 : Int32)).toNatClampNeg) := inb_of S344 ⟨by decide, by decide⟩
  have hat346 : cl344.slots[((2 : Int32)).toNatClampNeg]? = some (.int u2) := H344.at hin345 rfl
  obtain ⟨cl347, Ar347, q347, S347, M347, H347, G347⟩ := id f338
  have hin348 : ¬ ((2 : Int32) < 0 ∨ cl347.slots.size ≤ ((2 : Int32)).toNatClampNeg) := inb_of S347 ⟨by decide, by decide⟩
  have hat349 : cl347.slots[((2 : Int32)).toNatClampNeg]? = some (.int w2) := H347.at hin348 rfl
  obtain ⟨cl350, Ar350, q350, S350, M350, H350, G350⟩ := id V336
  have hin351 : ¬ ((2 : Int32) < 0 ∨ cl350.slots.size ≤ ((2 : Int32)).toNatClampNeg) := inb_of S350 ⟨by decide, by decide⟩
  obtain ⟨T352, h352, X352, e352, W352, st352⟩ := stB X336 hx hZ e336 Ar350 (j := (2 : Int32)) hin351 (g := (mkF m 23 #[.val (.ref a0), .val (.ref a1), .val (.ref b304), .val (.int (2 : Int32))] [(.int ((u2 ^^^ w2).toInt8.toInt32)), (.int (2 : Int32)), (.ref b304)])) rfl rfl (hb hby d3_23)
  have V352 : Arv Z h352 b304 k304 .byte (3 : Int32) [(.int (nar .byte ((u0 ^^^ w0).toInt8.toInt32))), (.int (nar .byte ((u1 ^^^ w1).toInt8.toInt32))), (.int (nar .byte ((u2 ^^^ w2).toInt8.toInt32)))] (.int (0 : Int32)) := Arv.set Ar350 q350 S350 M350 H350 G350 (fits_nar_byte _) W352 2 rfl (Nat.le_of_ble_eq_true rfl)
  have f353 := f337.other W352 ne307
  have f354 := f338.other W352 ne308
  have K356 := K340.wr W352 (Or.inr sz_b304)
  have Z357 := Nat.le_trans Z341 (Keep.of_wr W352).1
  have N358 := Fr.snoc X352 N342 g_b304
  obtain ⟨cl359, Ar359, q359, S359, M359, H359, G359⟩ := id f353
  obtain ⟨fs, hr, hrun, hended, hW, hsame⟩ := X352.leave (v := some (.ref b304)) (fun h => by rw [Bd.returns] at h; cases h)
  refine ⟨_, _, pre0 _ ?_, hrun, hended, _, _, rfl, ?_, ⟨_, rfl⟩, hW, hsame.mono (by decide) (by decide)⟩
  · skip
    show Steps p.tables e below (s₁.setTop (mkF m 0 #[.val (.ref a0), .val (.ref a1), .unset, .unset] [])) _
    refine XS.aloadN X0.here hx rfl (hb hby d3_0) rfl rfl ?_
    show Steps p.tables e below (s₁.setTop (mkF m 1 #[.val (.ref a0), .val (.ref a1), .unset, .unset] [(.ref a0)])) _
    refine X0.arraylength hx (by rw [e0]; exact Ar303.1) (State.isArrayOf_alike hZ.alike Ar303.2.1) (g := (mkF m 1 #[.val (.ref a0), .val (.ref a1), .unset, .unset] [(.ref a0)])) rfl rfl (hb hby d3_1) _ ?_
    rw [len_of S303 M303]
    show Steps p.tables e below (s₁.setTop (mkF m 2 #[.val (.ref a0), .val (.ref a1), .unset, .unset] [(.int (3 : Int32))])) _
    refine st304 _ ?_
    show Steps p.tables e below (T304.setTop (mkF m 4 #[.val (.ref a0), .val (.ref a1), .unset, .unset] [(.ref b304)])) _
    refine XS.astoreN X304.here hx rfl (hb hby d3_4) rfl rfl (l' := #[.val (.ref a0), .val (.ref a1), .val (.ref b304), .unset]) rfl ?_
    show Steps p.tables e below (T304.setTop (mkF m 5 #[.val (.ref a0), .val (.ref a1), .val (.ref b304), .unset] [])) _
    refine XS.iconst X304.here hx rfl (hb hby d3_5) ?_
    show Steps p.tables e below (T304.setTop (mkF m 6 #[.val (.ref a0), .val (.ref a1), .val (.ref b304), .unset] [(.int (0 : Int32))])) _
    refine XS.istoreN X304.here hx rfl (hb hby d3_6) rfl (l' := #[.val (.ref a0), .val (.ref a1), .val (.ref b304), .val (.int (0 : Int32))]) rfl ?_
    show Steps p.tables e below (T304.setTop (mkF m 7 #[.val (.ref a0), .val (.ref a1), .val (.ref b304), .val (.int (0 : Int32))] [])) _
    refine XS.iloadN X304.here hx rfl (hb hby d3_7) rfl ?_
    show Steps p.tables e below (T304.setTop (mkF m 8 #[.val (.ref a0), .val (.ref a1), .val (.ref b304), .val (.int (0 : Int32))] [(.int (0 : Int32))])) _
    refine XS.aloadN X304.here hx rfl (hb hby d3_8) rfl rfl ?_
    show Steps p.tables e below (T304.setTop (mkF m 9 #[.val (.ref a0), .val (.ref a1), .val (.ref b304), .val (.int (0 : Int32))] [(.ref a0), (.int (0 : Int32))])) _
    refine X304.arraylength hx (by rw [e304]; exact Ar311.1) (State.isArrayOf_alike hZ.alike Ar311.2.1) (g := (mkF m 9 #[.val (.ref a0), .val (.ref a1), .val (.ref b304), .val (.int (0 : Int32))] [(.ref a0), (.int (0 : Int32))])) rfl rfl (hb hby d3_9) _ ?_
    rw [len_of S311 M311]
    show Steps p.tables e below (T304.setTop (mkF m 10 #[.val (.ref a0), .val (.ref a1), .val (.ref b304), .val (.int (0 : Int32))] [(.int (3 : Int32)), (.int (0 : Int32))])) _
    refine XS.icmpNo X304.here hx rfl (hb hby d3_10) rfl (tlt (by decide : (0 : Int32) < (3 : Int32))).2.1 ?_
    show Steps p.tables e below (T304.setTop (mkF m 13 #[.val (.ref a0), .val (.ref a1), .val (.ref b304), .val (.int (0 : Int32))] [])) _
    refine XS.aloadN X304.here hx rfl (hb hby d3_13) rfl rfl ?_
    show Steps p.tables e below (T304.setTop (mkF m 14 #[.val (.ref a0), .val (.ref a1), .val (.ref b304), .val (.int (0 : Int32))] [(.ref b304)])) _
    refine XS.iloadN X304.here hx rfl (hb hby d3_14) rfl ?_
    show Steps p.tables e below (T304.setTop (mkF m 15 #[.val (.ref a0), .val (.ref a1), .val (.ref b304), .val (.int (0 : Int32))] [(.int (0 : Int32)), (.ref b304)])) _
    refine XS.aloadN X304.here hx rfl (hb hby d3_15) rfl rfl ?_
    show Steps p.tables e below (T304.setTop (mkF m 16 #[.val (.ref a0), .val (.ref a1), .val (.ref b304), .val (.int (0 : Int32))] [(.ref a0), (.int (0 : Int32)), (.ref b304)])) _
    refine XS.iloadN X304.here hx rfl (hb hby d3_16) rfl ?_
    show Steps p.tables e below (T304.setTop (mkF m 17 #[.val (.ref a0), .val (.ref a1), .val (.ref b304), .val (.int (0 : Int32))] [(.int (0 : Int32)), (.ref a0), (.int (0 : Int32)), (.ref b304)])) _
    refine X304.baloadBytes hx (j := (0 : Int32)) (v := (.int u0)) (by rw [e304]; exact Ar312.1) (State.isArrayOf_alike hZ.alike Ar312.2.1) Ar312.2.2 hin313 hat314 (g := (mkF m 17 #[.val (.ref a0), .val (.ref a1), .val (.ref b304), .val (.int (0 : Int32))] [(.int (0 : Int32)), (.ref a0), (.int (0 : Int32)), (.ref b304)])) rfl rfl (hb hby d3_17) _ ?_
    show Steps p.tables e below (T304.setTop (mkF m 18 #[.val (.ref a0), .val (.ref a1), .val (.ref b304), .val (.int (0 : Int32))] [(.int u0), (.int (0 : Int32)), (.ref b304)])) _
    refine XS.aloadN X304.here hx rfl (hb hby d3_18) rfl rfl ?_
    show Steps p.tables e below (T304.setTop (mkF m 19 #[.val (.ref a0), .val (.ref a1), .val (.ref b304), .val (.int (0 : Int32))] [(.ref a1), (.int u0), (.int (0 : Int32)), (.ref b304)])) _
    refine XS.iloadN X304.here hx rfl (hb hby d3_19) rfl ?_
    show Steps p.tables e below (T304.setTop (mkF m 20 #[.val (.ref a0), .val (.ref a1), .val (.ref b304), .val (.int (0 : Int32))] [(.int (0 : Int32)), (.ref a1), (.int u0), (.int (0 : Int32)), (.ref b304)])) _
    refine X304.baloadBytes hx (j := (0 : Int32)) (v := (.int w0)) (by rw [e304]; exact Ar315.1) (State.isArrayOf_alike hZ.alike Ar315.2.1) Ar315.2.2 hin316 hat317 (g := (mkF m 20 #[.val (.ref a0), .val (.ref a1), .val (.ref b304), .val (.int (0 : Int32))] [(.int (0 : Int32)), (.ref a1), (.int u0), (.int (0 : Int32)), (.ref b304)])) rfl rfl (hb hby d3_20) _ ?_
    show Steps p.tables e below (T304.setTop (mkF m 21 #[.val (.ref a0), .val (.ref a1), .val (.ref b304), .val (.int (0 : Int32))] [(.int w0), (.int u0), (.int (0 : Int32)), (.ref b304)])) _
    refine XS.ixor X304.here hx rfl (hb hby d3_21) rfl ?_
    show Steps p.tables e below (T304.setTop (mkF m 22 #[.val (.ref a0), .val (.ref a1), .val (.ref b304), .val (.int (0 : Int32))] [(.int (u0 ^^^ w0)), (.int (0 : Int32)), (.ref b304)])) _
    refine XS.i2b X304.here hx rfl (hb hby d3_22) rfl ?_
    show Steps p.tables e below (T304.setTop (mkF m 23 #[.val (.ref a0), .val (.ref a1), .val (.ref b304), .val (.int (0 : Int32))] [(.int ((u0 ^^^ w0).toInt8.toInt32)), (.int (0 : Int32)), (.ref b304)])) _
    refine st320 _ ?_
    show Steps p.tables e below (T320.setTop (mkF m 24 #[.val (.ref a0), .val (.ref a1), .val (.ref b304), .val (.int (0 : Int32))] [])) _
    refine XS.iinc X320.here hx rfl (hb hby d3_24) rfl (l' := #[.val (.ref a0), .val (.ref a1), .val (.ref b304), .val (.int (1 : Int32))]) rfl ?_
    show Steps p.tables e below (T320.setTop (mkF m 27 #[.val (.ref a0), .val (.ref a1), .val (.ref b304), .val (.int (1 : Int32))] [])) _
    refine XS.goto X320.here hx rfl (pc0 := 27) (pc' := 7) rfl (hb hby d3_27) (by decide) (by decide) ?_
    show Steps p.tables e below (T320.setTop (mkF m 7 #[.val (.ref a0), .val (.ref a1), .val (.ref b304), .val (.int (1 : Int32))] [])) _
    refine XS.iloadN X320.here hx rfl (hb hby d3_7) rfl ?_
    show Steps p.tables e below (T320.setTop (mkF m 8 #[.val (.ref a0), .val (.ref a1), .val (.ref b304), .val (.int (1 : Int32))] [(.int (1 : Int32))])) _
    refine XS.aloadN X320.here hx rfl (hb hby d3_8) rfl rfl ?_
    show Steps p.tables e below (T320.setTop (mkF m 9 #[.val (.ref a0), .val (.ref a1), .val (.ref b304), .val (.int (1 : Int32))] [(.ref a0), (.int (1 : Int32))])) _
    refine X320.arraylength hx (by rw [e320]; exact Ar327.1) (State.isArrayOf_alike hZ.alike Ar327.2.1) (g := (mkF m 9 #[.val (.ref a0), .val (.ref a1), .val (.ref b304), .val (.int (1 : Int32))] [(.ref a0), (.int (1 : Int32))])) rfl rfl (hb hby d3_9) _ ?_
    rw [len_of S327 M327]
    show Steps p.tables e below (T320.setTop (mkF m 10 #[.val (.ref a0), .val (.ref a1), .val (.ref b304), .val (.int (1 : Int32))] [(.int (3 : Int32)), (.int (1 : Int32))])) _
    refine XS.icmpNo X320.here hx rfl (hb hby d3_10) rfl (tlt (by decide : (1 : Int32) < (3 : Int32))).2.1 ?_
    show Steps p.tables e below (T320.setTop (mkF m 13 #[.val (.ref a0), .val (.ref a1), .val (.ref b304), .val (.int (1 : Int32))] [])) _
    refine XS.aloadN X320.here hx rfl (hb hby d3_13) rfl rfl ?_
    show Steps p.tables e below (T320.setTop (mkF m 14 #[.val (.ref a0), .val (.ref a1), .val (.ref b304), .val (.int (1 : Int32))] [(.ref b304)])) _
    refine XS.iloadN X320.here hx rfl (hb hby d3_14) rfl ?_
    show Steps p.tables e below (T320.setTop (mkF m 15 #[.val (.ref a0), .val (.ref a1), .val (.ref b304), .val (.int (1 : Int32))] [(.int (1 : Int32)), (.ref b304)])) _
    refine XS.aloadN X320.here hx rfl (hb hby d3_15) rfl rfl ?_
    show Steps p.tables e below (T320.setTop (mkF m 16 #[.val (.ref a0), .val (.ref a1), .val (.ref b304), .val (.int (1 : Int32))] [(.ref a0), (.int (1 : Int32)), (.ref b304)])) _
    refine XS.iloadN X320.here hx rfl (hb hby d3_16) rfl ?_
    show Steps p.tables e below (T320.setTop (mkF m 17 #[.val (.ref a0), .val (.ref a1), .val (.ref b304), .val (.int (1 : Int32))] [(.int (1 : Int32)), (.ref a0), (.int (1 : Int32)), (.ref b304)])) _
    refine X320.baloadBytes hx (j := (1 : Int32)) (v := (.int u1)) (by rw [e320]; exact Ar328.1) (State.isArrayOf_alike hZ.alike Ar328.2.1) Ar328.2.2 hin329 hat330 (g := (mkF m 17 #[.val (.ref a0), .val (.ref a1), .val (.ref b304), .val (.int (1 : Int32))] [(.int (1 : Int32)), (.ref a0), (.int (1 : Int32)), (.ref b304)])) rfl rfl (hb hby d3_17) _ ?_
    show Steps p.tables e below (T320.setTop (mkF m 18 #[.val (.ref a0), .val (.ref a1), .val (.ref b304), .val (.int (1 : Int32))] [(.int u1), (.int (1 : Int32)), (.ref b304)])) _
    refine XS.aloadN X320.here hx rfl (hb hby d3_18) rfl rfl ?_
    show Steps p.tables e below (T320.setTop (mkF m 19 #[.val (.ref a0), .val (.ref a1), .val (.ref b304), .val (.int (1 : Int32))] [(.ref a1), (.int u1), (.int (1 : Int32)), (.ref b304)])) _
    refine XS.iloadN X320.here hx rfl (hb hby d3_19) rfl ?_
    show Steps p.tables e below (T320.setTop (mkF m 20 #[.val (.ref a0), .val (.ref a1), .val (.ref b304), .val (.int (1 : Int32))] [(.int (1 : Int32)), (.ref a1), (.int u1), (.int (1 : Int32)), (.ref b304)])) _
    refine X320.baloadBytes hx (j := (1 : Int32)) (v := (.int w1)) (by rw [e320]; exact Ar331.1) (State.isArrayOf_alike hZ.alike Ar331.2.1) Ar331.2.2 hin332 hat333 (g := (mkF m 20 #[.val (.ref a0), .val (.ref a1), .val (.ref b304), .val (.int (1 : Int32))] [(.int (1 : Int32)), (.ref a1), (.int u1), (.int (1 : Int32)), (.ref b304)])) rfl rfl (hb hby d3_20) _ ?_
    show Steps p.tables e below (T320.setTop (mkF m 21 #[.val (.ref a0), .val (.ref a1), .val (.ref b304), .val (.int (1 : Int32))] [(.int w1), (.int u1), (.int (1 : Int32)), (.ref b304)])) _
    refine XS.ixor X320.here hx rfl (hb hby d3_21) rfl ?_
    show Steps p.tables e below (T320.setTop (mkF m 22 #[.val (.ref a0), .val (.ref a1), .val (.ref b304), .val (.int (1 : Int32))] [(.int (u1 ^^^ w1)), (.int (1 : Int32)), (.ref b304)])) _
    refine XS.i2b X320.here hx rfl (hb hby d3_22) rfl ?_
    show Steps p.tables e below (T320.setTop (mkF m 23 #[.val (.ref a0), .val (.ref a1), .val (.ref b304), .val (.int (1 : Int32))] [(.int ((u1 ^^^ w1).toInt8.toInt32)), (.int (1 : Int32)), (.ref b304)])) _
    refine st336 _ ?_
    show Steps p.tables e below (T336.setTop (mkF m 24 #[.val (.ref a0), .val (.ref a1), .val (.ref b304), .val (.int (1 : Int32))] [])) _
    refine XS.iinc X336.here hx rfl (hb hby d3_24) rfl (l' := #[.val (.ref a0), .val (.ref a1), .val (.ref b304), .val (.int (2 : Int32))]) rfl ?_
    show Steps p.tables e below (T336.setTop (mkF m 27 #[.val (.ref a0), .val (.ref a1), .val (.ref b304), .val (.int (2 : Int32))] [])) _
    refine XS.goto X336.here hx rfl (pc0 := 27) (pc' := 7) rfl (hb hby d3_27) (by decide) (by decide) ?_
    show Steps p.tables e below (T336.setTop (mkF m 7 #[.val (.ref a0), .val (.ref a1), .val (.ref b304), .val (.int (2 : Int32))] [])) _
    refine XS.iloadN X336.here hx rfl (hb hby d3_7) rfl ?_
    show Steps p.tables e below (T336.setTop (mkF m 8 #[.val (.ref a0), .val (.ref a1), .val (.ref b304), .val (.int (2 : Int32))] [(.int (2 : Int32))])) _
    refine XS.aloadN X336.here hx rfl (hb hby d3_8) rfl rfl ?_
    show Steps p.tables e below (T336.setTop (mkF m 9 #[.val (.ref a0), .val (.ref a1), .val (.ref b304), .val (.int (2 : Int32))] [(.ref a0), (.int (2 : Int32))])) _
    refine X336.arraylength hx (by rw [e336]; exact Ar343.1) (State.isArrayOf_alike hZ.alike Ar343.2.1) (g := (mkF m 9 #[.val (.ref a0), .val (.ref a1), .val (.ref b304), .val (.int (2 : Int32))] [(.ref a0), (.int (2 : Int32))])) rfl rfl (hb hby d3_9) _ ?_
    rw [len_of S343 M343]
    show Steps p.tables e below (T336.setTop (mkF m 10 #[.val (.ref a0), .val (.ref a1), .val (.ref b304), .val (.int (2 : Int32))] [(.int (3 : Int32)), (.int (2 : Int32))])) _
    refine XS.icmpNo X336.here hx rfl (hb hby d3_10) rfl (tlt (by decide : (2 : Int32) < (3 : Int32))).2.1 ?_
    show Steps p.tables e below (T336.setTop (mkF m 13 #[.val (.ref a0), .val (.ref a1), .val (.ref b304), .val (.int (2 : Int32))] [])) _
    refine XS.aloadN X336.here hx rfl (hb hby d3_13) rfl rfl ?_
    show Steps p.tables e below (T336.setTop (mkF m 14 #[.val (.ref a0), .val (.ref a1), .val (.ref b304), .val (.int (2 : Int32))] [(.ref b304)])) _
    refine XS.iloadN X336.here hx rfl (hb hby d3_14) rfl ?_
    show Steps p.tables e below (T336.setTop (mkF m 15 #[.val (.ref a0), .val (.ref a1), .val (.ref b304), .val (.int (2 : Int32))] [(.int (2 : Int32)), (.ref b304)])) _
    refine XS.aloadN X336.here hx rfl (hb hby d3_15) rfl rfl ?_
    show Steps p.tables e below (T336.setTop (mkF m 16 #[.val (.ref a0), .val (.ref a1), .val (.ref b304), .val (.int (2 : Int32))] [(.ref a0), (.int (2 : Int32)), (.ref b304)])) _
    refine XS.iloadN X336.here hx rfl (hb hby d3_16) rfl ?_
    show Steps p.tables e below (T336.setTop (mkF m 17 #[.val (.ref a0), .val (.ref a1), .val (.ref b304), .val (.int (2 : Int32))] [(.int (2 : Int32)), (.ref a0), (.int (2 : Int32)), (.ref b304)])) _
    refine X336.baloadBytes hx (j := (2 : Int32)) (v := (.int u2)) (by rw [e336]; exact Ar344.1) (State.isArrayOf_alike hZ.alike Ar344.2.1) Ar344.2.2 hin345 hat346 (g := (mkF m 17 #[.val (.ref a0), .val (.ref a1), .val (.ref b304), .val (.int (2 : Int32))] [(.int (2 : Int32)), (.ref a0), (.int (2 : Int32)), (.ref b304)])) rfl rfl (hb hby d3_17) _ ?_
    show Steps p.tables e below (T336.setTop (mkF m 18 #[.val (.ref a0), .val (.ref a1), .val (.ref b304), .val (.int (2 : Int32))] [(.int u2), (.int (2 : Int32)), (.ref b304)])) _
    refine XS.aloadN X336.here hx rfl (hb hby d3_18) rfl rfl ?_
    show Steps p.tables e below (T336.setTop (mkF m 19 #[.val (.ref a0), .val (.ref a1), .val (.ref b304), .val (.int (2 : Int32))] [(.ref a1), (.int u2), (.int (2 : Int32)), (.ref b304)])) _
    refine XS.iloadN X336.here hx rfl (hb hby d3_19) rfl ?_
    show Steps p.tables e below (T336.setTop (mkF m 20 #[.val (.ref a0), .val (.ref a1), .val (.ref b304), .val (.int (2 : Int32))] [(.int (2 : Int32)), (.ref a1), (.int u2), (.int (2 : Int32)), (.ref b304)])) _
    refine X336.baloadBytes hx (j := (2 : Int32)) (v := (.int w2)) (by rw [e336]; exact Ar347.1) (State.isArrayOf_alike hZ.alike Ar347.2.1) Ar347.2.2 hin348 hat349 (g := (mkF m 20 #[.val (.ref a0), .val (.ref a1), .val (.ref b304), .val (.int (2 : Int32))] [(.int (2 : Int32)), (.ref a1), (.int u2), (.int (2 : Int32)), (.ref b304)])) rfl rfl (hb hby d3_20) _ ?_
    show Steps p.tables e below (T336.setTop (mkF m 21 #[.val (.ref a0), .val (.ref a1), .val (.ref b304), .val (.int (2 : Int32))] [(.int w2), (.int u2), (.int (2 : Int32)), (.ref b304)])) _
    refine XS.ixor X336.here hx rfl (hb hby d3_21) rfl ?_
    show Steps p.tables e below (T336.setTop (mkF m 22 #[.val (.ref a0), .val (.ref a1), .val (.ref b304), .val (.int (2 : Int32))] [(.int (u2 ^^^ w2)), (.int (2 : Int32)), (.ref b304)])) _
    refine XS.i2b X336.here hx rfl (hb hby d3_22) rfl ?_
    show Steps p.tables e below (T336.setTop (mkF m 23 #[.val (.ref a0), .val (.ref a1), .val (.ref b304), .val (.int (2 : Int32))] [(.int ((u2 ^^^ w2).toInt8.toInt32)), (.int (2 : Int32)), (.ref b304)])) _
    refine st352 _ ?_
    show Steps p.tables e below (T352.setTop (mkF m 24 #[.val (.ref a0), .val (.ref a1), .val (.ref b304), .val (.int (2 : Int32))] [])) _
    refine XS.iinc X352.here hx rfl (hb hby d3_24) rfl (l' := #[.val (.ref a0), .val (.ref a1), .val (.ref b304), .val (.int (3 : Int32))]) rfl ?_
    show Steps p.tables e below (T352.setTop (mkF m 27 #[.val (.ref a0), .val (.ref a1), .val (.ref b304), .val (.int (3 : Int32))] [])) _
    refine XS.goto X352.here hx rfl (pc0 := 27) (pc' := 7) rfl (hb hby d3_27) (by decide) (by decide) ?_
    show Steps p.tables e below (T352.setTop (mkF m 7 #[.val (.ref a0), .val (.ref a1), .val (.ref b304), .val (.int (3 : Int32))] [])) _
    refine XS.iloadN X352.here hx rfl (hb hby d3_7) rfl ?_
    show Steps p.tables e below (T352.setTop (mkF m 8 #[.val (.ref a0), .val (.ref a1), .val (.ref b304), .val (.int (3 : Int32))] [(.int (3 : Int32))])) _
    refine XS.aloadN X352.here hx rfl (hb hby d3_8) rfl rfl ?_
    show Steps p.tables e below (T352.setTop (mkF m 9 #[.val (.ref a0), .val (.ref a1), .val (.ref b304), .val (.int (3 : Int32))] [(.ref a0), (.int (3 : Int32))])) _
    refine X352.arraylength hx (by rw [e352]; exact Ar359.1) (State.isArrayOf_alike hZ.alike Ar359.2.1) (g := (mkF m 9 #[.val (.ref a0), .val (.ref a1), .val (.ref b304), .val (.int (3 : Int32))] [(.ref a0), (.int (3 : Int32))])) rfl rfl (hb hby d3_9) _ ?_
    rw [len_of S359 M359]
    show Steps p.tables e below (T352.setTop (mkF m 10 #[.val (.ref a0), .val (.ref a1), .val (.ref b304), .val (.int (3 : Int32))] [(.int (3 : Int32)), (.int (3 : Int32))])) _
    refine XS.icmpYes X352.here hx rfl (pc0 := 10) (pc' := 30) rfl (hb hby d3_10) rfl (flt (by decide : ¬ ((3 : Int32) < (3 : Int32)))).2.1 (by decide) (by decide) ?_
    show Steps p.tables e below (T352.setTop (mkF m 30 #[.val (.ref a0), .val (.ref a1), .val (.ref b304), .val (.int (3 : Int32))] [])) _
    refine XS.aloadN X352.here hx rfl (hb hby d3_30) rfl rfl ?_
    show Steps p.tables e below (T352.setTop (mkF m 31 #[.val (.ref a0), .val (.ref a1), .val (.ref b304), .val (.int (3 : Int32))] [(.ref b304)])) _
    exact retOut X352 hx Bd.returns rfl (Or.inr (Or.inr (Or.inr (Or.inr ⟨rfl, rfl, rfl⟩)))) (hb hby d3_31) hr
  · show Q3_3_4 Z a0 a1 u0 u1 u2 w0 w1 w2 w3 k_a0 k_a1 h0 n0 _ T352.heap _
    rw [e352]
    exact ⟨b304, k304, rfl, N358, K356, g_b304, sz_b304, V352⟩
theorem d4_0 : decode method_5_code 0 = .ok (.aload_n 0, 1) := by decide +kernel
theorem d4_1 : decode method_5_code 1 = .ok (.iload_n 1, 1) := by decide +kernel
theorem d4_2 : decode method_5_code 2 = .ok (.baload, 1) := by decide +kernel
theorem d4_3 : decode method_5_code 3 = .ok (.iload_n 2, 1) := by decide +kernel
theorem d4_4 : decode method_5_code 4 = .ok (.iload_n 1, 1) := by decide +kernel
theorem d4_5 : decode method_5_code 5 = .ok (.invokestatic 27, 3) := by decide +kernel
theorem d4_8 : decode method_5_code 8 = .ok (.iload_n 3, 1) := by decide +kernel
theorem d4_9 : decode method_5_code 9 = .ok (.iload_n 1, 1) := by decide +kernel
theorem d4_10 : decode method_5_code 10 = .ok (.invokestatic 27, 3) := by decide +kernel
theorem d4_13 : decode method_5_code 13 = .ok (.ixor, 1) := by decide +kernel
theorem d4_14 : decode method_5_code 14 = .ok (.i2b, 1) := by decide +kernel
theorem d4_15 : decode method_5_code 15 = .ok (.if_icmp .ne 7, 3) := by decide +kernel
theorem d4_18 : decode method_5_code 18 = .ok (.iconst 1, 1) := by decide +kernel
theorem d4_19 : decode method_5_code 19 = .ok (.goto 4, 3) := by decide +kernel
theorem d4_23 : decode method_5_code 23 = .ok (.ireturn, 1) := by decide +kernel
theorem ef4_1_0 (m : MethodId) (x0 : Addr) (x1 : Int32) (x2 : Int32) (x3 : Int32) : entryFrame m #[(.ref x0), (.int x1), (.int x2), (.int x3)] 4 = mkF m 0 #[.val (.ref x0), .val (.int x1), .val (.int x2), .val (.int x3)] [] := by first | (simp [entryFrame, mkF, argsToLocals, Value.category]; done) | rfl
abbrev rr4_1_0 : Room := { frames := 1, cells := 0, slots := 0, locals := 15 }
def Q4_1_0 (Z : State) (a0 : Addr) (p2 : Int32) (p3 : Int32) (k_a0 : ClassId) (h0 : Heap) (n0 : Nat) (v : Option Value) (h : Heap) (L : List Loc) : Prop := v = some (.int (1 : Int32)) ∧ Fr n0 L ∧ h = h0
set_option maxRecDepth 65536 in
set_option maxHeartbeats 40000000 in
theorem rm4_1_0 (l : Launch) (Z : State) (aw : Array Value) (hw : ∀ d ∈ tables_1, d.before aw Z = true) (ws : List Jvm.Cond) (a0 : Addr) (p2 : Int32) (p3 : Int32) (k_a0 : ClassId) (h0 : Heap) (n0 : Nat) (Z0 : n0 ≤ h0.size) (V_a0 : Arv Z h0 a0 k_a0 .byte (1 : Int32) [(.int (nar .byte (((nar .byte (nar .byte (((p2.toUInt32 >>> (((8 : Int32) * (0 : Int32)) &&& 31).toUInt32).toInt32).toInt8.toInt32))) ^^^ (nar .byte (nar .byte (((p3.toUInt32 >>> (((8 : Int32) * (0 : Int32)) &&& 31).toUInt32).toInt32).toInt8.toInt32)))).toInt8.toInt32)))] (.int (0 : Int32))) :
    MetFree l (⟨"com/example/rollcall/rollcall/bench/MilenageXorPinLaw", "at", "([BIII)Z"⟩ : MethodName) (head1 (Jvm.Cond.code (⟨"com/example/rollcall/rollcall/bench/MilenageXorPinLaw", "at", "([BIII)Z"⟩ : MethodName) method_5_code 4 (some .boolean) :: ws) rr4_1_0) (fun a U => a = #[(.ref a0), (.int (0 : Int32)), (.int p2), (.int p3)] ∧ Z.Warmed39 U.vm ∧ U.heap = h0) (fun _ _ _ _ _ => True) (fun _ U o U' => ∃ v L, o = .returned v ∧ Q4_1_0 Z a0 p2 p3 k_a0 h0 n0 v U'.heap L ∧ FrameEnd U o U' L rr4_1_0.cells rr4_1_0.slots) := by
  refine MetFree.of_bodySF (plainFor_of_name pn_1) hisR ?_
  intro p e s m args below meth c s₁ Bd hml0 hP hK
  obtain ⟨rfl, hZ, hh⟩ := hP
  have hx := Bd.exec
  have hby := Bd.bytes
  have hml : c.maxLocals = 4 := hml0
  have hown : s.vm.findClass "com/example/rollcall/rollcall/bench/MilenageXorPinLaw" = some m.cls := findClass_of_methodNamed Bd.named
  have hnm := (name_of_methodNamed Bd.named Bd.method).1
  have X0 : Stand p l e rr4_1_0 s m #[(.ref a0), (.int (0 : Int32)), (.int p2), (.int p3)] below meth c s₁ [] 0 0 := Stand.of_body Bd
  have e0 : s₁.heap = h0 := by rw [← hh, Bd.state]; rfl
  have N0 := Fr.nil n0
  have pre0 : ∀ t, Steps p.tables e below (s₁.setTop (mkF m 0 #[.val (.ref a0), .val (.int (0 : Int32)), .val (.int p2), .val (.int p3)] [])) t → Steps p.tables e below (s₁.setTop (entryFrame m #[(.ref a0), (.int (0 : Int32)), (.int p2), (.int p3)] 4)) t := fun t k => castTop (ef4_1_0 m a0 (0 : Int32) p2 p3) k
  obtain ⟨cl360, Ar360, q360, S360, M360, H360, G360⟩ := id V_a0
  have hin361 : ¬ ((0 : Int32) < 0 ∨ cl360.slots.size ≤ ((0 : Int32)).toNatClampNeg) := inb_of S360 ⟨by decide, by decide⟩
  have hat362 : cl360.slots[((0 : Int32)).toNatClampNeg]? = some (.int (nar .byte (((nar .byte (nar .byte (((p2.toUInt32 >>> (((8 : Int32) * (0 : Int32)) &&& 31).toUInt32).toInt32).toInt8.toInt32))) ^^^ (nar .byte (nar .byte (((p3.toUInt32 >>> (((8 : Int32) * (0 : Int32)) &&& 31).toUInt32).toInt32).toInt8.toInt32)))).toInt8.toInt32))) := H360.at hin361 rfl
  obtain ⟨_, _, ⟨T363, L363, k363, n363⟩, -, X363, ⟨Lc363, hQ363, l363, y363, z363⟩, st363⟩ := Jvm.LawKit.callS X0 hx (y := (⟨"com/example/rollcall/rollcall/bench/MilenageXorPinLaw", "oct", "(II)B"⟩ : MethodName)) hown (mvT hZ (hw _ (List.mem_of_getElem? (i := 5) rfl))) (mvT hZ (hw _ (List.mem_of_getElem? (i := 6) rfl))) (mvT hZ (hw _ (List.mem_of_getElem? (i := 2) rfl))) (mvT hZ (hw _ (List.mem_of_getElem? (i := 7) rfl))) (by decide) (backOf (W := 1) (rm2 l Z aw hw [] p2 ((0 : Int32)) h0 n0 Z0 ) hZ (hw _ (List.mem_of_getElem? (i := 7) rfl)) (hw _ (List.mem_of_getElem? (i := 2) rfl)) (by decide) (by decide)) (g := (mkF m 5 #[.val (.ref a0), .val (.int (0 : Int32)), .val (.int p2), .val (.int p3)] [(.int (0 : Int32)), (.int p2), (.int (nar .byte (((nar .byte (nar .byte (((p2.toUInt32 >>> (((8 : Int32) * (0 : Int32)) &&& 31).toUInt32).toInt32).toInt8.toInt32))) ^^^ (nar .byte (nar .byte (((p3.toUInt32 >>> (((8 : Int32) * (0 : Int32)) &&& 31).toUInt32).toInt32).toInt8.toInt32)))).toInt8.toInt32)))])) rfl (by rw [hml]; rfl) (argsL := [(.int p2), (.int (0 : Int32))]) (rest := [(.int (nar .byte (((nar .byte (nar .byte (((p2.toUInt32 >>> (((8 : Int32) * (0 : Int32)) &&& 31).toUInt32).toInt32).toInt8.toInt32))) ^^^ (nar .byte (nar .byte (((p3.toUInt32 >>> (((8 : Int32) * (0 : Int32)) &&& 31).toUInt32).toInt32).toInt8.toInt32)))).toInt8.toInt32)))]) (lenOf pd_1 rfl) rfl (by show 2 * 0 + _ ≤ _; exact Nat.le_of_eq rfl) (hb hby d4_5) (fun _ _ => ⟨rfl, e0, (by decide : 0 + 0 ≤ _), (by decide : 0 + 0 ≤ _)⟩)
  dsimp only [Pt.U, Pt.locs, Pt.cells, Pt.slots] at X363 l363 y363 z363 st363 hQ363
  subst l363 y363 z363
  obtain ⟨rfl, N363q, e363⟩ := hQ363
  have N363 := Fr.app N0 N363q
  obtain ⟨_, _, ⟨T364, L364, k364, n364⟩, -, X364, ⟨Lc364, hQ364, l364, y364, z364⟩, st364⟩ := Jvm.LawKit.callS X363 hx (y := (⟨"com/example/rollcall/rollcall/bench/MilenageXorPinLaw", "oct", "(II)B"⟩ : MethodName)) hown (mvT hZ (hw _ (List.mem_of_getElem? (i := 5) rfl))) (mvT hZ (hw _ (List.mem_of_getElem? (i := 6) rfl))) (mvT hZ (hw _ (List.mem_of_getElem? (i := 2) rfl))) (mvT hZ (hw _ (List.mem_of_getElem? (i := 7) rfl))) (by decide) (backOf (W := 2) (rm2 l Z aw hw [] p3 ((0 : Int32)) h0 n0 Z0 ) hZ (hw _ (List.mem_of_getElem? (i := 7) rfl)) (hw _ (List.mem_of_getElem? (i := 2) rfl)) (by decide) (by decide)) (g := (mkF m 10 #[.val (.ref a0), .val (.int (0 : Int32)), .val (.int p2), .val (.int p3)] [(.int (0 : Int32)), (.int p3), (.int (nar .byte (((p2.toUInt32 >>> (((8 : Int32) * (0 : Int32)) &&& 31).toUInt32).toInt32).toInt8.toInt32))), (.int (nar .byte (((nar .byte (nar .byte (((p2.toUInt32 >>> (((8 : Int32) * (0 : Int32)) &&& 31).toUInt32).toInt32).toInt8.toInt32))) ^^^ (nar .byte (nar .byte (((p3.toUInt32 >>> (((8 : Int32) * (0 : Int32)) &&& 31).toUInt32).toInt32).toInt8.toInt32)))).toInt8.toInt32)))])) rfl (by rw [hml]; rfl) (argsL := [(.int p3), (.int (0 : Int32))]) (rest := [(.int (nar .byte (((p2.toUInt32 >>> (((8 : Int32) * (0 : Int32)) &&& 31).toUInt32).toInt32).toInt8.toInt32))), (.int (nar .byte (((nar .byte (nar .byte (((p2.toUInt32 >>> (((8 : Int32) * (0 : Int32)) &&& 31).toUInt32).toInt32).toInt8.toInt32))) ^^^ (nar .byte (nar .byte (((p3.toUInt32 >>> (((8 : Int32) * (0 : Int32)) &&& 31).toUInt32).toInt32).toInt8.toInt32)))).toInt8.toInt32)))]) (lenOf pd_1 rfl) rfl (by show 2 * 0 + _ ≤ _; exact Nat.le_of_eq rfl) (hb hby d4_10) (fun _ _ => ⟨rfl, e363, (by decide : 0 + 0 ≤ _), (by decide : 0 + 0 ≤ _)⟩)
  dsimp only [Pt.U, Pt.locs, Pt.cells, Pt.slots] at X364 l364 y364 z364 st364 hQ364
  subst l364 y364 z364
  obtain ⟨rfl, N364q, e364⟩ := hQ364
  have N364 := Fr.app N363 N364q
  obtain ⟨fs, hr, hrun, hended, hW, hsame⟩ := X364.leave (v := some (.int (1 : Int32))) (fun h => by rw [Bd.returns] at h; cases h)
  refine ⟨_, _, pre0 _ ?_, hrun, hended, _, _, rfl, ?_, ⟨_, rfl⟩, hW, hsame.mono (by decide) (by decide)⟩
  · skip
    show Steps p.tables e below (s₁.setTop (mkF m 0 #[.val (.ref a0), .val (.int (0 : Int32)), .val (.int p2), .val (.int p3)] [])) _
    refine XS.aloadN X0.here hx rfl (hb hby d4_0) rfl rfl ?_
    show Steps p.tables e below (s₁.setTop (mkF m 1 #[.val (.ref a0), .val (.int (0 : Int32)), .val (.int p2), .val (.int p3)] [(.ref a0)])) _
    refine XS.iloadN X0.here hx rfl (hb hby d4_1) rfl ?_
    show Steps p.tables e below (s₁.setTop (mkF m 2 #[.val (.ref a0), .val (.int (0 : Int32)), .val (.int p2), .val (.int p3)] [(.int (0 : Int32)), (.ref a0)])) _
    refine X0.baloadBytes hx (j := (0 : Int32)) (v := (.int (nar .byte (((nar .byte (nar .byte (((p2.toUInt32 >>> (((8 : Int32) * (0 : Int32)) &&& 31).toUInt32).toInt32).toInt8.toInt32))) ^^^ (nar .byte (nar .byte (((p3.toUInt32 >>> (((8 : Int32) * (0 : Int32)) &&& 31).toUInt32).toInt32).toInt8.toInt32)))).toInt8.toInt32)))) (by rw [e0]; exact Ar360.1) (State.isArrayOf_alike hZ.alike Ar360.2.1) Ar360.2.2 hin361 hat362 (g := (mkF m 2 #[.val (.ref a0), .val (.int (0 : Int32)), .val (.int p2), .val (.int p3)] [(.int (0 : Int32)), (.ref a0)])) rfl rfl (hb hby d4_2) _ ?_
    show Steps p.tables e below (s₁.setTop (mkF m 3 #[.val (.ref a0), .val (.int (0 : Int32)), .val (.int p2), .val (.int p3)] [(.int (nar .byte (((nar .byte (nar .byte (((p2.toUInt32 >>> (((8 : Int32) * (0 : Int32)) &&& 31).toUInt32).toInt32).toInt8.toInt32))) ^^^ (nar .byte (nar .byte (((p3.toUInt32 >>> (((8 : Int32) * (0 : Int32)) &&& 31).toUInt32).toInt32).toInt8.toInt32)))).toInt8.toInt32)))])) _
    refine XS.iloadN X0.here hx rfl (hb hby d4_3) rfl ?_
    show Steps p.tables e below (s₁.setTop (mkF m 4 #[.val (.ref a0), .val (.int (0 : Int32)), .val (.int p2), .val (.int p3)] [(.int p2), (.int (nar .byte (((nar .byte (nar .byte (((p2.toUInt32 >>> (((8 : Int32) * (0 : Int32)) &&& 31).toUInt32).toInt32).toInt8.toInt32))) ^^^ (nar .byte (nar .byte (((p3.toUInt32 >>> (((8 : Int32) * (0 : Int32)) &&& 31).toUInt32).toInt32).toInt8.toInt32)))).toInt8.toInt32)))])) _
    refine XS.iloadN X0.here hx rfl (hb hby d4_4) rfl ?_
    show Steps p.tables e below (s₁.setTop (mkF m 5 #[.val (.ref a0), .val (.int (0 : Int32)), .val (.int p2), .val (.int p3)] [(.int (0 : Int32)), (.int p2), (.int (nar .byte (((nar .byte (nar .byte (((p2.toUInt32 >>> (((8 : Int32) * (0 : Int32)) &&& 31).toUInt32).toInt32).toInt8.toInt32))) ^^^ (nar .byte (nar .byte (((p3.toUInt32 >>> (((8 : Int32) * (0 : Int32)) &&& 31).toUInt32).toInt32).toInt8.toInt32)))).toInt8.toInt32)))])) _
    refine st363 _ ?_
    show Steps p.tables e below (T363.setTop (mkF m 8 #[.val (.ref a0), .val (.int (0 : Int32)), .val (.int p2), .val (.int p3)] [(.int (nar .byte (((p2.toUInt32 >>> (((8 : Int32) * (0 : Int32)) &&& 31).toUInt32).toInt32).toInt8.toInt32))), (.int (nar .byte (((nar .byte (nar .byte (((p2.toUInt32 >>> (((8 : Int32) * (0 : Int32)) &&& 31).toUInt32).toInt32).toInt8.toInt32))) ^^^ (nar .byte (nar .byte (((p3.toUInt32 >>> (((8 : Int32) * (0 : Int32)) &&& 31).toUInt32).toInt32).toInt8.toInt32)))).toInt8.toInt32)))])) _
    refine XS.iloadN X363.here hx rfl (hb hby d4_8) rfl ?_
    show Steps p.tables e below (T363.setTop (mkF m 9 #[.val (.ref a0), .val (.int (0 : Int32)), .val (.int p2), .val (.int p3)] [(.int p3), (.int (nar .byte (((p2.toUInt32 >>> (((8 : Int32) * (0 : Int32)) &&& 31).toUInt32).toInt32).toInt8.toInt32))), (.int (nar .byte (((nar .byte (nar .byte (((p2.toUInt32 >>> (((8 : Int32) * (0 : Int32)) &&& 31).toUInt32).toInt32).toInt8.toInt32))) ^^^ (nar .byte (nar .byte (((p3.toUInt32 >>> (((8 : Int32) * (0 : Int32)) &&& 31).toUInt32).toInt32).toInt8.toInt32)))).toInt8.toInt32)))])) _
    refine XS.iloadN X363.here hx rfl (hb hby d4_9) rfl ?_
    show Steps p.tables e below (T363.setTop (mkF m 10 #[.val (.ref a0), .val (.int (0 : Int32)), .val (.int p2), .val (.int p3)] [(.int (0 : Int32)), (.int p3), (.int (nar .byte (((p2.toUInt32 >>> (((8 : Int32) * (0 : Int32)) &&& 31).toUInt32).toInt32).toInt8.toInt32))), (.int (nar .byte (((nar .byte (nar .byte (((p2.toUInt32 >>> (((8 : Int32) * (0 : Int32)) &&& 31).toUInt32).toInt32).toInt8.toInt32))) ^^^ (nar .byte (nar .byte (((p3.toUInt32 >>> (((8 : Int32) * (0 : Int32)) &&& 31).toUInt32).toInt32).toInt8.toInt32)))).toInt8.toInt32)))])) _
    refine st364 _ ?_
    show Steps p.tables e below (T364.setTop (mkF m 13 #[.val (.ref a0), .val (.int (0 : Int32)), .val (.int p2), .val (.int p3)] [(.int (nar .byte (((p3.toUInt32 >>> (((8 : Int32) * (0 : Int32)) &&& 31).toUInt32).toInt32).toInt8.toInt32))), (.int (nar .byte (((p2.toUInt32 >>> (((8 : Int32) * (0 : Int32)) &&& 31).toUInt32).toInt32).toInt8.toInt32))), (.int (nar .byte (((nar .byte (nar .byte (((p2.toUInt32 >>> (((8 : Int32) * (0 : Int32)) &&& 31).toUInt32).toInt32).toInt8.toInt32))) ^^^ (nar .byte (nar .byte (((p3.toUInt32 >>> (((8 : Int32) * (0 : Int32)) &&& 31).toUInt32).toInt32).toInt8.toInt32)))).toInt8.toInt32)))])) _
    refine XS.ixor X364.here hx rfl (hb hby d4_13) rfl ?_
    show Steps p.tables e below (T364.setTop (mkF m 14 #[.val (.ref a0), .val (.int (0 : Int32)), .val (.int p2), .val (.int p3)] [(.int ((nar .byte (((p2.toUInt32 >>> (((8 : Int32) * (0 : Int32)) &&& 31).toUInt32).toInt32).toInt8.toInt32)) ^^^ (nar .byte (((p3.toUInt32 >>> (((8 : Int32) * (0 : Int32)) &&& 31).toUInt32).toInt32).toInt8.toInt32)))), (.int (nar .byte (((nar .byte (nar .byte (((p2.toUInt32 >>> (((8 : Int32) * (0 : Int32)) &&& 31).toUInt32).toInt32).toInt8.toInt32))) ^^^ (nar .byte (nar .byte (((p3.toUInt32 >>> (((8 : Int32) * (0 : Int32)) &&& 31).toUInt32).toInt32).toInt8.toInt32)))).toInt8.toInt32)))])) _
    refine XS.i2b X364.here hx rfl (hb hby d4_14) rfl ?_
    show Steps p.tables e below (T364.setTop (mkF m 15 #[.val (.ref a0), .val (.int (0 : Int32)), .val (.int p2), .val (.int p3)] [(.int (((nar .byte (((p2.toUInt32 >>> (((8 : Int32) * (0 : Int32)) &&& 31).toUInt32).toInt32).toInt8.toInt32)) ^^^ (nar .byte (((p3.toUInt32 >>> (((8 : Int32) * (0 : Int32)) &&& 31).toUInt32).toInt32).toInt8.toInt32))).toInt8.toInt32)), (.int (nar .byte (((nar .byte (nar .byte (((p2.toUInt32 >>> (((8 : Int32) * (0 : Int32)) &&& 31).toUInt32).toInt32).toInt8.toInt32))) ^^^ (nar .byte (nar .byte (((p3.toUInt32 >>> (((8 : Int32) * (0 : Int32)) &&& 31).toUInt32).toInt32).toInt8.toInt32)))).toInt8.toInt32)))])) _
    refine XS.icmpNo X364.here hx rfl (hb hby d4_15) rfl (teq (own_xx _ _)).2 ?_
    show Steps p.tables e below (T364.setTop (mkF m 18 #[.val (.ref a0), .val (.int (0 : Int32)), .val (.int p2), .val (.int p3)] [])) _
    refine XS.iconst X364.here hx rfl (hb hby d4_18) ?_
    show Steps p.tables e below (T364.setTop (mkF m 19 #[.val (.ref a0), .val (.int (0 : Int32)), .val (.int p2), .val (.int p3)] [(.int (1 : Int32))])) _
    refine XS.goto X364.here hx rfl (pc0 := 19) (pc' := 23) rfl (hb hby d4_19) (by decide) (by decide) ?_
    show Steps p.tables e below (T364.setTop (mkF m 23 #[.val (.ref a0), .val (.int (0 : Int32)), .val (.int p2), .val (.int p3)] [(.int (1 : Int32))])) _
    exact retN X364 hx (t := .boolean) Bd.returns (by simp) (hb hby d4_23) hr
  · show Q4_1_0 Z a0 p2 p3 k_a0 h0 n0 _ T364.heap _
    rw [e364]
    exact ⟨rfl, N364, rfl⟩
theorem ef4_2_0 (m : MethodId) (x0 : Addr) (x1 : Int32) (x2 : Int32) (x3 : Int32) : entryFrame m #[(.ref x0), (.int x1), (.int x2), (.int x3)] 4 = mkF m 0 #[.val (.ref x0), .val (.int x1), .val (.int x2), .val (.int x3)] [] := by first | (simp [entryFrame, mkF, argsToLocals, Value.category]; done) | rfl
abbrev rr4_2_0 : Room := { frames := 1, cells := 0, slots := 0, locals := 15 }
def Q4_2_0 (Z : State) (a0 : Addr) (p2 : Int32) (p3 : Int32) (k_a0 : ClassId) (h0 : Heap) (n0 : Nat) (v : Option Value) (h : Heap) (L : List Loc) : Prop := v = some (.int (1 : Int32)) ∧ Fr n0 L ∧ h = h0
set_option maxRecDepth 65536 in
set_option maxHeartbeats 40000000 in
theorem rm4_2_0 (l : Launch) (Z : State) (aw : Array Value) (hw : ∀ d ∈ tables_1, d.before aw Z = true) (ws : List Jvm.Cond) (a0 : Addr) (p2 : Int32) (p3 : Int32) (k_a0 : ClassId) (h0 : Heap) (n0 : Nat) (Z0 : n0 ≤ h0.size) (V_a0 : Arv Z h0 a0 k_a0 .byte (2 : Int32) [(.int (nar .byte (((nar .byte (nar .byte (((p2.toUInt32 >>> (((8 : Int32) * (0 : Int32)) &&& 31).toUInt32).toInt32).toInt8.toInt32))) ^^^ (nar .byte (nar .byte (((p3.toUInt32 >>> (((8 : Int32) * (0 : Int32)) &&& 31).toUInt32).toInt32).toInt8.toInt32)))).toInt8.toInt32))), (.int (nar .byte (((nar .byte (nar .byte (((p2.toUInt32 >>> (((8 : Int32) * (1 : Int32)) &&& 31).toUInt32).toInt32).toInt8.toInt32))) ^^^ (nar .byte (nar .byte (((p3.toUInt32 >>> (((8 : Int32) * (1 : Int32)) &&& 31).toUInt32).toInt32).toInt8.toInt32)))).toInt8.toInt32)))] (.int (0 : Int32))) :
    MetFree l (⟨"com/example/rollcall/rollcall/bench/MilenageXorPinLaw", "at", "([BIII)Z"⟩ : MethodName) (head1 (Jvm.Cond.code (⟨"com/example/rollcall/rollcall/bench/MilenageXorPinLaw", "at", "([BIII)Z"⟩ : MethodName) method_5_code 4 (some .boolean) :: ws) rr4_2_0) (fun a U => a = #[(.ref a0), (.int (0 : Int32)), (.int p2), (.int p3)] ∧ Z.Warmed39 U.vm ∧ U.heap = h0) (fun _ _ _ _ _ => True) (fun _ U o U' => ∃ v L, o = .returned v ∧ Q4_2_0 Z a0 p2 p3 k_a0 h0 n0 v U'.heap L ∧ FrameEnd U o U' L rr4_2_0.cells rr4_2_0.slots) := by
  refine MetFree.of_bodySF (plainFor_of_name pn_1) hisR ?_
  intro p e s m args below meth c s₁ Bd hml0 hP hK
  obtain ⟨rfl, hZ, hh⟩ := hP
  have hx := Bd.exec
  have hby := Bd.bytes
  have hml : c.maxLocals = 4 := hml0
  have hown : s.vm.findClass "com/example/rollcall/rollcall/bench/MilenageXorPinLaw" = some m.cls := findClass_of_methodNamed Bd.named
  have hnm := (name_of_methodNamed Bd.named Bd.method).1
  have X0 : Stand p l e rr4_2_0 s m #[(.ref a0), (.int (0 : Int32)), (.int p2), (.int p3)] below meth c s₁ [] 0 0 := Stand.of_body Bd
  have e0 : s₁.heap = h0 := by rw [← hh, Bd.state]; rfl
  have N0 := Fr.nil n0
  have pre0 : ∀ t, Steps p.tables e below (s₁.setTop (mkF m 0 #[.val (.ref a0), .val (.int (0 : Int32)), .val (.int p2), .val (.int p3)] [])) t → Steps p.tables e below (s₁.setTop (entryFrame m #[(.ref a0), (.int (0 : Int32)), (.int p2), (.int p3)] 4)) t := fun t k => castTop (ef4_2_0 m a0 (0 : Int32) p2 p3) k
  obtain ⟨cl365, Ar365, q365, S365, M365, H365, G365⟩ := id V_a0
  have hin366 : ¬ ((0 : Int32) < 0 ∨ cl365.slots.size ≤ ((0 : Int32)).toNatClampNeg) := inb_of S365 ⟨by decide, by decide⟩
  have hat367 : cl365.slots[((0 : Int32)).toNatClampNeg]? = some (.int (nar .byte (((nar .byte (nar .byte (((p2.toUInt32 >>> (((8 : Int32) * (0 : Int32)) &&& 31).toUInt32).toInt32).toInt8.toInt32))) ^^^ (nar .byte (nar .byte (((p3.toUInt32 >>> (((8 : Int32) * (0 : Int32)) &&& 31).toUInt32).toInt32).toInt8.toInt32)))).toInt8.toInt32))) := H365.at hin366 rfl
  obtain ⟨_, _, ⟨T368, L368, k368, n368⟩, -, X368, ⟨Lc368, hQ368, l368, y368, z368⟩, st368⟩ := Jvm.LawKit.callS X0 hx (y := (⟨"com/example/rollcall/rollcall/bench/MilenageXorPinLaw", "oct", "(II)B"⟩ : MethodName)) hown (mvT hZ (hw _ (List.mem_of_getElem? (i := 5) rfl))) (mvT hZ (hw _ (List.mem_of_getElem? (i := 6) rfl))) (mvT hZ (hw _ (List.mem_of_getElem? (i := 2) rfl))) (mvT hZ (hw _ (List.mem_of_getElem? (i := 7) rfl))) (by decide) (backOf (W := 1) (rm2 l Z aw hw [] p2 ((0 : Int32)) h0 n0 Z0 ) hZ (hw _ (List.mem_of_getElem? (i := 7) rfl)) (hw _ (List.mem_of_getElem? (i := 2) rfl)) (by decide) (by decide)) (g := (mkF m 5 #[.val (.ref a0), .val (.int (0 : Int32)), .val (.int p2), .val (.int p3)] [(.int (0 : Int32)), (.int p2), (.int (nar .byte (((nar .byte (nar .byte (((p2.toUInt32 >>> (((8 : Int32) * (0 : Int32)) &&& 31).toUInt32).toInt32).toInt8.toInt32))) ^^^ (nar .byte (nar .byte (((p3.toUInt32 >>> (((8 : Int32) * (0 : Int32)) &&& 31).toUInt32).toInt32).toInt8.toInt32)))).toInt8.toInt32)))])) rfl (by rw [hml]; rfl) (argsL := [(.int p2), (.int (0 : Int32))]) (rest := [(.int (nar .byte (((nar .byte (nar .byte (((p2.toUInt32 >>> (((8 : Int32) * (0 : Int32)) &&& 31).toUInt32).toInt32).toInt8.toInt32))) ^^^ (nar .byte (nar .byte (((p3.toUInt32 >>> (((8 : Int32) * (0 : Int32)) &&& 31).toUInt32).toInt32).toInt8.toInt32)))).toInt8.toInt32)))]) (lenOf pd_1 rfl) rfl (by show 2 * 0 + _ ≤ _; exact Nat.le_of_eq rfl) (hb hby d4_5) (fun _ _ => ⟨rfl, e0, (by decide : 0 + 0 ≤ _), (by decide : 0 + 0 ≤ _)⟩)
  dsimp only [Pt.U, Pt.locs, Pt.cells, Pt.slots] at X368 l368 y368 z368 st368 hQ368
  subst l368 y368 z368
  obtain ⟨rfl, N368q, e368⟩ := hQ368
  have N368 := Fr.app N0 N368q
  obtain ⟨_, _, ⟨T369, L369, k369, n369⟩, -, X369, ⟨Lc369, hQ369, l369, y369, z369⟩, st369⟩ := Jvm.LawKit.callS X368 hx (y := (⟨"com/example/rollcall/rollcall/bench/MilenageXorPinLaw", "oct", "(II)B"⟩ : MethodName)) hown (mvT hZ (hw _ (List.mem_of_getElem? (i := 5) rfl))) (mvT hZ (hw _ (List.mem_of_getElem? (i := 6) rfl))) (mvT hZ (hw _ (List.mem_of_getElem? (i := 2) rfl))) (mvT hZ (hw _ (List.mem_of_getElem? (i := 7) rfl))) (by decide) (backOf (W := 2) (rm2 l Z aw hw [] p3 ((0 : Int32)) h0 n0 Z0 ) hZ (hw _ (List.mem_of_getElem? (i := 7) rfl)) (hw _ (List.mem_of_getElem? (i := 2) rfl)) (by decide) (by decide)) (g := (mkF m 10 #[.val (.ref a0), .val (.int (0 : Int32)), .val (.int p2), .val (.int p3)] [(.int (0 : Int32)), (.int p3), (.int (nar .byte (((p2.toUInt32 >>> (((8 : Int32) * (0 : Int32)) &&& 31).toUInt32).toInt32).toInt8.toInt32))), (.int (nar .byte (((nar .byte (nar .byte (((p2.toUInt32 >>> (((8 : Int32) * (0 : Int32)) &&& 31).toUInt32).toInt32).toInt8.toInt32))) ^^^ (nar .byte (nar .byte (((p3.toUInt32 >>> (((8 : Int32) * (0 : Int32)) &&& 31).toUInt32).toInt32).toInt8.toInt32)))).toInt8.toInt32)))])) rfl (by rw [hml]; rfl) (argsL := [(.int p3), (.int (0 : Int32))]) (rest := [(.int (nar .byte (((p2.toUInt32 >>> (((8 : Int32) * (0 : Int32)) &&& 31).toUInt32).toInt32).toInt8.toInt32))), (.int (nar .byte (((nar .byte (nar .byte (((p2.toUInt32 >>> (((8 : Int32) * (0 : Int32)) &&& 31).toUInt32).toInt32).toInt8.toInt32))) ^^^ (nar .byte (nar .byte (((p3.toUInt32 >>> (((8 : Int32) * (0 : Int32)) &&& 31).toUInt32).toInt32).toInt8.toInt32)))).toInt8.toInt32)))]) (lenOf pd_1 rfl) rfl (by show 2 * 0 + _ ≤ _; exact Nat.le_of_eq rfl) (hb hby d4_10) (fun _ _ => ⟨rfl, e368, (by decide : 0 + 0 ≤ _), (by decide : 0 + 0 ≤ _)⟩)
  dsimp only [Pt.U, Pt.locs, Pt.cells, Pt.slots] at X369 l369 y369 z369 st369 hQ369
  subst l369 y369 z369
  obtain ⟨rfl, N369q, e369⟩ := hQ369
  have N369 := Fr.app N368 N369q
  obtain ⟨fs, hr, hrun, hended, hW, hsame⟩ := X369.leave (v := some (.int (1 : Int32))) (fun h => by rw [Bd.returns] at h; cases h)
  refine ⟨_, _, pre0 _ ?_, hrun, hended, _, _, rfl, ?_, ⟨_, rfl⟩, hW, hsame.mono (by decide) (by decide)⟩
  · skip
    show Steps p.tables e below (s₁.setTop (mkF m 0 #[.val (.ref a0), .val (.int (0 : Int32)), .val (.int p2), .val (.int p3)] [])) _
    refine XS.aloadN X0.here hx rfl (hb hby d4_0) rfl rfl ?_
    show Steps p.tables e below (s₁.setTop (mkF m 1 #[.val (.ref a0), .val (.int (0 : Int32)), .val (.int p2), .val (.int p3)] [(.ref a0)])) _
    refine XS.iloadN X0.here hx rfl (hb hby d4_1) rfl ?_
    show Steps p.tables e below (s₁.setTop (mkF m 2 #[.val (.ref a0), .val (.int (0 : Int32)), .val (.int p2), .val (.int p3)] [(.int (0 : Int32)), (.ref a0)])) _
    refine X0.baloadBytes hx (j := (0 : Int32)) (v := (.int (nar .byte (((nar .byte (nar .byte (((p2.toUInt32 >>> (((8 : Int32) * (0 : Int32)) &&& 31).toUInt32).toInt32).toInt8.toInt32))) ^^^ (nar .byte (nar .byte (((p3.toUInt32 >>> (((8 : Int32) * (0 : Int32)) &&& 31).toUInt32).toInt32).toInt8.toInt32)))).toInt8.toInt32)))) (by rw [e0]; exact Ar365.1) (State.isArrayOf_alike hZ.alike Ar365.2.1) Ar365.2.2 hin366 hat367 (g := (mkF m 2 #[.val (.ref a0), .val (.int (0 : Int32)), .val (.int p2), .val (.int p3)] [(.int (0 : Int32)), (.ref a0)])) rfl rfl (hb hby d4_2) _ ?_
    show Steps p.tables e below (s₁.setTop (mkF m 3 #[.val (.ref a0), .val (.int (0 : Int32)), .val (.int p2), .val (.int p3)] [(.int (nar .byte (((nar .byte (nar .byte (((p2.toUInt32 >>> (((8 : Int32) * (0 : Int32)) &&& 31).toUInt32).toInt32).toInt8.toInt32))) ^^^ (nar .byte (nar .byte (((p3.toUInt32 >>> (((8 : Int32) * (0 : Int32)) &&& 31).toUInt32).toInt32).toInt8.toInt32)))).toInt8.toInt32)))])) _
    refine XS.iloadN X0.here hx rfl (hb hby d4_3) rfl ?_
    show Steps p.tables e below (s₁.setTop (mkF m 4 #[.val (.ref a0), .val (.int (0 : Int32)), .val (.int p2), .val (.int p3)] [(.int p2), (.int (nar .byte (((nar .byte (nar .byte (((p2.toUInt32 >>> (((8 : Int32) * (0 : Int32)) &&& 31).toUInt32).toInt32).toInt8.toInt32))) ^^^ (nar .byte (nar .byte (((p3.toUInt32 >>> (((8 : Int32) * (0 : Int32)) &&& 31).toUInt32).toInt32).toInt8.toInt32)))).toInt8.toInt32)))])) _
    refine XS.iloadN X0.here hx rfl (hb hby d4_4) rfl ?_
    show Steps p.tables e below (s₁.setTop (mkF m 5 #[.val (.ref a0), .val (.int (0 : Int32)), .val (.int p2), .val (.int p3)] [(.int (0 : Int32)), (.int p2), (.int (nar .byte (((nar .byte (nar .byte (((p2.toUInt32 >>> (((8 : Int32) * (0 : Int32)) &&& 31).toUInt32).toInt32).toInt8.toInt32))) ^^^ (nar .byte (nar .byte (((p3.toUInt32 >>> (((8 : Int32) * (0 : Int32)) &&& 31).toUInt32).toInt32).toInt8.toInt32)))).toInt8.toInt32)))])) _
    refine st368 _ ?_
    show Steps p.tables e below (T368.setTop (mkF m 8 #[.val (.ref a0), .val (.int (0 : Int32)), .val (.int p2), .val (.int p3)] [(.int (nar .byte (((p2.toUInt32 >>> (((8 : Int32) * (0 : Int32)) &&& 31).toUInt32).toInt32).toInt8.toInt32))), (.int (nar .byte (((nar .byte (nar .byte (((p2.toUInt32 >>> (((8 : Int32) * (0 : Int32)) &&& 31).toUInt32).toInt32).toInt8.toInt32))) ^^^ (nar .byte (nar .byte (((p3.toUInt32 >>> (((8 : Int32) * (0 : Int32)) &&& 31).toUInt32).toInt32).toInt8.toInt32)))).toInt8.toInt32)))])) _
    refine XS.iloadN X368.here hx rfl (hb hby d4_8) rfl ?_
    show Steps p.tables e below (T368.setTop (mkF m 9 #[.val (.ref a0), .val (.int (0 : Int32)), .val (.int p2), .val (.int p3)] [(.int p3), (.int (nar .byte (((p2.toUInt32 >>> (((8 : Int32) * (0 : Int32)) &&& 31).toUInt32).toInt32).toInt8.toInt32))), (.int (nar .byte (((nar .byte (nar .byte (((p2.toUInt32 >>> (((8 : Int32) * (0 : Int32)) &&& 31).toUInt32).toInt32).toInt8.toInt32))) ^^^ (nar .byte (nar .byte (((p3.toUInt32 >>> (((8 : Int32) * (0 : Int32)) &&& 31).toUInt32).toInt32).toInt8.toInt32)))).toInt8.toInt32)))])) _
    refine XS.iloadN X368.here hx rfl (hb hby d4_9) rfl ?_
    show Steps p.tables e below (T368.setTop (mkF m 10 #[.val (.ref a0), .val (.int (0 : Int32)), .val (.int p2), .val (.int p3)] [(.int (0 : Int32)), (.int p3), (.int (nar .byte (((p2.toUInt32 >>> (((8 : Int32) * (0 : Int32)) &&& 31).toUInt32).toInt32).toInt8.toInt32))), (.int (nar .byte (((nar .byte (nar .byte (((p2.toUInt32 >>> (((8 : Int32) * (0 : Int32)) &&& 31).toUInt32).toInt32).toInt8.toInt32))) ^^^ (nar .byte (nar .byte (((p3.toUInt32 >>> (((8 : Int32) * (0 : Int32)) &&& 31).toUInt32).toInt32).toInt8.toInt32)))).toInt8.toInt32)))])) _
    refine st369 _ ?_
    show Steps p.tables e below (T369.setTop (mkF m 13 #[.val (.ref a0), .val (.int (0 : Int32)), .val (.int p2), .val (.int p3)] [(.int (nar .byte (((p3.toUInt32 >>> (((8 : Int32) * (0 : Int32)) &&& 31).toUInt32).toInt32).toInt8.toInt32))), (.int (nar .byte (((p2.toUInt32 >>> (((8 : Int32) * (0 : Int32)) &&& 31).toUInt32).toInt32).toInt8.toInt32))), (.int (nar .byte (((nar .byte (nar .byte (((p2.toUInt32 >>> (((8 : Int32) * (0 : Int32)) &&& 31).toUInt32).toInt32).toInt8.toInt32))) ^^^ (nar .byte (nar .byte (((p3.toUInt32 >>> (((8 : Int32) * (0 : Int32)) &&& 31).toUInt32).toInt32).toInt8.toInt32)))).toInt8.toInt32)))])) _
    refine XS.ixor X369.here hx rfl (hb hby d4_13) rfl ?_
    show Steps p.tables e below (T369.setTop (mkF m 14 #[.val (.ref a0), .val (.int (0 : Int32)), .val (.int p2), .val (.int p3)] [(.int ((nar .byte (((p2.toUInt32 >>> (((8 : Int32) * (0 : Int32)) &&& 31).toUInt32).toInt32).toInt8.toInt32)) ^^^ (nar .byte (((p3.toUInt32 >>> (((8 : Int32) * (0 : Int32)) &&& 31).toUInt32).toInt32).toInt8.toInt32)))), (.int (nar .byte (((nar .byte (nar .byte (((p2.toUInt32 >>> (((8 : Int32) * (0 : Int32)) &&& 31).toUInt32).toInt32).toInt8.toInt32))) ^^^ (nar .byte (nar .byte (((p3.toUInt32 >>> (((8 : Int32) * (0 : Int32)) &&& 31).toUInt32).toInt32).toInt8.toInt32)))).toInt8.toInt32)))])) _
    refine XS.i2b X369.here hx rfl (hb hby d4_14) rfl ?_
    show Steps p.tables e below (T369.setTop (mkF m 15 #[.val (.ref a0), .val (.int (0 : Int32)), .val (.int p2), .val (.int p3)] [(.int (((nar .byte (((p2.toUInt32 >>> (((8 : Int32) * (0 : Int32)) &&& 31).toUInt32).toInt32).toInt8.toInt32)) ^^^ (nar .byte (((p3.toUInt32 >>> (((8 : Int32) * (0 : Int32)) &&& 31).toUInt32).toInt32).toInt8.toInt32))).toInt8.toInt32)), (.int (nar .byte (((nar .byte (nar .byte (((p2.toUInt32 >>> (((8 : Int32) * (0 : Int32)) &&& 31).toUInt32).toInt32).toInt8.toInt32))) ^^^ (nar .byte (nar .byte (((p3.toUInt32 >>> (((8 : Int32) * (0 : Int32)) &&& 31).toUInt32).toInt32).toInt8.toInt32)))).toInt8.toInt32)))])) _
    refine XS.icmpNo X369.here hx rfl (hb hby d4_15) rfl (teq (own_xx _ _)).2 ?_
    show Steps p.tables e below (T369.setTop (mkF m 18 #[.val (.ref a0), .val (.int (0 : Int32)), .val (.int p2), .val (.int p3)] [])) _
    refine XS.iconst X369.here hx rfl (hb hby d4_18) ?_
    show Steps p.tables e below (T369.setTop (mkF m 19 #[.val (.ref a0), .val (.int (0 : Int32)), .val (.int p2), .val (.int p3)] [(.int (1 : Int32))])) _
    refine XS.goto X369.here hx rfl (pc0 := 19) (pc' := 23) rfl (hb hby d4_19) (by decide) (by decide) ?_
    show Steps p.tables e below (T369.setTop (mkF m 23 #[.val (.ref a0), .val (.int (0 : Int32)), .val (.int p2), .val (.int p3)] [(.int (1 : Int32))])) _
    exact retN X369 hx (t := .boolean) Bd.returns (by simp) (hb hby d4_23) hr
  · show Q4_2_0 Z a0 p2 p3 k_a0 h0 n0 _ T369.heap _
    rw [e369]
    exact ⟨rfl, N369, rfl⟩
theorem ef4_2_1 (m : MethodId) (x0 : Addr) (x1 : Int32) (x2 : Int32) (x3 : Int32) : entryFrame m #[(.ref x0), (.int x1), (.int x2), (.int x3)] 4 = mkF m 0 #[.val (.ref x0), .val (.int x1), .val (.int x2), .val (.int x3)] [] := by first | (simp [entryFrame, mkF, argsToLocals, Value.category]; done) | rfl
abbrev rr4_2_1 : Room := { frames := 1, cells := 0, slots := 0, locals := 15 }
def Q4_2_1 (Z : State) (a0 : Addr) (p2 : Int32) (p3 : Int32) (k_a0 : ClassId) (h0 : Heap) (n0 : Nat) (v : Option Value) (h : Heap) (L : List Loc) : Prop := v = some (.int (1 : Int32)) ∧ Fr n0 L ∧ h = h0
set_option maxRecDepth 65536 in
set_option maxHeartbeats 40000000 in
theorem rm4_2_1 (l : Launch) (Z : State) (aw : Array Value) (hw : ∀ d ∈ tables_1, d.before aw Z = true) (ws : List Jvm.Cond) (a0 : Addr) (p2 : Int32) (p3 : Int32) (k_a0 : ClassId) (h0 : Heap) (n0 : Nat) (Z0 : n0 ≤ h0.size) (V_a0 : Arv Z h0 a0 k_a0 .byte (2 : Int32) [(.int (nar .byte (((nar .byte (nar .byte (((p2.toUInt32 >>> (((8 : Int32) * (0 : Int32)) &&& 31).toUInt32).toInt32).toInt8.toInt32))) ^^^ (nar .byte (nar .byte (((p3.toUInt32 >>> (((8 : Int32) * (0 : Int32)) &&& 31).toUInt32).toInt32).toInt8.toInt32)))).toInt8.toInt32))), (.int (nar .byte (((nar .byte (nar .byte (((p2.toUInt32 >>> (((8 : Int32) * (1 : Int32)) &&& 31).toUInt32).toInt32).toInt8.toInt32))) ^^^ (nar .byte (nar .byte (((p3.toUInt32 >>> (((8 : Int32) * (1 : Int32)) &&& 31).toUInt32).toInt32).toInt8.toInt32)))).toInt8.toInt32)))] (.int (0 : Int32))) :
    MetFree l (⟨"com/example/rollcall/rollcall/bench/MilenageXorPinLaw", "at", "([BIII)Z"⟩ : MethodName) (head1 (Jvm.Cond.code (⟨"com/example/rollcall/rollcall/bench/MilenageXorPinLaw", "at", "([BIII)Z"⟩ : MethodName) method_5_code 4 (some .boolean) :: ws) rr4_2_1) (fun a U => a = #[(.ref a0), (.int (1 : Int32)), (.int p2), (.int p3)] ∧ Z.Warmed39 U.vm ∧ U.heap = h0) (fun _ _ _ _ _ => True) (fun _ U o U' => ∃ v L, o = .returned v ∧ Q4_2_1 Z a0 p2 p3 k_a0 h0 n0 v U'.heap L ∧ FrameEnd U o U' L rr4_2_1.cells rr4_2_1.slots) := by
  refine MetFree.of_bodySF (plainFor_of_name pn_1) hisR ?_
  intro p e s m args below meth c s₁ Bd hml0 hP hK
  obtain ⟨rfl, hZ, hh⟩ := hP
  have hx := Bd.exec
  have hby := Bd.bytes
  have hml : c.maxLocals = 4 := hml0
  have hown : s.vm.findClass "com/example/rollcall/rollcall/bench/MilenageXorPinLaw" = some m.cls := findClass_of_methodNamed Bd.named
  have hnm := (name_of_methodNamed Bd.named Bd.method).1
  have X0 : Stand p l e rr4_2_1 s m #[(.ref a0), (.int (1 : Int32)), (.int p2), (.int p3)] below meth c s₁ [] 0 0 := Stand.of_body Bd
  have e0 : s₁.heap = h0 := by rw [← hh, Bd.state]; rfl
  have N0 := Fr.nil n0
  have pre0 : ∀ t, Steps p.tables e below (s₁.setTop (mkF m 0 #[.val (.ref a0), .val (.int (1 : Int32)), .val (.int p2), .val (.int p3)] [])) t → Steps p.tables e below (s₁.setTop (entryFrame m #[(.ref a0), (.int (1 : Int32)), (.int p2), (.int p3)] 4)) t := fun t k => castTop (ef4_2_1 m a0 (1 : Int32) p2 p3) k
  obtain ⟨cl370, Ar370, q370, S370, M370, H370, G370⟩ := id V_a0
  have hin371 : ¬ ((1 : Int32) < 0 ∨ cl370.slots.size ≤ ((1 : Int32)).toNatClampNeg) := inb_of S370 ⟨by decide, by decide⟩
  have hat372 : cl370.slots[((1 : Int32)).toNatClampNeg]? = some (.int (nar .byte (((nar .byte (nar .byte (((p2.toUInt32 >>> (((8 : Int32) * (1 : Int32)) &&& 31).toUInt32).toInt32).toInt8.toInt32))) ^^^ (nar .byte (nar .byte (((p3.toUInt32 >>> (((8 : Int32) * (1 : Int32)) &&& 31).toUInt32).toInt32).toInt8.toInt32)))).toInt8.toInt32))) := H370.at hin371 rfl
  obtain ⟨_, _, ⟨T373, L373, k373, n373⟩, -, X373, ⟨Lc373, hQ373, l373, y373, z373⟩, st373⟩ := Jvm.LawKit.callS X0 hx (y := (⟨"com/example/rollcall/rollcall/bench/MilenageXorPinLaw", "oct", "(II)B"⟩ : MethodName)) hown (mvT hZ (hw _ (List.mem_of_getElem? (i := 5) rfl))) (mvT hZ (hw _ (List.mem_of_getElem? (i := 6) rfl))) (mvT hZ (hw _ (List.mem_of_getElem? (i := 2) rfl))) (mvT hZ (hw _ (List.mem_of_getElem? (i := 7) rfl))) (by decide) (backOf (W := 1) (rm2 l Z aw hw [] p2 ((1 : Int32)) h0 n0 Z0 ) hZ (hw _ (List.mem_of_getElem? (i := 7) rfl)) (hw _ (List.mem_of_getElem? (i := 2) rfl)) (by decide) (by decide)) (g := (mkF m 5 #[.val (.ref a0), .val (.int (1 : Int32)), .val (.int p2), .val (.int p3)] [(.int (1 : Int32)), (.int p2), (.int (nar .byte (((nar .byte (nar .byte (((p2.toUInt32 >>> (((8 : Int32) * (1 : Int32)) &&& 31).toUInt32).toInt32).toInt8.toInt32))) ^^^ (nar .byte (nar .byte (((p3.toUInt32 >>> (((8 : Int32) * (1 : Int32)) &&& 31).toUInt32).toInt32).toInt8.toInt32)))).toInt8.toInt32)))])) rfl (by rw [hml]; rfl) (argsL := [(.int p2), (.int (1 : Int32))]) (rest := [(.int (nar .byte (((nar .byte (nar .byte (((p2.toUInt32 >>> (((8 : Int32) * (1 : Int32)) &&& 31).toUInt32).toInt32).toInt8.toInt32))) ^^^ (nar .byte (nar .byte (((p3.toUInt32 >>> (((8 : Int32) * (1 : Int32)) &&& 31).toUInt32).toInt32).toInt8.toInt32)))).toInt8.toInt32)))]) (lenOf pd_1 rfl) rfl (by show 2 * 0 + _ ≤ _; exact Nat.le_of_eq rfl) (hb hby d4_5) (fun _ _ => ⟨rfl, e0, (by decide : 0 + 0 ≤ _), (by decide : 0 + 0 ≤ _)⟩)
  dsimp only [Pt.U, Pt.locs, Pt.cells, Pt.slots] at X373 l373 y373 z373 st373 hQ373
  subst l373 y373 z373
  obtain ⟨rfl, N373q, e373⟩ := hQ373
  have N373 := Fr.app N0 N373q
  obtain ⟨_, _, ⟨T374, L374, k374, n374⟩, -, X374, ⟨Lc374, hQ374, l374, y374, z374⟩, st374⟩ := Jvm.LawKit.callS X373 hx (y := (⟨"com/example/rollcall/rollcall/bench/MilenageXorPinLaw", "oct", "(II)B"⟩ : MethodName)) hown (mvT hZ (hw _ (List.mem_of_getElem? (i := 5) rfl))) (mvT hZ (hw _ (List.mem_of_getElem? (i := 6) rfl))) (mvT hZ (hw _ (List.mem_of_getElem? (i := 2) rfl))) (mvT hZ (hw _ (List.mem_of_getElem? (i := 7) rfl))) (by decide) (backOf (W := 2) (rm2 l Z aw hw [] p3 ((1 : Int32)) h0 n0 Z0 ) hZ (hw _ (List.mem_of_getElem? (i := 7) rfl)) (hw _ (List.mem_of_getElem? (i := 2) rfl)) (by decide) (by decide)) (g := (mkF m 10 #[.val (.ref a0), .val (.int (1 : Int32)), .val (.int p2), .val (.int p3)] [(.int (1 : Int32)), (.int p3), (.int (nar .byte (((p2.toUInt32 >>> (((8 : Int32) * (1 : Int32)) &&& 31).toUInt32).toInt32).toInt8.toInt32))), (.int (nar .byte (((nar .byte (nar .byte (((p2.toUInt32 >>> (((8 : Int32) * (1 : Int32)) &&& 31).toUInt32).toInt32).toInt8.toInt32))) ^^^ (nar .byte (nar .byte (((p3.toUInt32 >>> (((8 : Int32) * (1 : Int32)) &&& 31).toUInt32).toInt32).toInt8.toInt32)))).toInt8.toInt32)))])) rfl (by rw [hml]; rfl) (argsL := [(.int p3), (.int (1 : Int32))]) (rest := [(.int (nar .byte (((p2.toUInt32 >>> (((8 : Int32) * (1 : Int32)) &&& 31).toUInt32).toInt32).toInt8.toInt32))), (.int (nar .byte (((nar .byte (nar .byte (((p2.toUInt32 >>> (((8 : Int32) * (1 : Int32)) &&& 31).toUInt32).toInt32).toInt8.toInt32))) ^^^ (nar .byte (nar .byte (((p3.toUInt32 >>> (((8 : Int32) * (1 : Int32)) &&& 31).toUInt32).toInt32).toInt8.toInt32)))).toInt8.toInt32)))]) (lenOf pd_1 rfl) rfl (by show 2 * 0 + _ ≤ _; exact Nat.le_of_eq rfl) (hb hby d4_10) (fun _ _ => ⟨rfl, e373, (by decide : 0 + 0 ≤ _), (by decide : 0 + 0 ≤ _)⟩)
  dsimp only [Pt.U, Pt.locs, Pt.cells, Pt.slots] at X374 l374 y374 z374 st374 hQ374
  subst l374 y374 z374
  obtain ⟨rfl, N374q, e374⟩ := hQ374
  have N374 := Fr.app N373 N374q
  obtain ⟨fs, hr, hrun, hended, hW, hsame⟩ := X374.leave (v := some (.int (1 : Int32))) (fun h => by rw [Bd.returns] at h; cases h)
  refine ⟨_, _, pre0 _ ?_, hrun, hended, _, _, rfl, ?_, ⟨_, rfl⟩, hW, hsame.mono (by decide) (by decide)⟩
  · skip
    show Steps p.tables e below (s₁.setTop (mkF m 0 #[.val (.ref a0), .val (.int (1 : Int32)), .val (.int p2), .val (.int p3)] [])) _
    refine XS.aloadN X0.here hx rfl (hb hby d4_0) rfl rfl ?_
    show Steps p.tables e below (s₁.setTop (mkF m 1 #[.val (.ref a0), .val (.int (1 : Int32)), .val (.int p2), .val (.int p3)] [(.ref a0)])) _
    refine XS.iloadN X0.here hx rfl (hb hby d4_1) rfl ?_
    show Steps p.tables e below (s₁.setTop (mkF m 2 #[.val (.ref a0), .val (.int (1 : Int32)), .val (.int p2), .val (.int p3)] [(.int (1 : Int32)), (.ref a0)])) _
    refine X0.baloadBytes hx (j := (1 : Int32)) (v := (.int (nar .byte (((nar .byte (nar .byte (((p2.toUInt32 >>> (((8 : Int32) * (1 : Int32)) &&& 31).toUInt32).toInt32).toInt8.toInt32))) ^^^ (nar .byte (nar .byte (((p3.toUInt32 >>> (((8 : Int32) * (1 : Int32)) &&& 31).toUInt32).toInt32).toInt8.toInt32)))).toInt8.toInt32)))) (by rw [e0]; exact Ar370.1) (State.isArrayOf_alike hZ.alike Ar370.2.1) Ar370.2.2 hin371 hat372 (g := (mkF m 2 #[.val (.ref a0), .val (.int (1 : Int32)), .val (.int p2), .val (.int p3)] [(.int (1 : Int32)), (.ref a0)])) rfl rfl (hb hby d4_2) _ ?_
    show Steps p.tables e below (s₁.setTop (mkF m 3 #[.val (.ref a0), .val (.int (1 : Int32)), .val (.int p2), .val (.int p3)] [(.int (nar .byte (((nar .byte (nar .byte (((p2.toUInt32 >>> (((8 : Int32) * (1 : Int32)) &&& 31).toUInt32).toInt32).toInt8.toInt32))) ^^^ (nar .byte (nar .byte (((p3.toUInt32 >>> (((8 : Int32) * (1 : Int32)) &&& 31).toUInt32).toInt32).toInt8.toInt32)))).toInt8.toInt32)))])) _
    refine XS.iloadN X0.here hx rfl (hb hby d4_3) rfl ?_
    show Steps p.tables e below (s₁.setTop (mkF m 4 #[.val (.ref a0), .val (.int (1 : Int32)), .val (.int p2), .val (.int p3)] [(.int p2), (.int (nar .byte (((nar .byte (nar .byte (((p2.toUInt32 >>> (((8 : Int32) * (1 : Int32)) &&& 31).toUInt32).toInt32).toInt8.toInt32))) ^^^ (nar .byte (nar .byte (((p3.toUInt32 >>> (((8 : Int32) * (1 : Int32)) &&& 31).toUInt32).toInt32).toInt8.toInt32)))).toInt8.toInt32)))])) _
    refine XS.iloadN X0.here hx rfl (hb hby d4_4) rfl ?_
    show Steps p.tables e below (s₁.setTop (mkF m 5 #[.val (.ref a0), .val (.int (1 : Int32)), .val (.int p2), .val (.int p3)] [(.int (1 : Int32)), (.int p2), (.int (nar .byte (((nar .byte (nar .byte (((p2.toUInt32 >>> (((8 : Int32) * (1 : Int32)) &&& 31).toUInt32).toInt32).toInt8.toInt32))) ^^^ (nar .byte (nar .byte (((p3.toUInt32 >>> (((8 : Int32) * (1 : Int32)) &&& 31).toUInt32).toInt32).toInt8.toInt32)))).toInt8.toInt32)))])) _
    refine st373 _ ?_
    show Steps p.tables e below (T373.setTop (mkF m 8 #[.val (.ref a0), .val (.int (1 : Int32)), .val (.int p2), .val (.int p3)] [(.int (nar .byte (((p2.toUInt32 >>> (((8 : Int32) * (1 : Int32)) &&& 31).toUInt32).toInt32).toInt8.toInt32))), (.int (nar .byte (((nar .byte (nar .byte (((p2.toUInt32 >>> (((8 : Int32) * (1 : Int32)) &&& 31).toUInt32).toInt32).toInt8.toInt32))) ^^^ (nar .byte (nar .byte (((p3.toUInt32 >>> (((8 : Int32) * (1 : Int32)) &&& 31).toUInt32).toInt32).toInt8.toInt32)))).toInt8.toInt32)))])) _
    refine XS.iloadN X373.here hx rfl (hb hby d4_8) rfl ?_
    show Steps p.tables e below (T373.setTop (mkF m 9 #[.val (.ref a0), .val (.int (1 : Int32)), .val (.int p2), .val (.int p3)] [(.int p3), (.int (nar .byte (((p2.toUInt32 >>> (((8 : Int32) * (1 : Int32)) &&& 31).toUInt32).toInt32).toInt8.toInt32))), (.int (nar .byte (((nar .byte (nar .byte (((p2.toUInt32 >>> (((8 : Int32) * (1 : Int32)) &&& 31).toUInt32).toInt32).toInt8.toInt32))) ^^^ (nar .byte (nar .byte (((p3.toUInt32 >>> (((8 : Int32) * (1 : Int32)) &&& 31).toUInt32).toInt32).toInt8.toInt32)))).toInt8.toInt32)))])) _
    refine XS.iloadN X373.here hx rfl (hb hby d4_9) rfl ?_
    show Steps p.tables e below (T373.setTop (mkF m 10 #[.val (.ref a0), .val (.int (1 : Int32)), .val (.int p2), .val (.int p3)] [(.int (1 : Int32)), (.int p3), (.int (nar .byte (((p2.toUInt32 >>> (((8 : Int32) * (1 : Int32)) &&& 31).toUInt32).toInt32).toInt8.toInt32))), (.int (nar .byte (((nar .byte (nar .byte (((p2.toUInt32 >>> (((8 : Int32) * (1 : Int32)) &&& 31).toUInt32).toInt32).toInt8.toInt32))) ^^^ (nar .byte (nar .byte (((p3.toUInt32 >>> (((8 : Int32) * (1 : Int32)) &&& 31).toUInt32).toInt32).toInt8.toInt32)))).toInt8.toInt32)))])) _
    refine st374 _ ?_
    show Steps p.tables e below (T374.setTop (mkF m 13 #[.val (.ref a0), .val (.int (1 : Int32)), .val (.int p2), .val (.int p3)] [(.int (nar .byte (((p3.toUInt32 >>> (((8 : Int32) * (1 : Int32)) &&& 31).toUInt32).toInt32).toInt8.toInt32))), (.int (nar .byte (((p2.toUInt32 >>> (((8 : Int32) * (1 : Int32)) &&& 31).toUInt32).toInt32).toInt8.toInt32))), (.int (nar .byte (((nar .byte (nar .byte (((p2.toUInt32 >>> (((8 : Int32) * (1 : Int32)) &&& 31).toUInt32).toInt32).toInt8.toInt32))) ^^^ (nar .byte (nar .byte (((p3.toUInt32 >>> (((8 : Int32) * (1 : Int32)) &&& 31).toUInt32).toInt32).toInt8.toInt32)))).toInt8.toInt32)))])) _
    refine XS.ixor X374.here hx rfl (hb hby d4_13) rfl ?_
    show Steps p.tables e below (T374.setTop (mkF m 14 #[.val (.ref a0), .val (.int (1 : Int32)), .val (.int p2), .val (.int p3)] [(.int ((nar .byte (((p2.toUInt32 >>> (((8 : Int32) * (1 : Int32)) &&& 31).toUInt32).toInt32).toInt8.toInt32)) ^^^ (nar .byte (((p3.toUInt32 >>> (((8 : Int32) * (1 : Int32)) &&& 31).toUInt32).toInt32).toInt8.toInt32)))), (.int (nar .byte (((nar .byte (nar .byte (((p2.toUInt32 >>> (((8 : Int32) * (1 : Int32)) &&& 31).toUInt32).toInt32).toInt8.toInt32))) ^^^ (nar .byte (nar .byte (((p3.toUInt32 >>> (((8 : Int32) * (1 : Int32)) &&& 31).toUInt32).toInt32).toInt8.toInt32)))).toInt8.toInt32)))])) _
    refine XS.i2b X374.here hx rfl (hb hby d4_14) rfl ?_
    show Steps p.tables e below (T374.setTop (mkF m 15 #[.val (.ref a0), .val (.int (1 : Int32)), .val (.int p2), .val (.int p3)] [(.int (((nar .byte (((p2.toUInt32 >>> (((8 : Int32) * (1 : Int32)) &&& 31).toUInt32).toInt32).toInt8.toInt32)) ^^^ (nar .byte (((p3.toUInt32 >>> (((8 : Int32) * (1 : Int32)) &&& 31).toUInt32).toInt32).toInt8.toInt32))).toInt8.toInt32)), (.int (nar .byte (((nar .byte (nar .byte (((p2.toUInt32 >>> (((8 : Int32) * (1 : Int32)) &&& 31).toUInt32).toInt32).toInt8.toInt32))) ^^^ (nar .byte (nar .byte (((p3.toUInt32 >>> (((8 : Int32) * (1 : Int32)) &&& 31).toUInt32).toInt32).toInt8.toInt32)))).toInt8.toInt32)))])) _
    refine XS.icmpNo X374.here hx rfl (hb hby d4_15) rfl (teq (own_xx _ _)).2 ?_
    show Steps p.tables e below (T374.setTop (mkF m 18 #[.val (.ref a0), .val (.int (1 : Int32)), .val (.int p2), .val (.int p3)] [])) _
    refine XS.iconst X374.here hx rfl (hb hby d4_18) ?_
    show Steps p.tables e below (T374.setTop (mkF m 19 #[.val (.ref a0), .val (.int (1 : Int32)), .val (.int p2), .val (.int p3)] [(.int (1 : Int32))])) _
    refine XS.goto X374.here hx rfl (pc0 := 19) (pc' := 23) rfl (hb hby d4_19) (by decide) (by decide) ?_
    show Steps p.tables e below (T374.setTop (mkF m 23 #[.val (.ref a0), .val (.int (1 : Int32)), .val (.int p2), .val (.int p3)] [(.int (1 : Int32))])) _
    exact retN X374 hx (t := .boolean) Bd.returns (by simp) (hb hby d4_23) hr
  · show Q4_2_1 Z a0 p2 p3 k_a0 h0 n0 _ T374.heap _
    rw [e374]
    exact ⟨rfl, N374, rfl⟩
theorem ef4_3_0 (m : MethodId) (x0 : Addr) (x1 : Int32) (x2 : Int32) (x3 : Int32) : entryFrame m #[(.ref x0), (.int x1), (.int x2), (.int x3)] 4 = mkF m 0 #[.val (.ref x0), .val (.int x1), .val (.int x2), .val (.int x3)] [] := by first | (simp [entryFrame, mkF, argsToLocals, Value.category]; done) | rfl
abbrev rr4_3_0 : Room := { frames := 1, cells := 0, slots := 0, locals := 15 }
def Q4_3_0 (Z : State) (a0 : Addr) (p2 : Int32) (p3 : Int32) (k_a0 : ClassId) (h0 : Heap) (n0 : Nat) (v : Option Value) (h : Heap) (L : List Loc) : Prop := v = some (.int (1 : Int32)) ∧ Fr n0 L ∧ h = h0
set_option maxRecDepth 65536 in
set_option maxHeartbeats 40000000 in
theorem rm4_3_0 (l : Launch) (Z : State) (aw : Array Value) (hw : ∀ d ∈ tables_1, d.before aw Z = true) (ws : List Jvm.Cond) (a0 : Addr) (p2 : Int32) (p3 : Int32) (k_a0 : ClassId) (h0 : Heap) (n0 : Nat) (Z0 : n0 ≤ h0.size) (V_a0 : Arv Z h0 a0 k_a0 .byte (3 : Int32) [(.int (nar .byte (((nar .byte (nar .byte (((p2.toUInt32 >>> (((8 : Int32) * (0 : Int32)) &&& 31).toUInt32).toInt32).toInt8.toInt32))) ^^^ (nar .byte (nar .byte (((p3.toUInt32 >>> (((8 : Int32) * (0 : Int32)) &&& 31).toUInt32).toInt32).toInt8.toInt32)))).toInt8.toInt32))), (.int (nar .byte (((nar .byte (nar .byte (((p2.toUInt32 >>> (((8 : Int32) * (1 : Int32)) &&& 31).toUInt32).toInt32).toInt8.toInt32))) ^^^ (nar .byte (nar .byte (((p3.toUInt32 >>> (((8 : Int32) * (1 : Int32)) &&& 31).toUInt32).toInt32).toInt8.toInt32)))).toInt8.toInt32))), (.int (nar .byte (((nar .byte (nar .byte (((p2.toUInt32 >>> (((8 : Int32) * (2 : Int32)) &&& 31).toUInt32).toInt32).toInt8.toInt32))) ^^^ (nar .byte (nar .byte (((p3.toUInt32 >>> (((8 : Int32) * (2 : Int32)) &&& 31).toUInt32).toInt32).toInt8.toInt32)))).toInt8.toInt32)))] (.int (0 : Int32))) :
    MetFree l (⟨"com/example/rollcall/rollcall/bench/MilenageXorPinLaw", "at", "([BIII)Z"⟩ : MethodName) (head1 (Jvm.Cond.code (⟨"com/example/rollcall/rollcall/bench/MilenageXorPinLaw", "at", "([BIII)Z"⟩ : MethodName) method_5_code 4 (some .boolean) :: ws) rr4_3_0) (fun a U => a = #[(.ref a0), (.int (0 : Int32)), (.int p2), (.int p3)] ∧ Z.Warmed39 U.vm ∧ U.heap = h0) (fun _ _ _ _ _ => True) (fun _ U o U' => ∃ v L, o = .returned v ∧ Q4_3_0 Z a0 p2 p3 k_a0 h0 n0 v U'.heap L ∧ FrameEnd U o U' L rr4_3_0.cells rr4_3_0.slots) := by
  refine MetFree.of_bodySF (plainFor_of_name pn_1) hisR ?_
  intro p e s m args below meth c s₁ Bd hml0 hP hK
  obtain ⟨rfl, hZ, hh⟩ := hP
  have hx := Bd.exec
  have hby := Bd.bytes
  have hml : c.maxLocals = 4 := hml0
  have hown : s.vm.findClass "com/example/rollcall/rollcall/bench/MilenageXorPinLaw" = some m.cls := findClass_of_methodNamed Bd.named
  have hnm := (name_of_methodNamed Bd.named Bd.method).1
  have X0 : Stand p l e rr4_3_0 s m #[(.ref a0), (.int (0 : Int32)), (.int p2), (.int p3)] below meth c s₁ [] 0 0 := Stand.of_body Bd
  have e0 : s₁.heap = h0 := by rw [← hh, Bd.state]; rfl
  have N0 := Fr.nil n0
  have pre0 : ∀ t, Steps p.tables e below (s₁.setTop (mkF m 0 #[.val (.ref a0), .val (.int (0 : Int32)), .val (.int p2), .val (.int p3)] [])) t → Steps p.tables e below (s₁.setTop (entryFrame m #[(.ref a0), (.int (0 : Int32)), (.int p2), (.int p3)] 4)) t := fun t k => castTop (ef4_3_0 m a0 (0 : Int32) p2 p3) k
  obtain ⟨cl375, Ar375, q375, S375, M375, H375, G375⟩ := id V_a0
  have hin376 : ¬ ((0 : Int32) < 0 ∨ cl375.slots.size ≤ ((0 : Int32)).toNatClampNeg) := inb_of S375 ⟨by decide, by decide⟩
  have hat377 : cl375.slots[((0 : Int32)).toNatClampNeg]? = some (.int (nar .byte (((nar .byte (nar .byte (((p2.toUInt32 >>> (((8 : Int32) * (0 : Int32)) &&& 31).toUInt32).toInt32).toInt8.toInt32))) ^^^ (nar .byte (nar .byte (((p3.toUInt32 >>> (((8 : Int32) * (0 : Int32)) &&& 31).toUInt32).toInt32).toInt8.toInt32)))).toInt8.toInt32))) := H375.at hin376 rfl
  obtain ⟨_, _, ⟨T378, L378, k378, n378⟩, -, X378, ⟨Lc378, hQ378, l378, y378, z378⟩, st378⟩ := Jvm.LawKit.callS X0 hx (y := (⟨"com/example/rollcall/rollcall/bench/MilenageXorPinLaw", "oct", "(II)B"⟩ : MethodName)) hown (mvT hZ (hw _ (List.mem_of_getElem? (i := 5) rfl))) (mvT hZ (hw _ (List.mem_of_getElem? (i := 6) rfl))) (mvT hZ (hw _ (List.mem_of_getElem? (i := 2) rfl))) (mvT hZ (hw _ (List.mem_of_getElem? (i := 7) rfl))) (by decide) (backOf (W := 1) (rm2 l Z aw hw [] p2 ((0 : Int32)) h0 n0 Z0 ) hZ (hw _ (List.mem_of_getElem? (i := 7) rfl)) (hw _ (List.mem_of_getElem? (i := 2) rfl)) (by decide) (by decide)) (g := (mkF m 5 #[.val (.ref a0), .val (.int (0 : Int32)), .val (.int p2), .val (.int p3)] [(.int (0 : Int32)), (.int p2), (.int (nar .byte (((nar .byte (nar .byte (((p2.toUInt32 >>> (((8 : Int32) * (0 : Int32)) &&& 31).toUInt32).toInt32).toInt8.toInt32))) ^^^ (nar .byte (nar .byte (((p3.toUInt32 >>> (((8 : Int32) * (0 : Int32)) &&& 31).toUInt32).toInt32).toInt8.toInt32)))).toInt8.toInt32)))])) rfl (by rw [hml]; rfl) (argsL := [(.int p2), (.int (0 : Int32))]) (rest := [(.int (nar .byte (((nar .byte (nar .byte (((p2.toUInt32 >>> (((8 : Int32) * (0 : Int32)) &&& 31).toUInt32).toInt32).toInt8.toInt32))) ^^^ (nar .byte (nar .byte (((p3.toUInt32 >>> (((8 : Int32) * (0 : Int32)) &&& 31).toUInt32).toInt32).toInt8.toInt32)))).toInt8.toInt32)))]) (lenOf pd_1 rfl) rfl (by show 2 * 0 + _ ≤ _; exact Nat.le_of_eq rfl) (hb hby d4_5) (fun _ _ => ⟨rfl, e0, (by decide : 0 + 0 ≤ _), (by decide : 0 + 0 ≤ _)⟩)
  dsimp only [Pt.U, Pt.locs, Pt.cells, Pt.slots] at X378 l378 y378 z378 st378 hQ378
  subst l378 y378 z378
  obtain ⟨rfl, N378q, e378⟩ := hQ378
  have N378 := Fr.app N0 N378q
  obtain ⟨_, _, ⟨T379, L379, k379, n379⟩, -, X379, ⟨Lc379, hQ379, l379, y379, z379⟩, st379⟩ := Jvm.LawKit.callS X378 hx (y := (⟨"com/example/rollcall/rollcall/bench/MilenageXorPinLaw", "oct", "(II)B"⟩ : MethodName)) hown (mvT hZ (hw _ (List.mem_of_getElem? (i := 5) rfl))) (mvT hZ (hw _ (List.mem_of_getElem? (i := 6) rfl))) (mvT hZ (hw _ (List.mem_of_getElem? (i := 2) rfl))) (mvT hZ (hw _ (List.mem_of_getElem? (i := 7) rfl))) (by decide) (backOf (W := 2) (rm2 l Z aw hw [] p3 ((0 : Int32)) h0 n0 Z0 ) hZ (hw _ (List.mem_of_getElem? (i := 7) rfl)) (hw _ (List.mem_of_getElem? (i := 2) rfl)) (by decide) (by decide)) (g := (mkF m 10 #[.val (.ref a0), .val (.int (0 : Int32)), .val (.int p2), .val (.int p3)] [(.int (0 : Int32)), (.int p3), (.int (nar .byte (((p2.toUInt32 >>> (((8 : Int32) * (0 : Int32)) &&& 31).toUInt32).toInt32).toInt8.toInt32))), (.int (nar .byte (((nar .byte (nar .byte (((p2.toUInt32 >>> (((8 : Int32) * (0 : Int32)) &&& 31).toUInt32).toInt32).toInt8.toInt32))) ^^^ (nar .byte (nar .byte (((p3.toUInt32 >>> (((8 : Int32) * (0 : Int32)) &&& 31).toUInt32).toInt32).toInt8.toInt32)))).toInt8.toInt32)))])) rfl (by rw [hml]; rfl) (argsL := [(.int p3), (.int (0 : Int32))]) (rest := [(.int (nar .byte (((p2.toUInt32 >>> (((8 : Int32) * (0 : Int32)) &&& 31).toUInt32).toInt32).toInt8.toInt32))), (.int (nar .byte (((nar .byte (nar .byte (((p2.toUInt32 >>> (((8 : Int32) * (0 : Int32)) &&& 31).toUInt32).toInt32).toInt8.toInt32))) ^^^ (nar .byte (nar .byte (((p3.toUInt32 >>> (((8 : Int32) * (0 : Int32)) &&& 31).toUInt32).toInt32).toInt8.toInt32)))).toInt8.toInt32)))]) (lenOf pd_1 rfl) rfl (by show 2 * 0 + _ ≤ _; exact Nat.le_of_eq rfl) (hb hby d4_10) (fun _ _ => ⟨rfl, e378, (by decide : 0 + 0 ≤ _), (by decide : 0 + 0 ≤ _)⟩)
  dsimp only [Pt.U, Pt.locs, Pt.cells, Pt.slots] at X379 l379 y379 z379 st379 hQ379
  subst l379 y379 z379
  obtain ⟨rfl, N379q, e379⟩ := hQ379
  have N379 := Fr.app N378 N379q
  obtain ⟨fs, hr, hrun, hended, hW, hsame⟩ := X379.leave (v := some (.int (1 : Int32))) (fun h => by rw [Bd.returns] at h; cases h)
  refine ⟨_, _, pre0 _ ?_, hrun, hended, _, _, rfl, ?_, ⟨_, rfl⟩, hW, hsame.mono (by decide) (by decide)⟩
  · skip
    show Steps p.tables e below (s₁.setTop (mkF m 0 #[.val (.ref a0), .val (.int (0 : Int32)), .val (.int p2), .val (.int p3)] [])) _
    refine XS.aloadN X0.here hx rfl (hb hby d4_0) rfl rfl ?_
    show Steps p.tables e below (s₁.setTop (mkF m 1 #[.val (.ref a0), .val (.int (0 : Int32)), .val (.int p2), .val (.int p3)] [(.ref a0)])) _
    refine XS.iloadN X0.here hx rfl (hb hby d4_1) rfl ?_
    show Steps p.tables e below (s₁.setTop (mkF m 2 #[.val (.ref a0), .val (.int (0 : Int32)), .val (.int p2), .val (.int p3)] [(.int (0 : Int32)), (.ref a0)])) _
    refine X0.baloadBytes hx (j := (0 : Int32)) (v := (.int (nar .byte (((nar .byte (nar .byte (((p2.toUInt32 >>> (((8 : Int32) * (0 : Int32)) &&& 31).toUInt32).toInt32).toInt8.toInt32))) ^^^ (nar .byte (nar .byte (((p3.toUInt32 >>> (((8 : Int32) * (0 : Int32)) &&& 31).toUInt32).toInt32).toInt8.toInt32)))).toInt8.toInt32)))) (by rw [e0]; exact Ar375.1) (State.isArrayOf_alike hZ.alike Ar375.2.1) Ar375.2.2 hin376 hat377 (g := (mkF m 2 #[.val (.ref a0), .val (.int (0 : Int32)), .val (.int p2), .val (.int p3)] [(.int (0 : Int32)), (.ref a0)])) rfl rfl (hb hby d4_2) _ ?_
    show Steps p.tables e below (s₁.setTop (mkF m 3 #[.val (.ref a0), .val (.int (0 : Int32)), .val (.int p2), .val (.int p3)] [(.int (nar .byte (((nar .byte (nar .byte (((p2.toUInt32 >>> (((8 : Int32) * (0 : Int32)) &&& 31).toUInt32).toInt32).toInt8.toInt32))) ^^^ (nar .byte (nar .byte (((p3.toUInt32 >>> (((8 : Int32) * (0 : Int32)) &&& 31).toUInt32).toInt32).toInt8.toInt32)))).toInt8.toInt32)))])) _
    refine XS.iloadN X0.here hx rfl (hb hby d4_3) rfl ?_
    show Steps p.tables e below (s₁.setTop (mkF m 4 #[.val (.ref a0), .val (.int (0 : Int32)), .val (.int p2), .val (.int p3)] [(.int p2), (.int (nar .byte (((nar .byte (nar .byte (((p2.toUInt32 >>> (((8 : Int32) * (0 : Int32)) &&& 31).toUInt32).toInt32).toInt8.toInt32))) ^^^ (nar .byte (nar .byte (((p3.toUInt32 >>> (((8 : Int32) * (0 : Int32)) &&& 31).toUInt32).toInt32).toInt8.toInt32)))).toInt8.toInt32)))])) _
    refine XS.iloadN X0.here hx rfl (hb hby d4_4) rfl ?_
    show Steps p.tables e below (s₁.setTop (mkF m 5 #[.val (.ref a0), .val (.int (0 : Int32)), .val (.int p2), .val (.int p3)] [(.int (0 : Int32)), (.int p2), (.int (nar .byte (((nar .byte (nar .byte (((p2.toUInt32 >>> (((8 : Int32) * (0 : Int32)) &&& 31).toUInt32).toInt32).toInt8.toInt32))) ^^^ (nar .byte (nar .byte (((p3.toUInt32 >>> (((8 : Int32) * (0 : Int32)) &&& 31).toUInt32).toInt32).toInt8.toInt32)))).toInt8.toInt32)))])) _
    refine st378 _ ?_
    show Steps p.tables e below (T378.setTop (mkF m 8 #[.val (.ref a0), .val (.int (0 : Int32)), .val (.int p2), .val (.int p3)] [(.int (nar .byte (((p2.toUInt32 >>> (((8 : Int32) * (0 : Int32)) &&& 31).toUInt32).toInt32).toInt8.toInt32))), (.int (nar .byte (((nar .byte (nar .byte (((p2.toUInt32 >>> (((8 : Int32) * (0 : Int32)) &&& 31).toUInt32).toInt32).toInt8.toInt32))) ^^^ (nar .byte (nar .byte (((p3.toUInt32 >>> (((8 : Int32) * (0 : Int32)) &&& 31).toUInt32).toInt32).toInt8.toInt32)))).toInt8.toInt32)))])) _
    refine XS.iloadN X378.here hx rfl (hb hby d4_8) rfl ?_
    show Steps p.tables e below (T378.setTop (mkF m 9 #[.val (.ref a0), .val (.int (0 : Int32)), .val (.int p2), .val (.int p3)] [(.int p3), (.int (nar .byte (((p2.toUInt32 >>> (((8 : Int32) * (0 : Int32)) &&& 31).toUInt32).toInt32).toInt8.toInt32))), (.int (nar .byte (((nar .byte (nar .byte (((p2.toUInt32 >>> (((8 : Int32) * (0 : Int32)) &&& 31).toUInt32).toInt32).toInt8.toInt32))) ^^^ (nar .byte (nar .byte (((p3.toUInt32 >>> (((8 : Int32) * (0 : Int32)) &&& 31).toUInt32).toInt32).toInt8.toInt32)))).toInt8.toInt32)))])) _
    refine XS.iloadN X378.here hx rfl (hb hby d4_9) rfl ?_
    show Steps p.tables e below (T378.setTop (mkF m 10 #[.val (.ref a0), .val (.int (0 : Int32)), .val (.int p2), .val (.int p3)] [(.int (0 : Int32)), (.int p3), (.int (nar .byte (((p2.toUInt32 >>> (((8 : Int32) * (0 : Int32)) &&& 31).toUInt32).toInt32).toInt8.toInt32))), (.int (nar .byte (((nar .byte (nar .byte (((p2.toUInt32 >>> (((8 : Int32) * (0 : Int32)) &&& 31).toUInt32).toInt32).toInt8.toInt32))) ^^^ (nar .byte (nar .byte (((p3.toUInt32 >>> (((8 : Int32) * (0 : Int32)) &&& 31).toUInt32).toInt32).toInt8.toInt32)))).toInt8.toInt32)))])) _
    refine st379 _ ?_
    show Steps p.tables e below (T379.setTop (mkF m 13 #[.val (.ref a0), .val (.int (0 : Int32)), .val (.int p2), .val (.int p3)] [(.int (nar .byte (((p3.toUInt32 >>> (((8 : Int32) * (0 : Int32)) &&& 31).toUInt32).toInt32).toInt8.toInt32))), (.int (nar .byte (((p2.toUInt32 >>> (((8 : Int32) * (0 : Int32)) &&& 31).toUInt32).toInt32).toInt8.toInt32))), (.int (nar .byte (((nar .byte (nar .byte (((p2.toUInt32 >>> (((8 : Int32) * (0 : Int32)) &&& 31).toUInt32).toInt32).toInt8.toInt32))) ^^^ (nar .byte (nar .byte (((p3.toUInt32 >>> (((8 : Int32) * (0 : Int32)) &&& 31).toUInt32).toInt32).toInt8.toInt32)))).toInt8.toInt32)))])) _
    refine XS.ixor X379.here hx rfl (hb hby d4_13) rfl ?_
    show Steps p.tables e below (T379.setTop (mkF m 14 #[.val (.ref a0), .val (.int (0 : Int32)), .val (.int p2), .val (.int p3)] [(.int ((nar .byte (((p2.toUInt32 >>> (((8 : Int32) * (0 : Int32)) &&& 31).toUInt32).toInt32).toInt8.toInt32)) ^^^ (nar .byte (((p3.toUInt32 >>> (((8 : Int32) * (0 : Int32)) &&& 31).toUInt32).toInt32).toInt8.toInt32)))), (.int (nar .byte (((nar .byte (nar .byte (((p2.toUInt32 >>> (((8 : Int32) * (0 : Int32)) &&& 31).toUInt32).toInt32).toInt8.toInt32))) ^^^ (nar .byte (nar .byte (((p3.toUInt32 >>> (((8 : Int32) * (0 : Int32)) &&& 31).toUInt32).toInt32).toInt8.toInt32)))).toInt8.toInt32)))])) _
    refine XS.i2b X379.here hx rfl (hb hby d4_14) rfl ?_
    show Steps p.tables e below (T379.setTop (mkF m 15 #[.val (.ref a0), .val (.int (0 : Int32)), .val (.int p2), .val (.int p3)] [(.int (((nar .byte (((p2.toUInt32 >>> (((8 : Int32) * (0 : Int32)) &&& 31).toUInt32).toInt32).toInt8.toInt32)) ^^^ (nar .byte (((p3.toUInt32 >>> (((8 : Int32) * (0 : Int32)) &&& 31).toUInt32).toInt32).toInt8.toInt32))).toInt8.toInt32)), (.int (nar .byte (((nar .byte (nar .byte (((p2.toUInt32 >>> (((8 : Int32) * (0 : Int32)) &&& 31).toUInt32).toInt32).toInt8.toInt32))) ^^^ (nar .byte (nar .byte (((p3.toUInt32 >>> (((8 : Int32) * (0 : Int32)) &&& 31).toUInt32).toInt32).toInt8.toInt32)))).toInt8.toInt32)))])) _
    refine XS.icmpNo X379.here hx rfl (hb hby d4_15) rfl (teq (own_xx _ _)).2 ?_
    show Steps p.tables e below (T379.setTop (mkF m 18 #[.val (.ref a0), .val (.int (0 : Int32)), .val (.int p2), .val (.int p3)] [])) _
    refine XS.iconst X379.here hx rfl (hb hby d4_18) ?_
    show Steps p.tables e below (T379.setTop (mkF m 19 #[.val (.ref a0), .val (.int (0 : Int32)), .val (.int p2), .val (.int p3)] [(.int (1 : Int32))])) _
    refine XS.goto X379.here hx rfl (pc0 := 19) (pc' := 23) rfl (hb hby d4_19) (by decide) (by decide) ?_
    show Steps p.tables e below (T379.setTop (mkF m 23 #[.val (.ref a0), .val (.int (0 : Int32)), .val (.int p2), .val (.int p3)] [(.int (1 : Int32))])) _
    exact retN X379 hx (t := .boolean) Bd.returns (by simp) (hb hby d4_23) hr
  · show Q4_3_0 Z a0 p2 p3 k_a0 h0 n0 _ T379.heap _
    rw [e379]
    exact ⟨rfl, N379, rfl⟩
theorem ef4_3_1 (m : MethodId) (x0 : Addr) (x1 : Int32) (x2 : Int32) (x3 : Int32) : entryFrame m #[(.ref x0), (.int x1), (.int x2), (.int x3)] 4 = mkF m 0 #[.val (.ref x0), .val (.int x1), .val (.int x2), .val (.int x3)] [] := by first | (simp [entryFrame, mkF, argsToLocals, Value.category]; done) | rfl
abbrev rr4_3_1 : Room := { frames := 1, cells := 0, slots := 0, locals := 15 }
def Q4_3_1 (Z : State) (a0 : Addr) (p2 : Int32) (p3 : Int32) (k_a0 : ClassId) (h0 : Heap) (n0 : Nat) (v : Option Value) (h : Heap) (L : List Loc) : Prop := v = some (.int (1 : Int32)) ∧ Fr n0 L ∧ h = h0
set_option maxRecDepth 65536 in
set_option maxHeartbeats 40000000 in
theorem rm4_3_1 (l : Launch) (Z : State) (aw : Array Value) (hw : ∀ d ∈ tables_1, d.before aw Z = true) (ws : List Jvm.Cond) (a0 : Addr) (p2 : Int32) (p3 : Int32) (k_a0 : ClassId) (h0 : Heap) (n0 : Nat) (Z0 : n0 ≤ h0.size) (V_a0 : Arv Z h0 a0 k_a0 .byte (3 : Int32) [(.int (nar .byte (((nar .byte (nar .byte (((p2.toUInt32 >>> (((8 : Int32) * (0 : Int32)) &&& 31).toUInt32).toInt32).toInt8.toInt32))) ^^^ (nar .byte (nar .byte (((p3.toUInt32 >>> (((8 : Int32) * (0 : Int32)) &&& 31).toUInt32).toInt32).toInt8.toInt32)))).toInt8.toInt32))), (.int (nar .byte (((nar .byte (nar .byte (((p2.toUInt32 >>> (((8 : Int32) * (1 : Int32)) &&& 31).toUInt32).toInt32).toInt8.toInt32))) ^^^ (nar .byte (nar .byte (((p3.toUInt32 >>> (((8 : Int32) * (1 : Int32)) &&& 31).toUInt32).toInt32).toInt8.toInt32)))).toInt8.toInt32))), (.int (nar .byte (((nar .byte (nar .byte (((p2.toUInt32 >>> (((8 : Int32) * (2 : Int32)) &&& 31).toUInt32).toInt32).toInt8.toInt32))) ^^^ (nar .byte (nar .byte (((p3.toUInt32 >>> (((8 : Int32) * (2 : Int32)) &&& 31).toUInt32).toInt32).toInt8.toInt32)))).toInt8.toInt32)))] (.int (0 : Int32))) :
    MetFree l (⟨"com/example/rollcall/rollcall/bench/MilenageXorPinLaw", "at", "([BIII)Z"⟩ : MethodName) (head1 (Jvm.Cond.code (⟨"com/example/rollcall/rollcall/bench/MilenageXorPinLaw", "at", "([BIII)Z"⟩ : MethodName) method_5_code 4 (some .boolean) :: ws) rr4_3_1) (fun a U => a = #[(.ref a0), (.int (1 : Int32)), (.int p2), (.int p3)] ∧ Z.Warmed39 U.vm ∧ U.heap = h0) (fun _ _ _ _ _ => True) (fun _ U o U' => ∃ v L, o = .returned v ∧ Q4_3_1 Z a0 p2 p3 k_a0 h0 n0 v U'.heap L ∧ FrameEnd U o U' L rr4_3_1.cells rr4_3_1.slots) := by
  refine MetFree.of_bodySF (plainFor_of_name pn_1) hisR ?_
  intro p e s m args below meth c s₁ Bd hml0 hP hK
  obtain ⟨rfl, hZ, hh⟩ := hP
  have hx := Bd.exec
  have hby := Bd.bytes
  have hml : c.maxLocals = 4 := hml0
  have hown : s.vm.findClass "com/example/rollcall/rollcall/bench/MilenageXorPinLaw" = some m.cls := findClass_of_methodNamed Bd.named
  have hnm := (name_of_methodNamed Bd.named Bd.method).1
  have X0 : Stand p l e rr4_3_1 s m #[(.ref a0), (.int (1 : Int32)), (.int p2), (.int p3)] below meth c s₁ [] 0 0 := Stand.of_body Bd
  have e0 : s₁.heap = h0 := by rw [← hh, Bd.state]; rfl
  have N0 := Fr.nil n0
  have pre0 : ∀ t, Steps p.tables e below (s₁.setTop (mkF m 0 #[.val (.ref a0), .val (.int (1 : Int32)), .val (.int p2), .val (.int p3)] [])) t → Steps p.tables e below (s₁.setTop (entryFrame m #[(.ref a0), (.int (1 : Int32)), (.int p2), (.int p3)] 4)) t := fun t k => castTop (ef4_3_1 m a0 (1 : Int32) p2 p3) k
  obtain ⟨cl380, Ar380, q380, S380, M380, H380, G380⟩ := id V_a0
  have hin381 : ¬ ((1 : Int32) < 0 ∨ cl380.slots.size ≤ ((1 : Int32)).toNatClampNeg) := inb_of S380 ⟨by decide, by decide⟩
  have hat382 : cl380.slots[((1 : Int32)).toNatClampNeg]? = some (.int (nar .byte (((nar .byte (nar .byte (((p2.toUInt32 >>> (((8 : Int32) * (1 : Int32)) &&& 31).toUInt32).toInt32).toInt8.toInt32))) ^^^ (nar .byte (nar .byte (((p3.toUInt32 >>> (((8 : Int32) * (1 : Int32)) &&& 31).toUInt32).toInt32).toInt8.toInt32)))).toInt8.toInt32))) := H380.at hin381 rfl
  obtain ⟨_, _, ⟨T383, L383, k383, n383⟩, -, X383, ⟨Lc383, hQ383, l383, y383, z383⟩, st383⟩ := Jvm.LawKit.callS X0 hx (y := (⟨"com/example/rollcall/rollcall/bench/MilenageXorPinLaw", "oct", "(II)B"⟩ : MethodName)) hown (mvT hZ (hw _ (List.mem_of_getElem? (i := 5) rfl))) (mvT hZ (hw _ (List.mem_of_getElem? (i := 6) rfl))) (mvT hZ (hw _ (List.mem_of_getElem? (i := 2) rfl))) (mvT hZ (hw _ (List.mem_of_getElem? (i := 7) rfl))) (by decide) (backOf (W := 1) (rm2 l Z aw hw [] p2 ((1 : Int32)) h0 n0 Z0 ) hZ (hw _ (List.mem_of_getElem? (i := 7) rfl)) (hw _ (List.mem_of_getElem? (i := 2) rfl)) (by decide) (by decide)) (g := (mkF m 5 #[.val (.ref a0), .val (.int (1 : Int32)), .val (.int p2), .val (.int p3)] [(.int (1 : Int32)), (.int p2), (.int (nar .byte (((nar .byte (nar .byte (((p2.toUInt32 >>> (((8 : Int32) * (1 : Int32)) &&& 31).toUInt32).toInt32).toInt8.toInt32))) ^^^ (nar .byte (nar .byte (((p3.toUInt32 >>> (((8 : Int32) * (1 : Int32)) &&& 31).toUInt32).toInt32).toInt8.toInt32)))).toInt8.toInt32)))])) rfl (by rw [hml]; rfl) (argsL := [(.int p2), (.int (1 : Int32))]) (rest := [(.int (nar .byte (((nar .byte (nar .byte (((p2.toUInt32 >>> (((8 : Int32) * (1 : Int32)) &&& 31).toUInt32).toInt32).toInt8.toInt32))) ^^^ (nar .byte (nar .byte (((p3.toUInt32 >>> (((8 : Int32) * (1 : Int32)) &&& 31).toUInt32).toInt32).toInt8.toInt32)))).toInt8.toInt32)))]) (lenOf pd_1 rfl) rfl (by show 2 * 0 + _ ≤ _; exact Nat.le_of_eq rfl) (hb hby d4_5) (fun _ _ => ⟨rfl, e0, (by decide : 0 + 0 ≤ _), (by decide : 0 + 0 ≤ _)⟩)
  dsimp only [Pt.U, Pt.locs, Pt.cells, Pt.slots] at X383 l383 y383 z383 st383 hQ383
  subst l383 y383 z383
  obtain ⟨rfl, N383q, e383⟩ := hQ383
  have N383 := Fr.app N0 N383q
  obtain ⟨_, _, ⟨T384, L384, k384, n384⟩, -, X384, ⟨Lc384, hQ384, l384, y384, z384⟩, st384⟩ := Jvm.LawKit.callS X383 hx (y := (⟨"com/example/rollcall/rollcall/bench/MilenageXorPinLaw", "oct", "(II)B"⟩ : MethodName)) hown (mvT hZ (hw _ (List.mem_of_getElem? (i := 5) rfl))) (mvT hZ (hw _ (List.mem_of_getElem? (i := 6) rfl))) (mvT hZ (hw _ (List.mem_of_getElem? (i := 2) rfl))) (mvT hZ (hw _ (List.mem_of_getElem? (i := 7) rfl))) (by decide) (backOf (W := 2) (rm2 l Z aw hw [] p3 ((1 : Int32)) h0 n0 Z0 ) hZ (hw _ (List.mem_of_getElem? (i := 7) rfl)) (hw _ (List.mem_of_getElem? (i := 2) rfl)) (by decide) (by decide)) (g := (mkF m 10 #[.val (.ref a0), .val (.int (1 : Int32)), .val (.int p2), .val (.int p3)] [(.int (1 : Int32)), (.int p3), (.int (nar .byte (((p2.toUInt32 >>> (((8 : Int32) * (1 : Int32)) &&& 31).toUInt32).toInt32).toInt8.toInt32))), (.int (nar .byte (((nar .byte (nar .byte (((p2.toUInt32 >>> (((8 : Int32) * (1 : Int32)) &&& 31).toUInt32).toInt32).toInt8.toInt32))) ^^^ (nar .byte (nar .byte (((p3.toUInt32 >>> (((8 : Int32) * (1 : Int32)) &&& 31).toUInt32).toInt32).toInt8.toInt32)))).toInt8.toInt32)))])) rfl (by rw [hml]; rfl) (argsL := [(.int p3), (.int (1 : Int32))]) (rest := [(.int (nar .byte (((p2.toUInt32 >>> (((8 : Int32) * (1 : Int32)) &&& 31).toUInt32).toInt32).toInt8.toInt32))), (.int (nar .byte (((nar .byte (nar .byte (((p2.toUInt32 >>> (((8 : Int32) * (1 : Int32)) &&& 31).toUInt32).toInt32).toInt8.toInt32))) ^^^ (nar .byte (nar .byte (((p3.toUInt32 >>> (((8 : Int32) * (1 : Int32)) &&& 31).toUInt32).toInt32).toInt8.toInt32)))).toInt8.toInt32)))]) (lenOf pd_1 rfl) rfl (by show 2 * 0 + _ ≤ _; exact Nat.le_of_eq rfl) (hb hby d4_10) (fun _ _ => ⟨rfl, e383, (by decide : 0 + 0 ≤ _), (by decide : 0 + 0 ≤ _)⟩)
  dsimp only [Pt.U, Pt.locs, Pt.cells, Pt.slots] at X384 l384 y384 z384 st384 hQ384
  subst l384 y384 z384
  obtain ⟨rfl, N384q, e384⟩ := hQ384
  have N384 := Fr.app N383 N384q
  obtain ⟨fs, hr, hrun, hended, hW, hsame⟩ := X384.leave (v := some (.int (1 : Int32))) (fun h => by rw [Bd.returns] at h; cases h)
  refine ⟨_, _, pre0 _ ?_, hrun, hended, _, _, rfl, ?_, ⟨_, rfl⟩, hW, hsame.mono (by decide) (by decide)⟩
  · skip
    show Steps p.tables e below (s₁.setTop (mkF m 0 #[.val (.ref a0), .val (.int (1 : Int32)), .val (.int p2), .val (.int p3)] [])) _
    refine XS.aloadN X0.here hx rfl (hb hby d4_0) rfl rfl ?_
    show Steps p.tables e below (s₁.setTop (mkF m 1 #[.val (.ref a0), .val (.int (1 : Int32)), .val (.int p2), .val (.int p3)] [(.ref a0)])) _
    refine XS.iloadN X0.here hx rfl (hb hby d4_1) rfl ?_
    show Steps p.tables e below (s₁.setTop (mkF m 2 #[.val (.ref a0), .val (.int (1 : Int32)), .val (.int p2), .val (.int p3)] [(.int (1 : Int32)), (.ref a0)])) _
    refine X0.baloadBytes hx (j := (1 : Int32)) (v := (.int (nar .byte (((nar .byte (nar .byte (((p2.toUInt32 >>> (((8 : Int32) * (1 : Int32)) &&& 31).toUInt32).toInt32).toInt8.toInt32))) ^^^ (nar .byte (nar .byte (((p3.toUInt32 >>> (((8 : Int32) * (1 : Int32)) &&& 31).toUInt32).toInt32).toInt8.toInt32)))).toInt8.toInt32)))) (by rw [e0]; exact Ar380.1) (State.isArrayOf_alike hZ.alike Ar380.2.1) Ar380.2.2 hin381 hat382 (g := (mkF m 2 #[.val (.ref a0), .val (.int (1 : Int32)), .val (.int p2), .val (.int p3)] [(.int (1 : Int32)), (.ref a0)])) rfl rfl (hb hby d4_2) _ ?_
    show Steps p.tables e below (s₁.setTop (mkF m 3 #[.val (.ref a0), .val (.int (1 : Int32)), .val (.int p2), .val (.int p3)] [(.int (nar .byte (((nar .byte (nar .byte (((p2.toUInt32 >>> (((8 : Int32) * (1 : Int32)) &&& 31).toUInt32).toInt32).toInt8.toInt32))) ^^^ (nar .byte (nar .byte (((p3.toUInt32 >>> (((8 : Int32) * (1 : Int32)) &&& 31).toUInt32).toInt32).toInt8.toInt32)))).toInt8.toInt32)))])) _
    refine XS.iloadN X0.here hx rfl (hb hby d4_3) rfl ?_
    show Steps p.tables e below (s₁.setTop (mkF m 4 #[.val (.ref a0), .val (.int (1 : Int32)), .val (.int p2), .val (.int p3)] [(.int p2), (.int (nar .byte (((nar .byte (nar .byte (((p2.toUInt32 >>> (((8 : Int32) * (1 : Int32)) &&& 31).toUInt32).toInt32).toInt8.toInt32))) ^^^ (nar .byte (nar .byte (((p3.toUInt32 >>> (((8 : Int32) * (1 : Int32)) &&& 31).toUInt32).toInt32).toInt8.toInt32)))).toInt8.toInt32)))])) _
    refine XS.iloadN X0.here hx rfl (hb hby d4_4) rfl ?_
    show Steps p.tables e below (s₁.setTop (mkF m 5 #[.val (.ref a0), .val (.int (1 : Int32)), .val (.int p2), .val (.int p3)] [(.int (1 : Int32)), (.int p2), (.int (nar .byte (((nar .byte (nar .byte (((p2.toUInt32 >>> (((8 : Int32) * (1 : Int32)) &&& 31).toUInt32).toInt32).toInt8.toInt32))) ^^^ (nar .byte (nar .byte (((p3.toUInt32 >>> (((8 : Int32) * (1 : Int32)) &&& 31).toUInt32).toInt32).toInt8.toInt32)))).toInt8.toInt32)))])) _
    refine st383 _ ?_
    show Steps p.tables e below (T383.setTop (mkF m 8 #[.val (.ref a0), .val (.int (1 : Int32)), .val (.int p2), .val (.int p3)] [(.int (nar .byte (((p2.toUInt32 >>> (((8 : Int32) * (1 : Int32)) &&& 31).toUInt32).toInt32).toInt8.toInt32))), (.int (nar .byte (((nar .byte (nar .byte (((p2.toUInt32 >>> (((8 : Int32) * (1 : Int32)) &&& 31).toUInt32).toInt32).toInt8.toInt32))) ^^^ (nar .byte (nar .byte (((p3.toUInt32 >>> (((8 : Int32) * (1 : Int32)) &&& 31).toUInt32).toInt32).toInt8.toInt32)))).toInt8.toInt32)))])) _
    refine XS.iloadN X383.here hx rfl (hb hby d4_8) rfl ?_
    show Steps p.tables e below (T383.setTop (mkF m 9 #[.val (.ref a0), .val (.int (1 : Int32)), .val (.int p2), .val (.int p3)] [(.int p3), (.int (nar .byte (((p2.toUInt32 >>> (((8 : Int32) * (1 : Int32)) &&& 31).toUInt32).toInt32).toInt8.toInt32))), (.int (nar .byte (((nar .byte (nar .byte (((p2.toUInt32 >>> (((8 : Int32) * (1 : Int32)) &&& 31).toUInt32).toInt32).toInt8.toInt32))) ^^^ (nar .byte (nar .byte (((p3.toUInt32 >>> (((8 : Int32) * (1 : Int32)) &&& 31).toUInt32).toInt32).toInt8.toInt32)))).toInt8.toInt32)))])) _
    refine XS.iloadN X383.here hx rfl (hb hby d4_9) rfl ?_
    show Steps p.tables e below (T383.setTop (mkF m 10 #[.val (.ref a0), .val (.int (1 : Int32)), .val (.int p2), .val (.int p3)] [(.int (1 : Int32)), (.int p3), (.int (nar .byte (((p2.toUInt32 >>> (((8 : Int32) * (1 : Int32)) &&& 31).toUInt32).toInt32).toInt8.toInt32))), (.int (nar .byte (((nar .byte (nar .byte (((p2.toUInt32 >>> (((8 : Int32) * (1 : Int32)) &&& 31).toUInt32).toInt32).toInt8.toInt32))) ^^^ (nar .byte (nar .byte (((p3.toUInt32 >>> (((8 : Int32) * (1 : Int32)) &&& 31).toUInt32).toInt32).toInt8.toInt32)))).toInt8.toInt32)))])) _
    refine st384 _ ?_
    show Steps p.tables e below (T384.setTop (mkF m 13 #[.val (.ref a0), .val (.int (1 : Int32)), .val (.int p2), .val (.int p3)] [(.int (nar .byte (((p3.toUInt32 >>> (((8 : Int32) * (1 : Int32)) &&& 31).toUInt32).toInt32).toInt8.toInt32))), (.int (nar .byte (((p2.toUInt32 >>> (((8 : Int32) * (1 : Int32)) &&& 31).toUInt32).toInt32).toInt8.toInt32))), (.int (nar .byte (((nar .byte (nar .byte (((p2.toUInt32 >>> (((8 : Int32) * (1 : Int32)) &&& 31).toUInt32).toInt32).toInt8.toInt32))) ^^^ (nar .byte (nar .byte (((p3.toUInt32 >>> (((8 : Int32) * (1 : Int32)) &&& 31).toUInt32).toInt32).toInt8.toInt32)))).toInt8.toInt32)))])) _
    refine XS.ixor X384.here hx rfl (hb hby d4_13) rfl ?_
    show Steps p.tables e below (T384.setTop (mkF m 14 #[.val (.ref a0), .val (.int (1 : Int32)), .val (.int p2), .val (.int p3)] [(.int ((nar .byte (((p2.toUInt32 >>> (((8 : Int32) * (1 : Int32)) &&& 31).toUInt32).toInt32).toInt8.toInt32)) ^^^ (nar .byte (((p3.toUInt32 >>> (((8 : Int32) * (1 : Int32)) &&& 31).toUInt32).toInt32).toInt8.toInt32)))), (.int (nar .byte (((nar .byte (nar .byte (((p2.toUInt32 >>> (((8 : Int32) * (1 : Int32)) &&& 31).toUInt32).toInt32).toInt8.toInt32))) ^^^ (nar .byte (nar .byte (((p3.toUInt32 >>> (((8 : Int32) * (1 : Int32)) &&& 31).toUInt32).toInt32).toInt8.toInt32)))).toInt8.toInt32)))])) _
    refine XS.i2b X384.here hx rfl (hb hby d4_14) rfl ?_
    show Steps p.tables e below (T384.setTop (mkF m 15 #[.val (.ref a0), .val (.int (1 : Int32)), .val (.int p2), .val (.int p3)] [(.int (((nar .byte (((p2.toUInt32 >>> (((8 : Int32) * (1 : Int32)) &&& 31).toUInt32).toInt32).toInt8.toInt32)) ^^^ (nar .byte (((p3.toUInt32 >>> (((8 : Int32) * (1 : Int32)) &&& 31).toUInt32).toInt32).toInt8.toInt32))).toInt8.toInt32)), (.int (nar .byte (((nar .byte (nar .byte (((p2.toUInt32 >>> (((8 : Int32) * (1 : Int32)) &&& 31).toUInt32).toInt32).toInt8.toInt32))) ^^^ (nar .byte (nar .byte (((p3.toUInt32 >>> (((8 : Int32) * (1 : Int32)) &&& 31).toUInt32).toInt32).toInt8.toInt32)))).toInt8.toInt32)))])) _
    refine XS.icmpNo X384.here hx rfl (hb hby d4_15) rfl (teq (own_xx _ _)).2 ?_
    show Steps p.tables e below (T384.setTop (mkF m 18 #[.val (.ref a0), .val (.int (1 : Int32)), .val (.int p2), .val (.int p3)] [])) _
    refine XS.iconst X384.here hx rfl (hb hby d4_18) ?_
    show Steps p.tables e below (T384.setTop (mkF m 19 #[.val (.ref a0), .val (.int (1 : Int32)), .val (.int p2), .val (.int p3)] [(.int (1 : Int32))])) _
    refine XS.goto X384.here hx rfl (pc0 := 19) (pc' := 23) rfl (hb hby d4_19) (by decide) (by decide) ?_
    show Steps p.tables e below (T384.setTop (mkF m 23 #[.val (.ref a0), .val (.int (1 : Int32)), .val (.int p2), .val (.int p3)] [(.int (1 : Int32))])) _
    exact retN X384 hx (t := .boolean) Bd.returns (by simp) (hb hby d4_23) hr
  · show Q4_3_1 Z a0 p2 p3 k_a0 h0 n0 _ T384.heap _
    rw [e384]
    exact ⟨rfl, N384, rfl⟩
theorem ef4_3_2 (m : MethodId) (x0 : Addr) (x1 : Int32) (x2 : Int32) (x3 : Int32) : entryFrame m #[(.ref x0), (.int x1), (.int x2), (.int x3)] 4 = mkF m 0 #[.val (.ref x0), .val (.int x1), .val (.int x2), .val (.int x3)] [] := by first | (simp [entryFrame, mkF, argsToLocals, Value.category]; done) | rfl
abbrev rr4_3_2 : Room := { frames := 1, cells := 0, slots := 0, locals := 15 }
def Q4_3_2 (Z : State) (a0 : Addr) (p2 : Int32) (p3 : Int32) (k_a0 : ClassId) (h0 : Heap) (n0 : Nat) (v : Option Value) (h : Heap) (L : List Loc) : Prop := v = some (.int (1 : Int32)) ∧ Fr n0 L ∧ h = h0
set_option maxRecDepth 65536 in
set_option maxHeartbeats 40000000 in
theorem rm4_3_2 (l : Launch) (Z : State) (aw : Array Value) (hw : ∀ d ∈ tables_1, d.before aw Z = true) (ws : List Jvm.Cond) (a0 : Addr) (p2 : Int32) (p3 : Int32) (k_a0 : ClassId) (h0 : Heap) (n0 : Nat) (Z0 : n0 ≤ h0.size) (V_a0 : Arv Z h0 a0 k_a0 .byte (3 : Int32) [(.int (nar .byte (((nar .byte (nar .byte (((p2.toUInt32 >>> (((8 : Int32) * (0 : Int32)) &&& 31).toUInt32).toInt32).toInt8.toInt32))) ^^^ (nar .byte (nar .byte (((p3.toUInt32 >>> (((8 : Int32) * (0 : Int32)) &&& 31).toUInt32).toInt32).toInt8.toInt32)))).toInt8.toInt32))), (.int (nar .byte (((nar .byte (nar .byte (((p2.toUInt32 >>> (((8 : Int32) * (1 : Int32)) &&& 31).toUInt32).toInt32).toInt8.toInt32))) ^^^ (nar .byte (nar .byte (((p3.toUInt32 >>> (((8 : Int32) * (1 : Int32)) &&& 31).toUInt32).toInt32).toInt8.toInt32)))).toInt8.toInt32))), (.int (nar .byte (((nar .byte (nar .byte (((p2.toUInt32 >>> (((8 : Int32) * (2 : Int32)) &&& 31).toUInt32).toInt32).toInt8.toInt32))) ^^^ (nar .byte (nar .byte (((p3.toUInt32 >>> (((8 : Int32) * (2 : Int32)) &&& 31).toUInt32).toInt32).toInt8.toInt32)))).toInt8.toInt32)))] (.int (0 : Int32))) :
    MetFree l (⟨"com/example/rollcall/rollcall/bench/MilenageXorPinLaw", "at", "([BIII)Z"⟩ : MethodName) (head1 (Jvm.Cond.code (⟨"com/example/rollcall/rollcall/bench/MilenageXorPinLaw", "at", "([BIII)Z"⟩ : MethodName) method_5_code 4 (some .boolean) :: ws) rr4_3_2) (fun a U => a = #[(.ref a0), (.int (2 : Int32)), (.int p2), (.int p3)] ∧ Z.Warmed39 U.vm ∧ U.heap = h0) (fun _ _ _ _ _ => True) (fun _ U o U' => ∃ v L, o = .returned v ∧ Q4_3_2 Z a0 p2 p3 k_a0 h0 n0 v U'.heap L ∧ FrameEnd U o U' L rr4_3_2.cells rr4_3_2.slots) := by
  refine MetFree.of_bodySF (plainFor_of_name pn_1) hisR ?_
  intro p e s m args below meth c s₁ Bd hml0 hP hK
  obtain ⟨rfl, hZ, hh⟩ := hP
  have hx := Bd.exec
  have hby := Bd.bytes
  have hml : c.maxLocals = 4 := hml0
  have hown : s.vm.findClass "com/example/rollcall/rollcall/bench/MilenageXorPinLaw" = some m.cls := findClass_of_methodNamed Bd.named
  have hnm := (name_of_methodNamed Bd.named Bd.method).1
  have X0 : Stand p l e rr4_3_2 s m #[(.ref a0), (.int (2 : Int32)), (.int p2), (.int p3)] below meth c s₁ [] 0 0 := Stand.of_body Bd
  have e0 : s₁.heap = h0 := by rw [← hh, Bd.state]; rfl
  have N0 := Fr.nil n0
  have pre0 : ∀ t, Steps p.tables e below (s₁.setTop (mkF m 0 #[.val (.ref a0), .val (.int (2 : Int32)), .val (.int p2), .val (.int p3)] [])) t → Steps p.tables e below (s₁.setTop (entryFrame m #[(.ref a0), (.int (2 : Int32)), (.int p2), (.int p3)] 4)) t := fun t k => castTop (ef4_3_2 m a0 (2 : Int32) p2 p3) k
  obtain ⟨cl385, Ar385, q385, S385, M385, H385, G385⟩ := id V_a0
  have hin386 : ¬ ((2 : Int32) < 0 ∨ cl385.slots.size ≤ ((2 : Int32)).toNatClampNeg) := inb_of S385 ⟨by decide, by decide⟩
  have hat387 : cl385.slots[((2 : Int32)).toNatClampNeg]? = some (.int (nar .byte (((nar .byte (nar .byte (((p2.toUInt32 >>> (((8 : Int32) * (2 : Int32)) &&& 31).toUInt32).toInt32).toInt8.toInt32))) ^^^ (nar .byte (nar .byte (((p3.toUInt32 >>> (((8 : Int32) * (2 : Int32)) &&& 31).toUInt32).toInt32).toInt8.toInt32)))).toInt8.toInt32))) := H385.at hin386 rfl
  obtain ⟨_, _, ⟨T388, L388, k388, n388⟩, -, X388, ⟨Lc388, hQ388, l388, y388, z388⟩, st388⟩ := Jvm.LawKit.callS X0 hx (y := (⟨"com/example/rollcall/rollcall/bench/MilenageXorPinLaw", "oct", "(II)B"⟩ : MethodName)) hown (mvT hZ (hw _ (List.mem_of_getElem? (i := 5) rfl))) (mvT hZ (hw _ (List.mem_of_getElem? (i := 6) rfl))) (mvT hZ (hw _ (List.mem_of_getElem? (i := 2) rfl))) (mvT hZ (hw _ (List.mem_of_getElem? (i := 7) rfl))) (by decide) (backOf (W := 1) (rm2 l Z aw hw [] p2 ((2 : Int32)) h0 n0 Z0 ) hZ (hw _ (List.mem_of_getElem? (i := 7) rfl)) (hw _ (List.mem_of_getElem? (i := 2) rfl)) (by decide) (by decide)) (g := (mkF m 5 #[.val (.ref a0), .val (.int (2 : Int32)), .val (.int p2), .val (.int p3)] [(.int (2 : Int32)), (.int p2), (.int (nar .byte (((nar .byte (nar .byte (((p2.toUInt32 >>> (((8 : Int32) * (2 : Int32)) &&& 31).toUInt32).toInt32).toInt8.toInt32))) ^^^ (nar .byte (nar .byte (((p3.toUInt32 >>> (((8 : Int32) * (2 : Int32)) &&& 31).toUInt32).toInt32).toInt8.toInt32)))).toInt8.toInt32)))])) rfl (by rw [hml]; rfl) (argsL := [(.int p2), (.int (2 : Int32))]) (rest := [(.int (nar .byte (((nar .byte (nar .byte (((p2.toUInt32 >>> (((8 : Int32) * (2 : Int32)) &&& 31).toUInt32).toInt32).toInt8.toInt32))) ^^^ (nar .byte (nar .byte (((p3.toUInt32 >>> (((8 : Int32) * (2 : Int32)) &&& 31).toUInt32).toInt32).toInt8.toInt32)))).toInt8.toInt32)))]) (lenOf pd_1 rfl) rfl (by show 2 * 0 + _ ≤ _; exact Nat.le_of_eq rfl) (hb hby d4_5) (fun _ _ => ⟨rfl, e0, (by decide : 0 + 0 ≤ _), (by decide : 0 + 0 ≤ _)⟩)
  dsimp only [Pt.U, Pt.locs, Pt.cells, Pt.slots] at X388 l388 y388 z388 st388 hQ388
  subst l388 y388 z388
  obtain ⟨rfl, N388q, e388⟩ := hQ388
  have N388 := Fr.app N0 N388q
  obtain ⟨_, _, ⟨T389, L389, k389, n389⟩, -, X389, ⟨Lc389, hQ389, l389, y389, z389⟩, st389⟩ := Jvm.LawKit.callS X388 hx (y := (⟨"com/example/rollcall/rollcall/bench/MilenageXorPinLaw", "oct", "(II)B"⟩ : MethodName)) hown (mvT hZ (hw _ (List.mem_of_getElem? (i := 5) rfl))) (mvT hZ (hw _ (List.mem_of_getElem? (i := 6) rfl))) (mvT hZ (hw _ (List.mem_of_getElem? (i := 2) rfl))) (mvT hZ (hw _ (List.mem_of_getElem? (i := 7) rfl))) (by decide) (backOf (W := 2) (rm2 l Z aw hw [] p3 ((2 : Int32)) h0 n0 Z0 ) hZ (hw _ (List.mem_of_getElem? (i := 7) rfl)) (hw _ (List.mem_of_getElem? (i := 2) rfl)) (by decide) (by decide)) (g := (mkF m 10 #[.val (.ref a0), .val (.int (2 : Int32)), .val (.int p2), .val (.int p3)] [(.int (2 : Int32)), (.int p3), (.int (nar .byte (((p2.toUInt32 >>> (((8 : Int32) * (2 : Int32)) &&& 31).toUInt32).toInt32).toInt8.toInt32))), (.int (nar .byte (((nar .byte (nar .byte (((p2.toUInt32 >>> (((8 : Int32) * (2 : Int32)) &&& 31).toUInt32).toInt32).toInt8.toInt32))) ^^^ (nar .byte (nar .byte (((p3.toUInt32 >>> (((8 : Int32) * (2 : Int32)) &&& 31).toUInt32).toInt32).toInt8.toInt32)))).toInt8.toInt32)))])) rfl (by rw [hml]; rfl) (argsL := [(.int p3), (.int (2 : Int32))]) (rest := [(.int (nar .byte (((p2.toUInt32 >>> (((8 : Int32) * (2 : Int32)) &&& 31).toUInt32).toInt32).toInt8.toInt32))), (.int (nar .byte (((nar .byte (nar .byte (((p2.toUInt32 >>> (((8 : Int32) * (2 : Int32)) &&& 31).toUInt32).toInt32).toInt8.toInt32))) ^^^ (nar .byte (nar .byte (((p3.toUInt32 >>> (((8 : Int32) * (2 : Int32)) &&& 31).toUInt32).toInt32).toInt8.toInt32)))).toInt8.toInt32)))]) (lenOf pd_1 rfl) rfl (by show 2 * 0 + _ ≤ _; exact Nat.le_of_eq rfl) (hb hby d4_10) (fun _ _ => ⟨rfl, e388, (by decide : 0 + 0 ≤ _), (by decide : 0 + 0 ≤ _)⟩)
  dsimp only [Pt.U, Pt.locs, Pt.cells, Pt.slots] at X389 l389 y389 z389 st389 hQ389
  subst l389 y389 z389
  obtain ⟨rfl, N389q, e389⟩ := hQ389
  have N389 := Fr.app N388 N389q
  obtain ⟨fs, hr, hrun, hended, hW, hsame⟩ := X389.leave (v := some (.int (1 : Int32))) (fun h => by rw [Bd.returns] at h; cases h)
  refine ⟨_, _, pre0 _ ?_, hrun, hended, _, _, rfl, ?_, ⟨_, rfl⟩, hW, hsame.mono (by decide) (by decide)⟩
  · skip
    show Steps p.tables e below (s₁.setTop (mkF m 0 #[.val (.ref a0), .val (.int (2 : Int32)), .val (.int p2), .val (.int p3)] [])) _
    refine XS.aloadN X0.here hx rfl (hb hby d4_0) rfl rfl ?_
    show Steps p.tables e below (s₁.setTop (mkF m 1 #[.val (.ref a0), .val (.int (2 : Int32)), .val (.int p2), .val (.int p3)] [(.ref a0)])) _
    refine XS.iloadN X0.here hx rfl (hb hby d4_1) rfl ?_
    show Steps p.tables e below (s₁.setTop (mkF m 2 #[.val (.ref a0), .val (.int (2 : Int32)), .val (.int p2), .val (.int p3)] [(.int (2 : Int32)), (.ref a0)])) _
    refine X0.baloadBytes hx (j := (2 : Int32)) (v := (.int (nar .byte (((nar .byte (nar .byte (((p2.toUInt32 >>> (((8 : Int32) * (2 : Int32)) &&& 31).toUInt32).toInt32).toInt8.toInt32))) ^^^ (nar .byte (nar .byte (((p3.toUInt32 >>> (((8 : Int32) * (2 : Int32)) &&& 31).toUInt32).toInt32).toInt8.toInt32)))).toInt8.toInt32)))) (by rw [e0]; exact Ar385.1) (State.isArrayOf_alike hZ.alike Ar385.2.1) Ar385.2.2 hin386 hat387 (g := (mkF m 2 #[.val (.ref a0), .val (.int (2 : Int32)), .val (.int p2), .val (.int p3)] [(.int (2 : Int32)), (.ref a0)])) rfl rfl (hb hby d4_2) _ ?_
    show Steps p.tables e below (s₁.setTop (mkF m 3 #[.val (.ref a0), .val (.int (2 : Int32)), .val (.int p2), .val (.int p3)] [(.int (nar .byte (((nar .byte (nar .byte (((p2.toUInt32 >>> (((8 : Int32) * (2 : Int32)) &&& 31).toUInt32).toInt32).toInt8.toInt32))) ^^^ (nar .byte (nar .byte (((p3.toUInt32 >>> (((8 : Int32) * (2 : Int32)) &&& 31).toUInt32).toInt32).toInt8.toInt32)))).toInt8.toInt32)))])) _
    refine XS.iloadN X0.here hx rfl (hb hby d4_3) rfl ?_
    show Steps p.tables e below (s₁.setTop (mkF m 4 #[.val (.ref a0), .val (.int (2 : Int32)), .val (.int p2), .val (.int p3)] [(.int p2), (.int (nar .byte (((nar .byte (nar .byte (((p2.toUInt32 >>> (((8 : Int32) * (2 : Int32)) &&& 31).toUInt32).toInt32).toInt8.toInt32))) ^^^ (nar .byte (nar .byte (((p3.toUInt32 >>> (((8 : Int32) * (2 : Int32)) &&& 31).toUInt32).toInt32).toInt8.toInt32)))).toInt8.toInt32)))])) _
    refine XS.iloadN X0.here hx rfl (hb hby d4_4) rfl ?_
    show Steps p.tables e below (s₁.setTop (mkF m 5 #[.val (.ref a0), .val (.int (2 : Int32)), .val (.int p2), .val (.int p3)] [(.int (2 : Int32)), (.int p2), (.int (nar .byte (((nar .byte (nar .byte (((p2.toUInt32 >>> (((8 : Int32) * (2 : Int32)) &&& 31).toUInt32).toInt32).toInt8.toInt32))) ^^^ (nar .byte (nar .byte (((p3.toUInt32 >>> (((8 : Int32) * (2 : Int32)) &&& 31).toUInt32).toInt32).toInt8.toInt32)))).toInt8.toInt32)))])) _
    refine st388 _ ?_
    show Steps p.tables e below (T388.setTop (mkF m 8 #[.val (.ref a0), .val (.int (2 : Int32)), .val (.int p2), .val (.int p3)] [(.int (nar .byte (((p2.toUInt32 >>> (((8 : Int32) * (2 : Int32)) &&& 31).toUInt32).toInt32).toInt8.toInt32))), (.int (nar .byte (((nar .byte (nar .byte (((p2.toUInt32 >>> (((8 : Int32) * (2 : Int32)) &&& 31).toUInt32).toInt32).toInt8.toInt32))) ^^^ (nar .byte (nar .byte (((p3.toUInt32 >>> (((8 : Int32) * (2 : Int32)) &&& 31).toUInt32).toInt32).toInt8.toInt32)))).toInt8.toInt32)))])) _
    refine XS.iloadN X388.here hx rfl (hb hby d4_8) rfl ?_
    show Steps p.tables e below (T388.setTop (mkF m 9 #[.val (.ref a0), .val (.int (2 : Int32)), .val (.int p2), .val (.int p3)] [(.int p3), (.int (nar .byte (((p2.toUInt32 >>> (((8 : Int32) * (2 : Int32)) &&& 31).toUInt32).toInt32).toInt8.toInt32))), (.int (nar .byte (((nar .byte (nar .byte (((p2.toUInt32 >>> (((8 : Int32) * (2 : Int32)) &&& 31).toUInt32).toInt32).toInt8.toInt32))) ^^^ (nar .byte (nar .byte (((p3.toUInt32 >>> (((8 : Int32) * (2 : Int32)) &&& 31).toUInt32).toInt32).toInt8.toInt32)))).toInt8.toInt32)))])) _
    refine XS.iloadN X388.here hx rfl (hb hby d4_9) rfl ?_
    show Steps p.tables e below (T388.setTop (mkF m 10 #[.val (.ref a0), .val (.int (2 : Int32)), .val (.int p2), .val (.int p3)] [(.int (2 : Int32)), (.int p3), (.int (nar .byte (((p2.toUInt32 >>> (((8 : Int32) * (2 : Int32)) &&& 31).toUInt32).toInt32).toInt8.toInt32))), (.int (nar .byte (((nar .byte (nar .byte (((p2.toUInt32 >>> (((8 : Int32) * (2 : Int32)) &&& 31).toUInt32).toInt32).toInt8.toInt32))) ^^^ (nar .byte (nar .byte (((p3.toUInt32 >>> (((8 : Int32) * (2 : Int32)) &&& 31).toUInt32).toInt32).toInt8.toInt32)))).toInt8.toInt32)))])) _
    refine st389 _ ?_
    show Steps p.tables e below (T389.setTop (mkF m 13 #[.val (.ref a0), .val (.int (2 : Int32)), .val (.int p2), .val (.int p3)] [(.int (nar .byte (((p3.toUInt32 >>> (((8 : Int32) * (2 : Int32)) &&& 31).toUInt32).toInt32).toInt8.toInt32))), (.int (nar .byte (((p2.toUInt32 >>> (((8 : Int32) * (2 : Int32)) &&& 31).toUInt32).toInt32).toInt8.toInt32))), (.int (nar .byte (((nar .byte (nar .byte (((p2.toUInt32 >>> (((8 : Int32) * (2 : Int32)) &&& 31).toUInt32).toInt32).toInt8.toInt32))) ^^^ (nar .byte (nar .byte (((p3.toUInt32 >>> (((8 : Int32) * (2 : Int32)) &&& 31).toUInt32).toInt32).toInt8.toInt32)))).toInt8.toInt32)))])) _
    refine XS.ixor X389.here hx rfl (hb hby d4_13) rfl ?_
    show Steps p.tables e below (T389.setTop (mkF m 14 #[.val (.ref a0), .val (.int (2 : Int32)), .val (.int p2), .val (.int p3)] [(.int ((nar .byte (((p2.toUInt32 >>> (((8 : Int32) * (2 : Int32)) &&& 31).toUInt32).toInt32).toInt8.toInt32)) ^^^ (nar .byte (((p3.toUInt32 >>> (((8 : Int32) * (2 : Int32)) &&& 31).toUInt32).toInt32).toInt8.toInt32)))), (.int (nar .byte (((nar .byte (nar .byte (((p2.toUInt32 >>> (((8 : Int32) * (2 : Int32)) &&& 31).toUInt32).toInt32).toInt8.toInt32))) ^^^ (nar .byte (nar .byte (((p3.toUInt32 >>> (((8 : Int32) * (2 : Int32)) &&& 31).toUInt32).toInt32).toInt8.toInt32)))).toInt8.toInt32)))])) _
    refine XS.i2b X389.here hx rfl (hb hby d4_14) rfl ?_
    show Steps p.tables e below (T389.setTop (mkF m 15 #[.val (.ref a0), .val (.int (2 : Int32)), .val (.int p2), .val (.int p3)] [(.int (((nar .byte (((p2.toUInt32 >>> (((8 : Int32) * (2 : Int32)) &&& 31).toUInt32).toInt32).toInt8.toInt32)) ^^^ (nar .byte (((p3.toUInt32 >>> (((8 : Int32) * (2 : Int32)) &&& 31).toUInt32).toInt32).toInt8.toInt32))).toInt8.toInt32)), (.int (nar .byte (((nar .byte (nar .byte (((p2.toUInt32 >>> (((8 : Int32) * (2 : Int32)) &&& 31).toUInt32).toInt32).toInt8.toInt32))) ^^^ (nar .byte (nar .byte (((p3.toUInt32 >>> (((8 : Int32) * (2 : Int32)) &&& 31).toUInt32).toInt32).toInt8.toInt32)))).toInt8.toInt32)))])) _
    refine XS.icmpNo X389.here hx rfl (hb hby d4_15) rfl (teq (own_xx _ _)).2 ?_
    show Steps p.tables e below (T389.setTop (mkF m 18 #[.val (.ref a0), .val (.int (2 : Int32)), .val (.int p2), .val (.int p3)] [])) _
    refine XS.iconst X389.here hx rfl (hb hby d4_18) ?_
    show Steps p.tables e below (T389.setTop (mkF m 19 #[.val (.ref a0), .val (.int (2 : Int32)), .val (.int p2), .val (.int p3)] [(.int (1 : Int32))])) _
    refine XS.goto X389.here hx rfl (pc0 := 19) (pc' := 23) rfl (hb hby d4_19) (by decide) (by decide) ?_
    show Steps p.tables e below (T389.setTop (mkF m 23 #[.val (.ref a0), .val (.int (2 : Int32)), .val (.int p2), .val (.int p3)] [(.int (1 : Int32))])) _
    exact retN X389 hx (t := .boolean) Bd.returns (by simp) (hb hby d4_23) hr
  · show Q4_3_2 Z a0 p2 p3 k_a0 h0 n0 _ T389.heap _
    rw [e389]
    exact ⟨rfl, N389, rfl⟩
theorem d5_0 : decode method_6_code 0 = .ok (.iconst 1, 1) := by decide +kernel
theorem d5_1 : decode method_6_code 1 = .ok (.istore_n 3, 1) := by decide +kernel
theorem d5_2 : decode method_6_code 2 = .ok (.iload_n 2, 1) := by decide +kernel
theorem d5_3 : decode method_6_code 3 = .ok (.ifCond .le 24, 3) := by decide +kernel
theorem d5_27 : decode method_6_code 27 = .ok (.iload_n 2, 1) := by decide +kernel
theorem d5_28 : decode method_6_code 28 = .ok (.iconst 1, 1) := by decide +kernel
theorem d5_29 : decode method_6_code 29 = .ok (.if_icmp .le 24, 3) := by decide +kernel
theorem d5_53 : decode method_6_code 53 = .ok (.iload_n 2, 1) := by decide +kernel
theorem d5_54 : decode method_6_code 54 = .ok (.iconst 2, 1) := by decide +kernel
theorem d5_55 : decode method_6_code 55 = .ok (.if_icmp .le 24, 3) := by decide +kernel
theorem d5_79 : decode method_6_code 79 = .ok (.iload_n 2, 1) := by decide +kernel
theorem d5_80 : decode method_6_code 80 = .ok (.iconst 3, 1) := by decide +kernel
theorem d5_81 : decode method_6_code 81 = .ok (.if_icmp .le 24, 3) := by decide +kernel
theorem d5_105 : decode method_6_code 105 = .ok (.iload_n 3, 1) := by decide +kernel
theorem d5_106 : decode method_6_code 106 = .ok (.ireturn, 1) := by decide +kernel
theorem ef5_0 (m : MethodId) (x0 : Addr) (x1 : Int32) (x2 : Int32) : entryFrame m #[(.ref x0), (.int x1), (.int x2)] 4 = mkF m 0 #[.val (.ref x0), .val (.int x1), .val (.int x2), .unset] [] := by first | (simp [entryFrame, mkF, argsToLocals, Value.category]; done) | rfl
abbrev rr5_0 : Room := { frames := 0, cells := 0, slots := 0, locals := 0 }
def Q5_0 (Z : State) (a0 : Addr) (p1 : Int32) (k_a0 : ClassId) (h0 : Heap) (n0 : Nat) (v : Option Value) (h : Heap) (L : List Loc) : Prop := v = some (.int (1 : Int32)) ∧ Fr n0 L ∧ h = h0
set_option maxRecDepth 65536 in
set_option maxHeartbeats 40000000 in
theorem rm5_0 (l : Launch) (Z : State) (aw : Array Value) (hw : ∀ d ∈ tables_1, d.before aw Z = true) (ws : List Jvm.Cond) (a0 : Addr) (p1 : Int32) (k_a0 : ClassId) (h0 : Heap) (n0 : Nat) (Z0 : n0 ≤ h0.size) (V_a0 : Arv Z h0 a0 k_a0 .byte (0 : Int32) [] (.int (0 : Int32))) :
    MetFree l (⟨"com/example/rollcall/rollcall/bench/MilenageXorPinLaw", "same", "([BII)Z"⟩ : MethodName) (head1 (Jvm.Cond.code (⟨"com/example/rollcall/rollcall/bench/MilenageXorPinLaw", "same", "([BII)Z"⟩ : MethodName) method_6_code 4 (some .boolean) :: ws) rr5_0) (fun a U => a = #[(.ref a0), (.int p1), (.int (0 : Int32))] ∧ Z.Warmed39 U.vm ∧ U.heap = h0) (fun _ _ _ _ _ => True) (fun _ U o U' => ∃ v L, o = .returned v ∧ Q5_0 Z a0 p1 k_a0 h0 n0 v U'.heap L ∧ FrameEnd U o U' L rr5_0.cells rr5_0.slots) := by
  refine MetFree.of_bodySF (plainFor_of_name pn_1) hisR ?_
  intro p e s m args below meth c s₁ Bd hml0 hP hK
  obtain ⟨rfl, hZ, hh⟩ := hP
  have hx := Bd.exec
  have hby := Bd.bytes
  have hml : c.maxLocals = 4 := hml0
  have hown : s.vm.findClass "com/example/rollcall/rollcall/bench/MilenageXorPinLaw" = some m.cls := findClass_of_methodNamed Bd.named
  have hnm := (name_of_methodNamed Bd.named Bd.method).1
  have X0 : Stand p l e rr5_0 s m #[(.ref a0), (.int p1), (.int (0 : Int32))] below meth c s₁ [] 0 0 := Stand.of_body Bd
  have e0 : s₁.heap = h0 := by rw [← hh, Bd.state]; rfl
  have N0 := Fr.nil n0
  have pre0 : ∀ t, Steps p.tables e below (s₁.setTop (mkF m 0 #[.val (.ref a0), .val (.int p1), .val (.int (0 : Int32)), .unset] [])) t → Steps p.tables e below (s₁.setTop (entryFrame m #[(.ref a0), (.int p1), (.int (0 : Int32))] 4)) t := fun t k => castTop (ef5_0 m a0 p1 (0 : Int32)) k
  obtain ⟨fs, hr, hrun, hended, hW, hsame⟩ := X0.leave (v := some (.int (1 : Int32))) (fun h => by rw [Bd.returns] at h; cases h)
  refine ⟨_, _, pre0 _ ?_, hrun, hended, _, _, rfl, ?_, ⟨_, rfl⟩, hW, hsame.mono (by decide) (by decide)⟩
  · skip
    show Steps p.tables e below (s₁.setTop (mkF m 0 #[.val (.ref a0), .val (.int p1), .val (.int (0 : Int32)), .unset] [])) _
    refine XS.iconst X0.here hx rfl (hb hby d5_0) ?_
    show Steps p.tables e below (s₁.setTop (mkF m 1 #[.val (.ref a0), .val (.int p1), .val (.int (0 : Int32)), .unset] [(.int (1 : Int32))])) _
    refine XS.istoreN X0.here hx rfl (hb hby d5_1) rfl (l' := #[.val (.ref a0), .val (.int p1), .val (.int (0 : Int32)), .val (.int (1 : Int32))]) rfl ?_
    show Steps p.tables e below (s₁.setTop (mkF m 2 #[.val (.ref a0), .val (.int p1), .val (.int (0 : Int32)), .val (.int (1 : Int32))] [])) _
    refine XS.iloadN X0.here hx rfl (hb hby d5_2) rfl ?_
    show Steps p.tables e below (s₁.setTop (mkF m 3 #[.val (.ref a0), .val (.int p1), .val (.int (0 : Int32)), .val (.int (1 : Int32))] [(.int (0 : Int32))])) _
    refine XS.ifYes X0.here hx rfl (pc0 := 3) (pc' := 27) rfl (hb hby d5_3) rfl ((if0 _ _).trans (flt (by decide : ¬ ((0 : Int32) < (0 : Int32)))).2.2.2) (by decide) (by decide) ?_
    show Steps p.tables e below (s₁.setTop (mkF m 27 #[.val (.ref a0), .val (.int p1), .val (.int (0 : Int32)), .val (.int (1 : Int32))] [])) _
    refine XS.iloadN X0.here hx rfl (hb hby d5_27) rfl ?_
    show Steps p.tables e below (s₁.setTop (mkF m 28 #[.val (.ref a0), .val (.int p1), .val (.int (0 : Int32)), .val (.int (1 : Int32))] [(.int (0 : Int32))])) _
    refine XS.iconst X0.here hx rfl (hb hby d5_28) ?_
    show Steps p.tables e below (s₁.setTop (mkF m 29 #[.val (.ref a0), .val (.int p1), .val (.int (0 : Int32)), .val (.int (1 : Int32))] [(.int (1 : Int32)), (.int (0 : Int32))])) _
    refine XS.icmpYes X0.here hx rfl (pc0 := 29) (pc' := 53) rfl (hb hby d5_29) rfl (flt (by decide : ¬ ((1 : Int32) < (0 : Int32)))).2.2.2 (by decide) (by decide) ?_
    show Steps p.tables e below (s₁.setTop (mkF m 53 #[.val (.ref a0), .val (.int p1), .val (.int (0 : Int32)), .val (.int (1 : Int32))] [])) _
    refine XS.iloadN X0.here hx rfl (hb hby d5_53) rfl ?_
    show Steps p.tables e below (s₁.setTop (mkF m 54 #[.val (.ref a0), .val (.int p1), .val (.int (0 : Int32)), .val (.int (1 : Int32))] [(.int (0 : Int32))])) _
    refine XS.iconst X0.here hx rfl (hb hby d5_54) ?_
    show Steps p.tables e below (s₁.setTop (mkF m 55 #[.val (.ref a0), .val (.int p1), .val (.int (0 : Int32)), .val (.int (1 : Int32))] [(.int (2 : Int32)), (.int (0 : Int32))])) _
    refine XS.icmpYes X0.here hx rfl (pc0 := 55) (pc' := 79) rfl (hb hby d5_55) rfl (flt (by decide : ¬ ((2 : Int32) < (0 : Int32)))).2.2.2 (by decide) (by decide) ?_
    show Steps p.tables e below (s₁.setTop (mkF m 79 #[.val (.ref a0), .val (.int p1), .val (.int (0 : Int32)), .val (.int (1 : Int32))] [])) _
    refine XS.iloadN X0.here hx rfl (hb hby d5_79) rfl ?_
    show Steps p.tables e below (s₁.setTop (mkF m 80 #[.val (.ref a0), .val (.int p1), .val (.int (0 : Int32)), .val (.int (1 : Int32))] [(.int (0 : Int32))])) _
    refine XS.iconst X0.here hx rfl (hb hby d5_80) ?_
    show Steps p.tables e below (s₁.setTop (mkF m 81 #[.val (.ref a0), .val (.int p1), .val (.int (0 : Int32)), .val (.int (1 : Int32))] [(.int (3 : Int32)), (.int (0 : Int32))])) _
    refine XS.icmpYes X0.here hx rfl (pc0 := 81) (pc' := 105) rfl (hb hby d5_81) rfl (flt (by decide : ¬ ((3 : Int32) < (0 : Int32)))).2.2.2 (by decide) (by decide) ?_
    show Steps p.tables e below (s₁.setTop (mkF m 105 #[.val (.ref a0), .val (.int p1), .val (.int (0 : Int32)), .val (.int (1 : Int32))] [])) _
    refine XS.iloadN X0.here hx rfl (hb hby d5_105) rfl ?_
    show Steps p.tables e below (s₁.setTop (mkF m 106 #[.val (.ref a0), .val (.int p1), .val (.int (0 : Int32)), .val (.int (1 : Int32))] [(.int (1 : Int32))])) _
    exact retN X0 hx (t := .boolean) Bd.returns (by simp) (hb hby d5_106) hr
  · show Q5_0 Z a0 p1 k_a0 h0 n0 _ s₁.heap _
    rw [e0]
    exact ⟨rfl, N0, rfl⟩
theorem d5_6 : decode method_6_code 6 = .ok (.iload_n 3, 1) := by decide +kernel
theorem d5_7 : decode method_6_code 7 = .ok (.ifCond .eq 18, 3) := by decide +kernel
theorem d5_10 : decode method_6_code 10 = .ok (.aload_n 0, 1) := by decide +kernel
theorem d5_11 : decode method_6_code 11 = .ok (.iconst 0, 1) := by decide +kernel
theorem d5_12 : decode method_6_code 12 = .ok (.baload, 1) := by decide +kernel
theorem d5_13 : decode method_6_code 13 = .ok (.iload_n 1, 1) := by decide +kernel
theorem d5_14 : decode method_6_code 14 = .ok (.iconst 0, 1) := by decide +kernel
theorem d5_15 : decode method_6_code 15 = .ok (.invokestatic 27, 3) := by decide +kernel
theorem d5_18 : decode method_6_code 18 = .ok (.if_icmp .ne 7, 3) := by decide +kernel
theorem d5_21 : decode method_6_code 21 = .ok (.iconst 1, 1) := by decide +kernel
theorem d5_22 : decode method_6_code 22 = .ok (.goto 4, 3) := by decide +kernel
theorem d5_26 : decode method_6_code 26 = .ok (.istore_n 3, 1) := by decide +kernel
theorem ef5_1 (m : MethodId) (x0 : Addr) (x1 : Int32) (x2 : Int32) : entryFrame m #[(.ref x0), (.int x1), (.int x2)] 4 = mkF m 0 #[.val (.ref x0), .val (.int x1), .val (.int x2), .unset] [] := by first | (simp [entryFrame, mkF, argsToLocals, Value.category]; done) | rfl
abbrev rr5_1 : Room := { frames := 1, cells := 0, slots := 0, locals := 14 }
def Q5_1 (Z : State) (a0 : Addr) (p1 : Int32) (k_a0 : ClassId) (h0 : Heap) (n0 : Nat) (v : Option Value) (h : Heap) (L : List Loc) : Prop := v = some (.int (1 : Int32)) ∧ Fr n0 L ∧ h = h0
set_option maxRecDepth 65536 in
set_option maxHeartbeats 40000000 in
theorem rm5_1 (l : Launch) (Z : State) (aw : Array Value) (hw : ∀ d ∈ tables_1, d.before aw Z = true) (ws : List Jvm.Cond) (a0 : Addr) (p1 : Int32) (k_a0 : ClassId) (h0 : Heap) (n0 : Nat) (Z0 : n0 ≤ h0.size) (V_a0 : Arv Z h0 a0 k_a0 .byte (1 : Int32) [(.int (nar .byte (nar .byte (((p1.toUInt32 >>> (((8 : Int32) * (0 : Int32)) &&& 31).toUInt32).toInt32).toInt8.toInt32))))] (.int (0 : Int32))) :
    MetFree l (⟨"com/example/rollcall/rollcall/bench/MilenageXorPinLaw", "same", "([BII)Z"⟩ : MethodName) (head1 (Jvm.Cond.code (⟨"com/example/rollcall/rollcall/bench/MilenageXorPinLaw", "same", "([BII)Z"⟩ : MethodName) method_6_code 4 (some .boolean) :: ws) rr5_1) (fun a U => a = #[(.ref a0), (.int p1), (.int (1 : Int32))] ∧ Z.Warmed39 U.vm ∧ U.heap = h0) (fun _ _ _ _ _ => True) (fun _ U o U' => ∃ v L, o = .returned v ∧ Q5_1 Z a0 p1 k_a0 h0 n0 v U'.heap L ∧ FrameEnd U o U' L rr5_1.cells rr5_1.slots) := by
  refine MetFree.of_bodySF (plainFor_of_name pn_1) hisR ?_
  intro p e s m args below meth c s₁ Bd hml0 hP hK
  obtain ⟨rfl, hZ, hh⟩ := hP
  have hx := Bd.exec
  have hby := Bd.bytes
  have hml : c.maxLocals = 4 := hml0
  have hown : s.vm.findClass "com/example/rollcall/rollcall/bench/MilenageXorPinLaw" = some m.cls := findClass_of_methodNamed Bd.named
  have hnm := (name_of_methodNamed Bd.named Bd.method).1
  have X0 : Stand p l e rr5_1 s m #[(.ref a0), (.int p1), (.int (1 : Int32))] below meth c s₁ [] 0 0 := Stand.of_body Bd
  have e0 : s₁.heap = h0 := by rw [← hh, Bd.state]; rfl
  have N0 := Fr.nil n0
  have pre0 : ∀ t, Steps p.tables e below (s₁.setTop (mkF m 0 #[.val (.ref a0), .val (.int p1), .val (.int (1 : Int32)), .unset] [])) t → Steps p.tables e below (s₁.setTop (entryFrame m #[(.ref a0), (.int p1), (.int (1 : Int32))] 4)) t := fun t k => castTop (ef5_1 m a0 p1 (1 : Int32)) k
  obtain ⟨cl390, Ar390, q390, S390, M390, H390, G390⟩ := id V_a0
  have hin391 : ¬ ((0 : Int32) < 0 ∨ cl390.slots.size ≤ ((0 : Int32)).toNatClampNeg) := inb_of S390 ⟨by decide, by decide⟩
  have hat392 : cl390.slots[((0 : Int32)).toNatClampNeg]? = some (.int (nar .byte (nar .byte (((p1.toUInt32 >>> (((8 : Int32) * (0 : Int32)) &&& 31).toUInt32).toInt32).toInt8.toInt32)))) := H390.at hin391 rfl
  obtain ⟨_, _, ⟨T393, L393, k393, n393⟩, -, X393, ⟨Lc393, hQ393, l393, y393, z393⟩, st393⟩ := Jvm.LawKit.callS X0 hx (y := (⟨"com/example/rollcall/rollcall/bench/MilenageXorPinLaw", "oct", "(II)B"⟩ : MethodName)) hown (mvT hZ (hw _ (List.mem_of_getElem? (i := 5) rfl))) (mvT hZ (hw _ (List.mem_of_getElem? (i := 6) rfl))) (mvT hZ (hw _ (List.mem_of_getElem? (i := 2) rfl))) (mvT hZ (hw _ (List.mem_of_getElem? (i := 7) rfl))) (by decide) (backOf (W := 1) (rm2 l Z aw hw [] p1 ((0 : Int32)) h0 n0 Z0 ) hZ (hw _ (List.mem_of_getElem? (i := 7) rfl)) (hw _ (List.mem_of_getElem? (i := 2) rfl)) (by decide) (by decide)) (g := (mkF m 15 #[.val (.ref a0), .val (.int p1), .val (.int (1 : Int32)), .val (.int (1 : Int32))] [(.int (0 : Int32)), (.int p1), (.int (nar .byte (nar .byte (((p1.toUInt32 >>> (((8 : Int32) * (0 : Int32)) &&& 31).toUInt32).toInt32).toInt8.toInt32))))])) rfl (by rw [hml]; rfl) (argsL := [(.int p1), (.int (0 : Int32))]) (rest := [(.int (nar .byte (nar .byte (((p1.toUInt32 >>> (((8 : Int32) * (0 : Int32)) &&& 31).toUInt32).toInt32).toInt8.toInt32))))]) (lenOf pd_1 rfl) rfl (by show 2 * 0 + _ ≤ _; exact Nat.le_of_eq rfl) (hb hby d5_15) (fun _ _ => ⟨rfl, e0, (by decide : 0 + 0 ≤ _), (by decide : 0 + 0 ≤ _)⟩)
  dsimp only [Pt.U, Pt.locs, Pt.cells, Pt.slots] at X393 l393 y393 z393 st393 hQ393
  subst l393 y393 z393
  obtain ⟨rfl, N393q, e393⟩ := hQ393
  have N393 := Fr.app N0 N393q
  obtain ⟨fs, hr, hrun, hended, hW, hsame⟩ := X393.leave (v := some (.int (1 : Int32))) (fun h => by rw [Bd.returns] at h; cases h)
  refine ⟨_, _, pre0 _ ?_, hrun, hended, _, _, rfl, ?_, ⟨_, rfl⟩, hW, hsame.mono (by decide) (by decide)⟩
  · skip
    show Steps p.tables e below (s₁.setTop (mkF m 0 #[.val (.ref a0), .val (.int p1), .val (.int (1 : Int32)), .unset] [])) _
    refine XS.iconst X0.here hx rfl (hb hby d5_0) ?_
    show Steps p.tables e below (s₁.setTop (mkF m 1 #[.val (.ref a0), .val (.int p1), .val (.int (1 : Int32)), .unset] [(.int (1 : Int32))])) _
    refine XS.istoreN X0.here hx rfl (hb hby d5_1) rfl (l' := #[.val (.ref a0), .val (.int p1), .val (.int (1 : Int32)), .val (.int (1 : Int32))]) rfl ?_
    show Steps p.tables e below (s₁.setTop (mkF m 2 #[.val (.ref a0), .val (.int p1), .val (.int (1 : Int32)), .val (.int (1 : Int32))] [])) _
    refine XS.iloadN X0.here hx rfl (hb hby d5_2) rfl ?_
    show Steps p.tables e below (s₁.setTop (mkF m 3 #[.val (.ref a0), .val (.int p1), .val (.int (1 : Int32)), .val (.int (1 : Int32))] [(.int (1 : Int32))])) _
    refine XS.ifNo X0.here hx rfl (hb hby d5_3) rfl ((if0 _ _).trans (tlt (by decide : (0 : Int32) < (1 : Int32))).2.2.2) ?_
    show Steps p.tables e below (s₁.setTop (mkF m 6 #[.val (.ref a0), .val (.int p1), .val (.int (1 : Int32)), .val (.int (1 : Int32))] [])) _
    refine XS.iloadN X0.here hx rfl (hb hby d5_6) rfl ?_
    show Steps p.tables e below (s₁.setTop (mkF m 7 #[.val (.ref a0), .val (.int p1), .val (.int (1 : Int32)), .val (.int (1 : Int32))] [(.int (1 : Int32))])) _
    refine XS.ifNo X0.here hx rfl (hb hby d5_7) rfl ((if0 _ _).trans (feq (by decide : ¬ ((1 : Int32) = (0 : Int32)))).1) ?_
    show Steps p.tables e below (s₁.setTop (mkF m 10 #[.val (.ref a0), .val (.int p1), .val (.int (1 : Int32)), .val (.int (1 : Int32))] [])) _
    refine XS.aloadN X0.here hx rfl (hb hby d5_10) rfl rfl ?_
    show Steps p.tables e below (s₁.setTop (mkF m 11 #[.val (.ref a0), .val (.int p1), .val (.int (1 : Int32)), .val (.int (1 : Int32))] [(.ref a0)])) _
    refine XS.iconst X0.here hx rfl (hb hby d5_11) ?_
    show Steps p.tables e below (s₁.setTop (mkF m 12 #[.val (.ref a0), .val (.int p1), .val (.int (1 : Int32)), .val (.int (1 : Int32))] [(.int (0 : Int32)), (.ref a0)])) _
    refine X0.baloadBytes hx (j := (0 : Int32)) (v := (.int (nar .byte (nar .byte (((p1.toUInt32 >>> (((8 : Int32) * (0 : Int32)) &&& 31).toUInt32).toInt32).toInt8.toInt32))))) (by rw [e0]; exact Ar390.1) (State.isArrayOf_alike hZ.alike Ar390.2.1) Ar390.2.2 hin391 hat392 (g := (mkF m 12 #[.val (.ref a0), .val (.int p1), .val (.int (1 : Int32)), .val (.int (1 : Int32))] [(.int (0 : Int32)), (.ref a0)])) rfl rfl (hb hby d5_12) _ ?_
    show Steps p.tables e below (s₁.setTop (mkF m 13 #[.val (.ref a0), .val (.int p1), .val (.int (1 : Int32)), .val (.int (1 : Int32))] [(.int (nar .byte (nar .byte (((p1.toUInt32 >>> (((8 : Int32) * (0 : Int32)) &&& 31).toUInt32).toInt32).toInt8.toInt32))))])) _
    refine XS.iloadN X0.here hx rfl (hb hby d5_13) rfl ?_
    show Steps p.tables e below (s₁.setTop (mkF m 14 #[.val (.ref a0), .val (.int p1), .val (.int (1 : Int32)), .val (.int (1 : Int32))] [(.int p1), (.int (nar .byte (nar .byte (((p1.toUInt32 >>> (((8 : Int32) * (0 : Int32)) &&& 31).toUInt32).toInt32).toInt8.toInt32))))])) _
    refine XS.iconst X0.here hx rfl (hb hby d5_14) ?_
    show Steps p.tables e below (s₁.setTop (mkF m 15 #[.val (.ref a0), .val (.int p1), .val (.int (1 : Int32)), .val (.int (1 : Int32))] [(.int (0 : Int32)), (.int p1), (.int (nar .byte (nar .byte (((p1.toUInt32 >>> (((8 : Int32) * (0 : Int32)) &&& 31).toUInt32).toInt32).toInt8.toInt32))))])) _
    refine st393 _ ?_
    show Steps p.tables e below (T393.setTop (mkF m 18 #[.val (.ref a0), .val (.int p1), .val (.int (1 : Int32)), .val (.int (1 : Int32))] [(.int (nar .byte (((p1.toUInt32 >>> (((8 : Int32) * (0 : Int32)) &&& 31).toUInt32).toInt32).toInt8.toInt32))), (.int (nar .byte (nar .byte (((p1.toUInt32 >>> (((8 : Int32) * (0 : Int32)) &&& 31).toUInt32).toInt32).toInt8.toInt32))))])) _
    refine XS.icmpNo X393.here hx rfl (hb hby d5_18) rfl (teq (own_bb _)).2 ?_
    show Steps p.tables e below (T393.setTop (mkF m 21 #[.val (.ref a0), .val (.int p1), .val (.int (1 : Int32)), .val (.int (1 : Int32))] [])) _
    refine XS.iconst X393.here hx rfl (hb hby d5_21) ?_
    show Steps p.tables e below (T393.setTop (mkF m 22 #[.val (.ref a0), .val (.int p1), .val (.int (1 : Int32)), .val (.int (1 : Int32))] [(.int (1 : Int32))])) _
    refine XS.goto X393.here hx rfl (pc0 := 22) (pc' := 26) rfl (hb hby d5_22) (by decide) (by decide) ?_
    show Steps p.tables e below (T393.setTop (mkF m 26 #[.val (.ref a0), .val (.int p1), .val (.int (1 : Int32)), .val (.int (1 : Int32))] [(.int (1 : Int32))])) _
    refine XS.istoreN X393.here hx rfl (hb hby d5_26) rfl (l' := #[.val (.ref a0), .val (.int p1), .val (.int (1 : Int32)), .val (.int (1 : Int32))]) rfl ?_
    show Steps p.tables e below (T393.setTop (mkF m 27 #[.val (.ref a0), .val (.int p1), .val (.int (1 : Int32)), .val (.int (1 : Int32))] [])) _
    refine XS.iloadN X393.here hx rfl (hb hby d5_27) rfl ?_
    show Steps p.tables e below (T393.setTop (mkF m 28 #[.val (.ref a0), .val (.int p1), .val (.int (1 : Int32)), .val (.int (1 : Int32))] [(.int (1 : Int32))])) _
    refine XS.iconst X393.here hx rfl (hb hby d5_28) ?_
    show Steps p.tables e below (T393.setTop (mkF m 29 #[.val (.ref a0), .val (.int p1), .val (.int (1 : Int32)), .val (.int (1 : Int32))] [(.int (1 : Int32)), (.int (1 : Int32))])) _
    refine XS.icmpYes X393.here hx rfl (pc0 := 29) (pc' := 53) rfl (hb hby d5_29) rfl (flt (by decide : ¬ ((1 : Int32) < (1 : Int32)))).2.2.2 (by decide) (by decide) ?_
    show Steps p.tables e below (T393.setTop (mkF m 53 #[.val (.ref a0), .val (.int p1), .val (.int (1 : Int32)), .val (.int (1 : Int32))] [])) _
    refine XS.iloadN X393.here hx rfl (hb hby d5_53) rfl ?_
    show Steps p.tables e below (T393.setTop (mkF m 54 #[.val (.ref a0), .val (.int p1), .val (.int (1 : Int32)), .val (.int (1 : Int32))] [(.int (1 : Int32))])) _
    refine XS.iconst X393.here hx rfl (hb hby d5_54) ?_
    show Steps p.tables e below (T393.setTop (mkF m 55 #[.val (.ref a0), .val (.int p1), .val (.int (1 : Int32)), .val (.int (1 : Int32))] [(.int (2 : Int32)), (.int (1 : Int32))])) _
    refine XS.icmpYes X393.here hx rfl (pc0 := 55) (pc' := 79) rfl (hb hby d5_55) rfl (flt (by decide : ¬ ((2 : Int32) < (1 : Int32)))).2.2.2 (by decide) (by decide) ?_
    show Steps p.tables e below (T393.setTop (mkF m 79 #[.val (.ref a0), .val (.int p1), .val (.int (1 : Int32)), .val (.int (1 : Int32))] [])) _
    refine XS.iloadN X393.here hx rfl (hb hby d5_79) rfl ?_
    show Steps p.tables e below (T393.setTop (mkF m 80 #[.val (.ref a0), .val (.int p1), .val (.int (1 : Int32)), .val (.int (1 : Int32))] [(.int (1 : Int32))])) _
    refine XS.iconst X393.here hx rfl (hb hby d5_80) ?_
    show Steps p.tables e below (T393.setTop (mkF m 81 #[.val (.ref a0), .val (.int p1), .val (.int (1 : Int32)), .val (.int (1 : Int32))] [(.int (3 : Int32)), (.int (1 : Int32))])) _
    refine XS.icmpYes X393.here hx rfl (pc0 := 81) (pc' := 105) rfl (hb hby d5_81) rfl (flt (by decide : ¬ ((3 : Int32) < (1 : Int32)))).2.2.2 (by decide) (by decide) ?_
    show Steps p.tables e below (T393.setTop (mkF m 105 #[.val (.ref a0), .val (.int p1), .val (.int (1 : Int32)), .val (.int (1 : Int32))] [])) _
    refine XS.iloadN X393.here hx rfl (hb hby d5_105) rfl ?_
    show Steps p.tables e below (T393.setTop (mkF m 106 #[.val (.ref a0), .val (.int p1), .val (.int (1 : Int32)), .val (.int (1 : Int32))] [(.int (1 : Int32))])) _
    exact retN X393 hx (t := .boolean) Bd.returns (by simp) (hb hby d5_106) hr
  · show Q5_1 Z a0 p1 k_a0 h0 n0 _ T393.heap _
    rw [e393]
    exact ⟨rfl, N393, rfl⟩
theorem d5_32 : decode method_6_code 32 = .ok (.iload_n 3, 1) := by decide +kernel
theorem d5_33 : decode method_6_code 33 = .ok (.ifCond .eq 18, 3) := by decide +kernel
theorem d5_36 : decode method_6_code 36 = .ok (.aload_n 0, 1) := by decide +kernel
theorem d5_37 : decode method_6_code 37 = .ok (.iconst 1, 1) := by decide +kernel
theorem d5_38 : decode method_6_code 38 = .ok (.baload, 1) := by decide +kernel
theorem d5_39 : decode method_6_code 39 = .ok (.iload_n 1, 1) := by decide +kernel
theorem d5_40 : decode method_6_code 40 = .ok (.iconst 1, 1) := by decide +kernel
theorem d5_41 : decode method_6_code 41 = .ok (.invokestatic 27, 3) := by decide +kernel
theorem d5_44 : decode method_6_code 44 = .ok (.if_icmp .ne 7, 3) := by decide +kernel
theorem d5_47 : decode method_6_code 47 = .ok (.iconst 1, 1) := by decide +kernel
theorem d5_48 : decode method_6_code 48 = .ok (.goto 4, 3) := by decide +kernel
theorem d5_52 : decode method_6_code 52 = .ok (.istore_n 3, 1) := by decide +kernel
theorem ef5_2 (m : MethodId) (x0 : Addr) (x1 : Int32) (x2 : Int32) : entryFrame m #[(.ref x0), (.int x1), (.int x2)] 4 = mkF m 0 #[.val (.ref x0), .val (.int x1), .val (.int x2), .unset] [] := by first | (simp [entryFrame, mkF, argsToLocals, Value.category]; done) | rfl
abbrev rr5_2 : Room := { frames := 1, cells := 0, slots := 0, locals := 14 }
def Q5_2 (Z : State) (a0 : Addr) (p1 : Int32) (k_a0 : ClassId) (h0 : Heap) (n0 : Nat) (v : Option Value) (h : Heap) (L : List Loc) : Prop := v = some (.int (1 : Int32)) ∧ Fr n0 L ∧ h = h0
set_option maxRecDepth 65536 in
set_option maxHeartbeats 40000000 in
theorem rm5_2 (l : Launch) (Z : State) (aw : Array Value) (hw : ∀ d ∈ tables_1, d.before aw Z = true) (ws : List Jvm.Cond) (a0 : Addr) (p1 : Int32) (k_a0 : ClassId) (h0 : Heap) (n0 : Nat) (Z0 : n0 ≤ h0.size) (V_a0 : Arv Z h0 a0 k_a0 .byte (2 : Int32) [(.int (nar .byte (nar .byte (((p1.toUInt32 >>> (((8 : Int32) * (0 : Int32)) &&& 31).toUInt32).toInt32).toInt8.toInt32)))), (.int (nar .byte (nar .byte (((p1.toUInt32 >>> (((8 : Int32) * (1 : Int32)) &&& 31).toUInt32).toInt32).toInt8.toInt32))))] (.int (0 : Int32))) :
    MetFree l (⟨"com/example/rollcall/rollcall/bench/MilenageXorPinLaw", "same", "([BII)Z"⟩ : MethodName) (head1 (Jvm.Cond.code (⟨"com/example/rollcall/rollcall/bench/MilenageXorPinLaw", "same", "([BII)Z"⟩ : MethodName) method_6_code 4 (some .boolean) :: ws) rr5_2) (fun a U => a = #[(.ref a0), (.int p1), (.int (2 : Int32))] ∧ Z.Warmed39 U.vm ∧ U.heap = h0) (fun _ _ _ _ _ => True) (fun _ U o U' => ∃ v L, o = .returned v ∧ Q5_2 Z a0 p1 k_a0 h0 n0 v U'.heap L ∧ FrameEnd U o U' L rr5_2.cells rr5_2.slots) := by
  refine MetFree.of_bodySF (plainFor_of_name pn_1) hisR ?_
  intro p e s m args below meth c s₁ Bd hml0 hP hK
  obtain ⟨rfl, hZ, hh⟩ := hP
  have hx := Bd.exec
  have hby := Bd.bytes
  have hml : c.maxLocals = 4 := hml0
  have hown : s.vm.findClass "com/example/rollcall/rollcall/bench/MilenageXorPinLaw" = some m.cls := findClass_of_methodNamed Bd.named
  have hnm := (name_of_methodNamed Bd.named Bd.method).1
  have X0 : Stand p l e rr5_2 s m #[(.ref a0), (.int p1), (.int (2 : Int32))] below meth c s₁ [] 0 0 := Stand.of_body Bd
  have e0 : s₁.heap = h0 := by rw [← hh, Bd.state]; rfl
  have N0 := Fr.nil n0
  have pre0 : ∀ t, Steps p.tables e below (s₁.setTop (mkF m 0 #[.val (.ref a0), .val (.int p1), .val (.int (2 : Int32)), .unset] [])) t → Steps p.tables e below (s₁.setTop (entryFrame m #[(.ref a0), (.int p1), (.int (2 : Int32))] 4)) t := fun t k => castTop (ef5_2 m a0 p1 (2 : Int32)) k
  obtain ⟨cl394, Ar394, q394, S394, M394, H394, G394⟩ := id V_a0
  have hin395 : ¬ ((0 : Int32) < 0 ∨ cl394.slots.size ≤ ((0 : Int32)).toNatClampNeg) := inb_of S394 ⟨by decide, by decide⟩
  have hat396 : cl394.slots[((0 : Int32)).toNatClampNeg]? = some (.int (nar .byte (nar .byte (((p1.toUInt32 >>> (((8 : Int32) * (0 : Int32)) &&& 31).toUInt32).toInt32).toInt8.toInt32)))) := H394.at hin395 rfl
  obtain ⟨_, _, ⟨T397, L397, k397, n397⟩, -, X397, ⟨Lc397, hQ397, l397, y397, z397⟩, st397⟩ := Jvm.LawKit.callS X0 hx (y := (⟨"com/example/rollcall/rollcall/bench/MilenageXorPinLaw", "oct", "(II)B"⟩ : MethodName)) hown (mvT hZ (hw _ (List.mem_of_getElem? (i := 5) rfl))) (mvT hZ (hw _ (List.mem_of_getElem? (i := 6) rfl))) (mvT hZ (hw _ (List.mem_of_getElem? (i := 2) rfl))) (mvT hZ (hw _ (List.mem_of_getElem? (i := 7) rfl))) (by decide) (backOf (W := 1) (rm2 l Z aw hw [] p1 ((0 : Int32)) h0 n0 Z0 ) hZ (hw _ (List.mem_of_getElem? (i := 7) rfl)) (hw _ (List.mem_of_getElem? (i := 2) rfl)) (by decide) (by decide)) (g := (mkF m 15 #[.val (.ref a0), .val (.int p1), .val (.int (2 : Int32)), .val (.int (1 : Int32))] [(.int (0 : Int32)), (.int p1), (.int (nar .byte (nar .byte (((p1.toUInt32 >>> (((8 : Int32) * (0 : Int32)) &&& 31).toUInt32).toInt32).toInt8.toInt32))))])) rfl (by rw [hml]; rfl) (argsL := [(.int p1), (.int (0 : Int32))]) (rest := [(.int (nar .byte (nar .byte (((p1.toUInt32 >>> (((8 : Int32) * (0 : Int32)) &&& 31).toUInt32).toInt32).toInt8.toInt32))))]) (lenOf pd_1 rfl) rfl (by show 2 * 0 + _ ≤ _; exact Nat.le_of_eq rfl) (hb hby d5_15) (fun _ _ => ⟨rfl, e0, (by decide : 0 + 0 ≤ _), (by decide : 0 + 0 ≤ _)⟩)
  dsimp only [Pt.U, Pt.locs, Pt.cells, Pt.slots] at X397 l397 y397 z397 st397 hQ397
  subst l397 y397 z397
  obtain ⟨rfl, N397q, e397⟩ := hQ397
  have N397 := Fr.app N0 N397q
  obtain ⟨cl398, Ar398, q398, S398, M398, H398, G398⟩ := id V_a0
  have hin399 : ¬ ((1 : Int32) < 0 ∨ cl398.slots.size ≤ ((1 : Int32)).toNatClampNeg) := inb_of S398 ⟨by decide, by decide⟩
  have hat400 : cl398.slots[((1 : Int32)).toNatClampNeg]? = some (.int (nar .byte (nar .byte (((p1.toUInt32 >>> (((8 : Int32) * (1 : Int32)) &&& 31).toUInt32).toInt32).toInt8.toInt32)))) := H398.at hin399 rfl
  obtain ⟨_, _, ⟨T401, L401, k401, n401⟩, -, X401, ⟨Lc401, hQ401, l401, y401, z401⟩, st401⟩ := Jvm.LawKit.callS X397 hx (y := (⟨"com/example/rollcall/rollcall/bench/MilenageXorPinLaw", "oct", "(II)B"⟩ : MethodName)) hown (mvT hZ (hw _ (List.mem_of_getElem? (i := 5) rfl))) (mvT hZ (hw _ (List.mem_of_getElem? (i := 6) rfl))) (mvT hZ (hw _ (List.mem_of_getElem? (i := 2) rfl))) (mvT hZ (hw _ (List.mem_of_getElem? (i := 7) rfl))) (by decide) (backOf (W := 1) (rm2 l Z aw hw [] p1 ((1 : Int32)) h0 n0 Z0 ) hZ (hw _ (List.mem_of_getElem? (i := 7) rfl)) (hw _ (List.mem_of_getElem? (i := 2) rfl)) (by decide) (by decide)) (g := (mkF m 41 #[.val (.ref a0), .val (.int p1), .val (.int (2 : Int32)), .val (.int (1 : Int32))] [(.int (1 : Int32)), (.int p1), (.int (nar .byte (nar .byte (((p1.toUInt32 >>> (((8 : Int32) * (1 : Int32)) &&& 31).toUInt32).toInt32).toInt8.toInt32))))])) rfl (by rw [hml]; rfl) (argsL := [(.int p1), (.int (1 : Int32))]) (rest := [(.int (nar .byte (nar .byte (((p1.toUInt32 >>> (((8 : Int32) * (1 : Int32)) &&& 31).toUInt32).toInt32).toInt8.toInt32))))]) (lenOf pd_1 rfl) rfl (by show 2 * 0 + _ ≤ _; exact Nat.le_of_eq rfl) (hb hby d5_41) (fun _ _ => ⟨rfl, e397, (by decide : 0 + 0 ≤ _), (by decide : 0 + 0 ≤ _)⟩)
  dsimp only [Pt.U, Pt.locs, Pt.cells, Pt.slots] at X401 l401 y401 z401 st401 hQ401
  subst l401 y401 z401
  obtain ⟨rfl, N401q, e401⟩ := hQ401
  have N401 := Fr.app N397 N401q
  obtain ⟨fs, hr, hrun, hended, hW, hsame⟩ := X401.leave (v := some (.int (1 : Int32))) (fun h => by rw [Bd.returns] at h; cases h)
  refine ⟨_, _, pre0 _ ?_, hrun, hended, _, _, rfl, ?_, ⟨_, rfl⟩, hW, hsame.mono (by decide) (by decide)⟩
  · skip
    show Steps p.tables e below (s₁.setTop (mkF m 0 #[.val (.ref a0), .val (.int p1), .val (.int (2 : Int32)), .unset] [])) _
    refine XS.iconst X0.here hx rfl (hb hby d5_0) ?_
    show Steps p.tables e below (s₁.setTop (mkF m 1 #[.val (.ref a0), .val (.int p1), .val (.int (2 : Int32)), .unset] [(.int (1 : Int32))])) _
    refine XS.istoreN X0.here hx rfl (hb hby d5_1) rfl (l' := #[.val (.ref a0), .val (.int p1), .val (.int (2 : Int32)), .val (.int (1 : Int32))]) rfl ?_
    show Steps p.tables e below (s₁.setTop (mkF m 2 #[.val (.ref a0), .val (.int p1), .val (.int (2 : Int32)), .val (.int (1 : Int32))] [])) _
    refine XS.iloadN X0.here hx rfl (hb hby d5_2) rfl ?_
    show Steps p.tables e below (s₁.setTop (mkF m 3 #[.val (.ref a0), .val (.int p1), .val (.int (2 : Int32)), .val (.int (1 : Int32))] [(.int (2 : Int32))])) _
    refine XS.ifNo X0.here hx rfl (hb hby d5_3) rfl ((if0 _ _).trans (tlt (by decide : (0 : Int32) < (2 : Int32))).2.2.2) ?_
    show Steps p.tables e below (s₁.setTop (mkF m 6 #[.val (.ref a0), .val (.int p1), .val (.int (2 : Int32)), .val (.int (1 : Int32))] [])) _
    refine XS.iloadN X0.here hx rfl (hb hby d5_6) rfl ?_
    show Steps p.tables e below (s₁.setTop (mkF m 7 #[.val (.ref a0), .val (.int p1), .val (.int (2 : Int32)), .val (.int (1 : Int32))] [(.int (1 : Int32))])) _
    refine XS.ifNo X0.here hx rfl (hb hby d5_7) rfl ((if0 _ _).trans (feq (by decide : ¬ ((1 : Int32) = (0 : Int32)))).1) ?_
    show Steps p.tables e below (s₁.setTop (mkF m 10 #[.val (.ref a0), .val (.int p1), .val (.int (2 : Int32)), .val (.int (1 : Int32))] [])) _
    refine XS.aloadN X0.here hx rfl (hb hby d5_10) rfl rfl ?_
    show Steps p.tables e below (s₁.setTop (mkF m 11 #[.val (.ref a0), .val (.int p1), .val (.int (2 : Int32)), .val (.int (1 : Int32))] [(.ref a0)])) _
    refine XS.iconst X0.here hx rfl (hb hby d5_11) ?_
    show Steps p.tables e below (s₁.setTop (mkF m 12 #[.val (.ref a0), .val (.int p1), .val (.int (2 : Int32)), .val (.int (1 : Int32))] [(.int (0 : Int32)), (.ref a0)])) _
    refine X0.baloadBytes hx (j := (0 : Int32)) (v := (.int (nar .byte (nar .byte (((p1.toUInt32 >>> (((8 : Int32) * (0 : Int32)) &&& 31).toUInt32).toInt32).toInt8.toInt32))))) (by rw [e0]; exact Ar394.1) (State.isArrayOf_alike hZ.alike Ar394.2.1) Ar394.2.2 hin395 hat396 (g := (mkF m 12 #[.val (.ref a0), .val (.int p1), .val (.int (2 : Int32)), .val (.int (1 : Int32))] [(.int (0 : Int32)), (.ref a0)])) rfl rfl (hb hby d5_12) _ ?_
    show Steps p.tables e below (s₁.setTop (mkF m 13 #[.val (.ref a0), .val (.int p1), .val (.int (2 : Int32)), .val (.int (1 : Int32))] [(.int (nar .byte (nar .byte (((p1.toUInt32 >>> (((8 : Int32) * (0 : Int32)) &&& 31).toUInt32).toInt32).toInt8.toInt32))))])) _
    refine XS.iloadN X0.here hx rfl (hb hby d5_13) rfl ?_
    show Steps p.tables e below (s₁.setTop (mkF m 14 #[.val (.ref a0), .val (.int p1), .val (.int (2 : Int32)), .val (.int (1 : Int32))] [(.int p1), (.int (nar .byte (nar .byte (((p1.toUInt32 >>> (((8 : Int32) * (0 : Int32)) &&& 31).toUInt32).toInt32).toInt8.toInt32))))])) _
    refine XS.iconst X0.here hx rfl (hb hby d5_14) ?_
    show Steps p.tables e below (s₁.setTop (mkF m 15 #[.val (.ref a0), .val (.int p1), .val (.int (2 : Int32)), .val (.int (1 : Int32))] [(.int (0 : Int32)), (.int p1), (.int (nar .byte (nar .byte (((p1.toUInt32 >>> (((8 : Int32) * (0 : Int32)) &&& 31).toUInt32).toInt32).toInt8.toInt32))))])) _
    refine st397 _ ?_
    show Steps p.tables e below (T397.setTop (mkF m 18 #[.val (.ref a0), .val (.int p1), .val (.int (2 : Int32)), .val (.int (1 : Int32))] [(.int (nar .byte (((p1.toUInt32 >>> (((8 : Int32) * (0 : Int32)) &&& 31).toUInt32).toInt32).toInt8.toInt32))), (.int (nar .byte (nar .byte (((p1.toUInt32 >>> (((8 : Int32) * (0 : Int32)) &&& 31).toUInt32).toInt32).toInt8.toInt32))))])) _
    refine XS.icmpNo X397.here hx rfl (hb hby d5_18) rfl (teq (own_bb _)).2 ?_
    show Steps p.tables e below (T397.setTop (mkF m 21 #[.val (.ref a0), .val (.int p1), .val (.int (2 : Int32)), .val (.int (1 : Int32))] [])) _
    refine XS.iconst X397.here hx rfl (hb hby d5_21) ?_
    show Steps p.tables e below (T397.setTop (mkF m 22 #[.val (.ref a0), .val (.int p1), .val (.int (2 : Int32)), .val (.int (1 : Int32))] [(.int (1 : Int32))])) _
    refine XS.goto X397.here hx rfl (pc0 := 22) (pc' := 26) rfl (hb hby d5_22) (by decide) (by decide) ?_
    show Steps p.tables e below (T397.setTop (mkF m 26 #[.val (.ref a0), .val (.int p1), .val (.int (2 : Int32)), .val (.int (1 : Int32))] [(.int (1 : Int32))])) _
    refine XS.istoreN X397.here hx rfl (hb hby d5_26) rfl (l' := #[.val (.ref a0), .val (.int p1), .val (.int (2 : Int32)), .val (.int (1 : Int32))]) rfl ?_
    show Steps p.tables e below (T397.setTop (mkF m 27 #[.val (.ref a0), .val (.int p1), .val (.int (2 : Int32)), .val (.int (1 : Int32))] [])) _
    refine XS.iloadN X397.here hx rfl (hb hby d5_27) rfl ?_
    show Steps p.tables e below (T397.setTop (mkF m 28 #[.val (.ref a0), .val (.int p1), .val (.int (2 : Int32)), .val (.int (1 : Int32))] [(.int (2 : Int32))])) _
    refine XS.iconst X397.here hx rfl (hb hby d5_28) ?_
    show Steps p.tables e below (T397.setTop (mkF m 29 #[.val (.ref a0), .val (.int p1), .val (.int (2 : Int32)), .val (.int (1 : Int32))] [(.int (1 : Int32)), (.int (2 : Int32))])) _
    refine XS.icmpNo X397.here hx rfl (hb hby d5_29) rfl (tlt (by decide : (1 : Int32) < (2 : Int32))).2.2.2 ?_
    show Steps p.tables e below (T397.setTop (mkF m 32 #[.val (.ref a0), .val (.int p1), .val (.int (2 : Int32)), .val (.int (1 : Int32))] [])) _
    refine XS.iloadN X397.here hx rfl (hb hby d5_32) rfl ?_
    show Steps p.tables e below (T397.setTop (mkF m 33 #[.val (.ref a0), .val (.int p1), .val (.int (2 : Int32)), .val (.int (1 : Int32))] [(.int (1 : Int32))])) _
    refine XS.ifNo X397.here hx rfl (hb hby d5_33) rfl ((if0 _ _).trans (feq (by decide : ¬ ((1 : Int32) = (0 : Int32)))).1) ?_
    show Steps p.tables e below (T397.setTop (mkF m 36 #[.val (.ref a0), .val (.int p1), .val (.int (2 : Int32)), .val (.int (1 : Int32))] [])) _
    refine XS.aloadN X397.here hx rfl (hb hby d5_36) rfl rfl ?_
    show Steps p.tables e below (T397.setTop (mkF m 37 #[.val (.ref a0), .val (.int p1), .val (.int (2 : Int32)), .val (.int (1 : Int32))] [(.ref a0)])) _
    refine XS.iconst X397.here hx rfl (hb hby d5_37) ?_
    show Steps p.tables e below (T397.setTop (mkF m 38 #[.val (.ref a0), .val (.int p1), .val (.int (2 : Int32)), .val (.int (1 : Int32))] [(.int (1 : Int32)), (.ref a0)])) _
    refine X397.baloadBytes hx (j := (1 : Int32)) (v := (.int (nar .byte (nar .byte (((p1.toUInt32 >>> (((8 : Int32) * (1 : Int32)) &&& 31).toUInt32).toInt32).toInt8.toInt32))))) (by rw [e397]; exact Ar398.1) (State.isArrayOf_alike hZ.alike Ar398.2.1) Ar398.2.2 hin399 hat400 (g := (mkF m 38 #[.val (.ref a0), .val (.int p1), .val (.int (2 : Int32)), .val (.int (1 : Int32))] [(.int (1 : Int32)), (.ref a0)])) rfl rfl (hb hby d5_38) _ ?_
    show Steps p.tables e below (T397.setTop (mkF m 39 #[.val (.ref a0), .val (.int p1), .val (.int (2 : Int32)), .val (.int (1 : Int32))] [(.int (nar .byte (nar .byte (((p1.toUInt32 >>> (((8 : Int32) * (1 : Int32)) &&& 31).toUInt32).toInt32).toInt8.toInt32))))])) _
    refine XS.iloadN X397.here hx rfl (hb hby d5_39) rfl ?_
    show Steps p.tables e below (T397.setTop (mkF m 40 #[.val (.ref a0), .val (.int p1), .val (.int (2 : Int32)), .val (.int (1 : Int32))] [(.int p1), (.int (nar .byte (nar .byte (((p1.toUInt32 >>> (((8 : Int32) * (1 : Int32)) &&& 31).toUInt32).toInt32).toInt8.toInt32))))])) _
    refine XS.iconst X397.here hx rfl (hb hby d5_40) ?_
    show Steps p.tables e below (T397.setTop (mkF m 41 #[.val (.ref a0), .val (.int p1), .val (.int (2 : Int32)), .val (.int (1 : Int32))] [(.int (1 : Int32)), (.int p1), (.int (nar .byte (nar .byte (((p1.toUInt32 >>> (((8 : Int32) * (1 : Int32)) &&& 31).toUInt32).toInt32).toInt8.toInt32))))])) _
    refine st401 _ ?_
    show Steps p.tables e below (T401.setTop (mkF m 44 #[.val (.ref a0), .val (.int p1), .val (.int (2 : Int32)), .val (.int (1 : Int32))] [(.int (nar .byte (((p1.toUInt32 >>> (((8 : Int32) * (1 : Int32)) &&& 31).toUInt32).toInt32).toInt8.toInt32))), (.int (nar .byte (nar .byte (((p1.toUInt32 >>> (((8 : Int32) * (1 : Int32)) &&& 31).toUInt32).toInt32).toInt8.toInt32))))])) _
    refine XS.icmpNo X401.here hx rfl (hb hby d5_44) rfl (teq (own_bb _)).2 ?_
    show Steps p.tables e below (T401.setTop (mkF m 47 #[.val (.ref a0), .val (.int p1), .val (.int (2 : Int32)), .val (.int (1 : Int32))] [])) _
    refine XS.iconst X401.here hx rfl (hb hby d5_47) ?_
    show Steps p.tables e below (T401.setTop (mkF m 48 #[.val (.ref a0), .val (.int p1), .val (.int (2 : Int32)), .val (.int (1 : Int32))] [(.int (1 : Int32))])) _
    refine XS.goto X401.here hx rfl (pc0 := 48) (pc' := 52) rfl (hb hby d5_48) (by decide) (by decide) ?_
    show Steps p.tables e below (T401.setTop (mkF m 52 #[.val (.ref a0), .val (.int p1), .val (.int (2 : Int32)), .val (.int (1 : Int32))] [(.int (1 : Int32))])) _
    refine XS.istoreN X401.here hx rfl (hb hby d5_52) rfl (l' := #[.val (.ref a0), .val (.int p1), .val (.int (2 : Int32)), .val (.int (1 : Int32))]) rfl ?_
    show Steps p.tables e below (T401.setTop (mkF m 53 #[.val (.ref a0), .val (.int p1), .val (.int (2 : Int32)), .val (.int (1 : Int32))] [])) _
    refine XS.iloadN X401.here hx rfl (hb hby d5_53) rfl ?_
    show Steps p.tables e below (T401.setTop (mkF m 54 #[.val (.ref a0), .val (.int p1), .val (.int (2 : Int32)), .val (.int (1 : Int32))] [(.int (2 : Int32))])) _
    refine XS.iconst X401.here hx rfl (hb hby d5_54) ?_
    show Steps p.tables e below (T401.setTop (mkF m 55 #[.val (.ref a0), .val (.int p1), .val (.int (2 : Int32)), .val (.int (1 : Int32))] [(.int (2 : Int32)), (.int (2 : Int32))])) _
    refine XS.icmpYes X401.here hx rfl (pc0 := 55) (pc' := 79) rfl (hb hby d5_55) rfl (flt (by decide : ¬ ((2 : Int32) < (2 : Int32)))).2.2.2 (by decide) (by decide) ?_
    show Steps p.tables e below (T401.setTop (mkF m 79 #[.val (.ref a0), .val (.int p1), .val (.int (2 : Int32)), .val (.int (1 : Int32))] [])) _
    refine XS.iloadN X401.here hx rfl (hb hby d5_79) rfl ?_
    show Steps p.tables e below (T401.setTop (mkF m 80 #[.val (.ref a0), .val (.int p1), .val (.int (2 : Int32)), .val (.int (1 : Int32))] [(.int (2 : Int32))])) _
    refine XS.iconst X401.here hx rfl (hb hby d5_80) ?_
    show Steps p.tables e below (T401.setTop (mkF m 81 #[.val (.ref a0), .val (.int p1), .val (.int (2 : Int32)), .val (.int (1 : Int32))] [(.int (3 : Int32)), (.int (2 : Int32))])) _
    refine XS.icmpYes X401.here hx rfl (pc0 := 81) (pc' := 105) rfl (hb hby d5_81) rfl (flt (by decide : ¬ ((3 : Int32) < (2 : Int32)))).2.2.2 (by decide) (by decide) ?_
    show Steps p.tables e below (T401.setTop (mkF m 105 #[.val (.ref a0), .val (.int p1), .val (.int (2 : Int32)), .val (.int (1 : Int32))] [])) _
    refine XS.iloadN X401.here hx rfl (hb hby d5_105) rfl ?_
    show Steps p.tables e below (T401.setTop (mkF m 106 #[.val (.ref a0), .val (.int p1), .val (.int (2 : Int32)), .val (.int (1 : Int32))] [(.int (1 : Int32))])) _
    exact retN X401 hx (t := .boolean) Bd.returns (by simp) (hb hby d5_106) hr
  · show Q5_2 Z a0 p1 k_a0 h0 n0 _ T401.heap _
    rw [e401]
    exact ⟨rfl, N401, rfl⟩
theorem d5_58 : decode method_6_code 58 = .ok (.iload_n 3, 1) := by decide +kernel
theorem d5_59 : decode method_6_code 59 = .ok (.ifCond .eq 18, 3) := by decide +kernel
theorem d5_62 : decode method_6_code 62 = .ok (.aload_n 0, 1) := by decide +kernel
theorem d5_63 : decode method_6_code 63 = .ok (.iconst 2, 1) := by decide +kernel
theorem d5_64 : decode method_6_code 64 = .ok (.baload, 1) := by decide +kernel
theorem d5_65 : decode method_6_code 65 = .ok (.iload_n 1, 1) := by decide +kernel
theorem d5_66 : decode method_6_code 66 = .ok (.iconst 2, 1) := by decide +kernel
theorem d5_67 : decode method_6_code 67 = .ok (.invokestatic 27, 3) := by decide +kernel
theorem d5_70 : decode method_6_code 70 = .ok (.if_icmp .ne 7, 3) := by decide +kernel
theorem d5_73 : decode method_6_code 73 = .ok (.iconst 1, 1) := by decide +kernel
theorem d5_74 : decode method_6_code 74 = .ok (.goto 4, 3) := by decide +kernel
theorem d5_78 : decode method_6_code 78 = .ok (.istore_n 3, 1) := by decide +kernel
theorem ef5_3 (m : MethodId) (x0 : Addr) (x1 : Int32) (x2 : Int32) : entryFrame m #[(.ref x0), (.int x1), (.int x2)] 4 = mkF m 0 #[.val (.ref x0), .val (.int x1), .val (.int x2), .unset] [] := by first | (simp [entryFrame, mkF, argsToLocals, Value.category]; done) | rfl
abbrev rr5_3 : Room := { frames := 1, cells := 0, slots := 0, locals := 14 }
def Q5_3 (Z : State) (a0 : Addr) (p1 : Int32) (k_a0 : ClassId) (h0 : Heap) (n0 : Nat) (v : Option Value) (h : Heap) (L : List Loc) : Prop := v = some (.int (1 : Int32)) ∧ Fr n0 L ∧ h = h0
set_option maxRecDepth 65536 in
set_option maxHeartbeats 40000000 in
theorem rm5_3 (l : Launch) (Z : State) (aw : Array Value) (hw : ∀ d ∈ tables_1, d.before aw Z = true) (ws : List Jvm.Cond) (a0 : Addr) (p1 : Int32) (k_a0 : ClassId) (h0 : Heap) (n0 : Nat) (Z0 : n0 ≤ h0.size) (V_a0 : Arv Z h0 a0 k_a0 .byte (3 : Int32) [(.int (nar .byte (nar .byte (((p1.toUInt32 >>> (((8 : Int32) * (0 : Int32)) &&& 31).toUInt32).toInt32).toInt8.toInt32)))), (.int (nar .byte (nar .byte (((p1.toUInt32 >>> (((8 : Int32) * (1 : Int32)) &&& 31).toUInt32).toInt32).toInt8.toInt32)))), (.int (nar .byte (nar .byte (((p1.toUInt32 >>> (((8 : Int32) * (2 : Int32)) &&& 31).toUInt32).toInt32).toInt8.toInt32))))] (.int (0 : Int32))) :
    MetFree l (⟨"com/example/rollcall/rollcall/bench/MilenageXorPinLaw", "same", "([BII)Z"⟩ : MethodName) (head1 (Jvm.Cond.code (⟨"com/example/rollcall/rollcall/bench/MilenageXorPinLaw", "same", "([BII)Z"⟩ : MethodName) method_6_code 4 (some .boolean) :: ws) rr5_3) (fun a U => a = #[(.ref a0), (.int p1), (.int (3 : Int32))] ∧ Z.Warmed39 U.vm ∧ U.heap = h0) (fun _ _ _ _ _ => True) (fun _ U o U' => ∃ v L, o = .returned v ∧ Q5_3 Z a0 p1 k_a0 h0 n0 v U'.heap L ∧ FrameEnd U o U' L rr5_3.cells rr5_3.slots) := by
  refine MetFree.of_bodySF (plainFor_of_name pn_1) hisR ?_
  intro p e s m args below meth c s₁ Bd hml0 hP hK
  obtain ⟨rfl, hZ, hh⟩ := hP
  have hx := Bd.exec
  have hby := Bd.bytes
  have hml : c.maxLocals = 4 := hml0
  have hown : s.vm.findClass "com/example/rollcall/rollcall/bench/MilenageXorPinLaw" = some m.cls := findClass_of_methodNamed Bd.named
  have hnm := (name_of_methodNamed Bd.named Bd.method).1
  have X0 : Stand p l e rr5_3 s m #[(.ref a0), (.int p1), (.int (3 : Int32))] below meth c s₁ [] 0 0 := Stand.of_body Bd
  have e0 : s₁.heap = h0 := by rw [← hh, Bd.state]; rfl
  have N0 := Fr.nil n0
  have pre0 : ∀ t, Steps p.tables e below (s₁.setTop (mkF m 0 #[.val (.ref a0), .val (.int p1), .val (.int (3 : Int32)), .unset] [])) t → Steps p.tables e below (s₁.setTop (entryFrame m #[(.ref a0), (.int p1), (.int (3 : Int32))] 4)) t := fun t k => castTop (ef5_3 m a0 p1 (3 : Int32)) k
  obtain ⟨cl402, Ar402, q402, S402, M402, H402, G402⟩ := id V_a0
  have hin403 : ¬ ((0 : Int32) < 0 ∨ cl402.slots.size ≤ ((0 : Int32)).toNatClampNeg) := inb_of S402 ⟨by decide, by decide⟩
  have hat404 : cl402.slots[((0 : Int32)).toNatClampNeg]? = some (.int (nar .byte (nar .byte (((p1.toUInt32 >>> (((8 : Int32) * (0 : Int32)) &&& 31).toUInt32).toInt32).toInt8.toInt32)))) := H402.at hin403 rfl
  obtain ⟨_, _, ⟨T405, L405, k405, n405⟩, -, X405, ⟨Lc405, hQ405, l405, y405, z405⟩, st405⟩ := Jvm.LawKit.callS X0 hx (y := (⟨"com/example/rollcall/rollcall/bench/MilenageXorPinLaw", "oct", "(II)B"⟩ : MethodName)) hown (mvT hZ (hw _ (List.mem_of_getElem? (i := 5) rfl))) (mvT hZ (hw _ (List.mem_of_getElem? (i := 6) rfl))) (mvT hZ (hw _ (List.mem_of_getElem? (i := 2) rfl))) (mvT hZ (hw _ (List.mem_of_getElem? (i := 7) rfl))) (by decide) (backOf (W := 1) (rm2 l Z aw hw [] p1 ((0 : Int32)) h0 n0 Z0 ) hZ (hw _ (List.mem_of_getElem? (i := 7) rfl)) (hw _ (List.mem_of_getElem? (i := 2) rfl)) (by decide) (by decide)) (g := (mkF m 15 #[.val (.ref a0), .val (.int p1), .val (.int (3 : Int32)), .val (.int (1 : Int32))] [(.int (0 : Int32)), (.int p1), (.int (nar .byte (nar .byte (((p1.toUInt32 >>> (((8 : Int32) * (0 : Int32)) &&& 31).toUInt32).toInt32).toInt8.toInt32))))])) rfl (by rw [hml]; rfl) (argsL := [(.int p1), (.int (0 : Int32))]) (rest := [(.int (nar .byte (nar .byte (((p1.toUInt32 >>> (((8 : Int32) * (0 : Int32)) &&& 31).toUInt32).toInt32).toInt8.toInt32))))]) (lenOf pd_1 rfl) rfl (by show 2 * 0 + _ ≤ _; exact Nat.le_of_eq rfl) (hb hby d5_15) (fun _ _ => ⟨rfl, e0, (by decide : 0 + 0 ≤ _), (by decide : 0 + 0 ≤ _)⟩)
  dsimp only [Pt.U, Pt.locs, Pt.cells, Pt.slots] at X405 l405 y405 z405 st405 hQ405
  subst l405 y405 z405
  obtain ⟨rfl, N405q, e405⟩ := hQ405
  have N405 := Fr.app N0 N405q
  obtain ⟨cl406, Ar406, q406, S406, M406, H406, G406⟩ := id V_a0
  have hin407 : ¬ ((1 : Int32) < 0 ∨ cl406.slots.size ≤ ((1 : Int32)).toNatClampNeg) := inb_of S406 ⟨by decide, by decide⟩
  have hat408 : cl406.slots[((1 : Int32)).toNatClampNeg]? = some (.int (nar .byte (nar .byte (((p1.toUInt32 >>> (((8 : Int32) * (1 : Int32)) &&& 31).toUInt32).toInt32).toInt8.toInt32)))) := H406.at hin407 rfl
  obtain ⟨_, _, ⟨T409, L409, k409, n409⟩, -, X409, ⟨Lc409, hQ409, l409, y409, z409⟩, st409⟩ := Jvm.LawKit.callS X405 hx (y := (⟨"com/example/rollcall/rollcall/bench/MilenageXorPinLaw", "oct", "(II)B"⟩ : MethodName)) hown (mvT hZ (hw _ (List.mem_of_getElem? (i := 5) rfl))) (mvT hZ (hw _ (List.mem_of_getElem? (i := 6) rfl))) (mvT hZ (hw _ (List.mem_of_getElem? (i := 2) rfl))) (mvT hZ (hw _ (List.mem_of_getElem? (i := 7) rfl))) (by decide) (backOf (W := 1) (rm2 l Z aw hw [] p1 ((1 : Int32)) h0 n0 Z0 ) hZ (hw _ (List.mem_of_getElem? (i := 7) rfl)) (hw _ (List.mem_of_getElem? (i := 2) rfl)) (by decide) (by decide)) (g := (mkF m 41 #[.val (.ref a0), .val (.int p1), .val (.int (3 : Int32)), .val (.int (1 : Int32))] [(.int (1 : Int32)), (.int p1), (.int (nar .byte (nar .byte (((p1.toUInt32 >>> (((8 : Int32) * (1 : Int32)) &&& 31).toUInt32).toInt32).toInt8.toInt32))))])) rfl (by rw [hml]; rfl) (argsL := [(.int p1), (.int (1 : Int32))]) (rest := [(.int (nar .byte (nar .byte (((p1.toUInt32 >>> (((8 : Int32) * (1 : Int32)) &&& 31).toUInt32).toInt32).toInt8.toInt32))))]) (lenOf pd_1 rfl) rfl (by show 2 * 0 + _ ≤ _; exact Nat.le_of_eq rfl) (hb hby d5_41) (fun _ _ => ⟨rfl, e405, (by decide : 0 + 0 ≤ _), (by decide : 0 + 0 ≤ _)⟩)
  dsimp only [Pt.U, Pt.locs, Pt.cells, Pt.slots] at X409 l409 y409 z409 st409 hQ409
  subst l409 y409 z409
  obtain ⟨rfl, N409q, e409⟩ := hQ409
  have N409 := Fr.app N405 N409q
  obtain ⟨cl410, Ar410, q410, S410, M410, H410, G410⟩ := id V_a0
  have hin411 : ¬ ((2 : Int32) < 0 ∨ cl410.slots.size ≤ ((2 : Int32)).toNatClampNeg) := inb_of S410 ⟨by decide, by decide⟩
  have hat412 : cl410.slots[((2 : Int32)).toNatClampNeg]? = some (.int (nar .byte (nar .byte (((p1.toUInt32 >>> (((8 : Int32) * (2 : Int32)) &&& 31).toUInt32).toInt32).toInt8.toInt32)))) := H410.at hin411 rfl
  obtain ⟨_, _, ⟨T413, L413, k413, n413⟩, -, X413, ⟨Lc413, hQ413, l413, y413, z413⟩, st413⟩ := Jvm.LawKit.callS X409 hx (y := (⟨"com/example/rollcall/rollcall/bench/MilenageXorPinLaw", "oct", "(II)B"⟩ : MethodName)) hown (mvT hZ (hw _ (List.mem_of_getElem? (i := 5) rfl))) (mvT hZ (hw _ (List.mem_of_getElem? (i := 6) rfl))) (mvT hZ (hw _ (List.mem_of_getElem? (i := 2) rfl))) (mvT hZ (hw _ (List.mem_of_getElem? (i := 7) rfl))) (by decide) (backOf (W := 1) (rm2 l Z aw hw [] p1 ((2 : Int32)) h0 n0 Z0 ) hZ (hw _ (List.mem_of_getElem? (i := 7) rfl)) (hw _ (List.mem_of_getElem? (i := 2) rfl)) (by decide) (by decide)) (g := (mkF m 67 #[.val (.ref a0), .val (.int p1), .val (.int (3 : Int32)), .val (.int (1 : Int32))] [(.int (2 : Int32)), (.int p1), (.int (nar .byte (nar .byte (((p1.toUInt32 >>> (((8 : Int32) * (2 : Int32)) &&& 31).toUInt32).toInt32).toInt8.toInt32))))])) rfl (by rw [hml]; rfl) (argsL := [(.int p1), (.int (2 : Int32))]) (rest := [(.int (nar .byte (nar .byte (((p1.toUInt32 >>> (((8 : Int32) * (2 : Int32)) &&& 31).toUInt32).toInt32).toInt8.toInt32))))]) (lenOf pd_1 rfl) rfl (by show 2 * 0 + _ ≤ _; exact Nat.le_of_eq rfl) (hb hby d5_67) (fun _ _ => ⟨rfl, e409, (by decide : 0 + 0 ≤ _), (by decide : 0 + 0 ≤ _)⟩)
  dsimp only [Pt.U, Pt.locs, Pt.cells, Pt.slots] at X413 l413 y413 z413 st413 hQ413
  subst l413 y413 z413
  obtain ⟨rfl, N413q, e413⟩ := hQ413
  have N413 := Fr.app N409 N413q
  obtain ⟨fs, hr, hrun, hended, hW, hsame⟩ := X413.leave (v := some (.int (1 : Int32))) (fun h => by rw [Bd.returns] at h; cases h)
  refine ⟨_, _, pre0 _ ?_, hrun, hended, _, _, rfl, ?_, ⟨_, rfl⟩, hW, hsame.mono (by decide) (by decide)⟩
  · skip
    show Steps p.tables e below (s₁.setTop (mkF m 0 #[.val (.ref a0), .val (.int p1), .val (.int (3 : Int32)), .unset] [])) _
    refine XS.iconst X0.here hx rfl (hb hby d5_0) ?_
    show Steps p.tables e below (s₁.setTop (mkF m 1 #[.val (.ref a0), .val (.int p1), .val (.int (3 : Int32)), .unset] [(.int (1 : Int32))])) _
    refine XS.istoreN X0.here hx rfl (hb hby d5_1) rfl (l' := #[.val (.ref a0), .val (.int p1), .val (.int (3 : Int32)), .val (.int (1 : Int32))]) rfl ?_
    show Steps p.tables e below (s₁.setTop (mkF m 2 #[.val (.ref a0), .val (.int p1), .val (.int (3 : Int32)), .val (.int (1 : Int32))] [])) _
    refine XS.iloadN X0.here hx rfl (hb hby d5_2) rfl ?_
    show Steps p.tables e below (s₁.setTop (mkF m 3 #[.val (.ref a0), .val (.int p1), .val (.int (3 : Int32)), .val (.int (1 : Int32))] [(.int (3 : Int32))])) _
    refine XS.ifNo X0.here hx rfl (hb hby d5_3) rfl ((if0 _ _).trans (tlt (by decide : (0 : Int32) < (3 : Int32))).2.2.2) ?_
    show Steps p.tables e below (s₁.setTop (mkF m 6 #[.val (.ref a0), .val (.int p1), .val (.int (3 : Int32)), .val (.int (1 : Int32))] [])) _
    refine XS.iloadN X0.here hx rfl (hb hby d5_6) rfl ?_
    show Steps p.tables e below (s₁.setTop (mkF m 7 #[.val (.ref a0), .val (.int p1), .val (.int (3 : Int32)), .val (.int (1 : Int32))] [(.int (1 : Int32))])) _
    refine XS.ifNo X0.here hx rfl (hb hby d5_7) rfl ((if0 _ _).trans (feq (by decide : ¬ ((1 : Int32) = (0 : Int32)))).1) ?_
    show Steps p.tables e below (s₁.setTop (mkF m 10 #[.val (.ref a0), .val (.int p1), .val (.int (3 : Int32)), .val (.int (1 : Int32))] [])) _
    refine XS.aloadN X0.here hx rfl (hb hby d5_10) rfl rfl ?_
    show Steps p.tables e below (s₁.setTop (mkF m 11 #[.val (.ref a0), .val (.int p1), .val (.int (3 : Int32)), .val (.int (1 : Int32))] [(.ref a0)])) _
    refine XS.iconst X0.here hx rfl (hb hby d5_11) ?_
    show Steps p.tables e below (s₁.setTop (mkF m 12 #[.val (.ref a0), .val (.int p1), .val (.int (3 : Int32)), .val (.int (1 : Int32))] [(.int (0 : Int32)), (.ref a0)])) _
    refine X0.baloadBytes hx (j := (0 : Int32)) (v := (.int (nar .byte (nar .byte (((p1.toUInt32 >>> (((8 : Int32) * (0 : Int32)) &&& 31).toUInt32).toInt32).toInt8.toInt32))))) (by rw [e0]; exact Ar402.1) (State.isArrayOf_alike hZ.alike Ar402.2.1) Ar402.2.2 hin403 hat404 (g := (mkF m 12 #[.val (.ref a0), .val (.int p1), .val (.int (3 : Int32)), .val (.int (1 : Int32))] [(.int (0 : Int32)), (.ref a0)])) rfl rfl (hb hby d5_12) _ ?_
    show Steps p.tables e below (s₁.setTop (mkF m 13 #[.val (.ref a0), .val (.int p1), .val (.int (3 : Int32)), .val (.int (1 : Int32))] [(.int (nar .byte (nar .byte (((p1.toUInt32 >>> (((8 : Int32) * (0 : Int32)) &&& 31).toUInt32).toInt32).toInt8.toInt32))))])) _
    refine XS.iloadN X0.here hx rfl (hb hby d5_13) rfl ?_
    show Steps p.tables e below (s₁.setTop (mkF m 14 #[.val (.ref a0), .val (.int p1), .val (.int (3 : Int32)), .val (.int (1 : Int32))] [(.int p1), (.int (nar .byte (nar .byte (((p1.toUInt32 >>> (((8 : Int32) * (0 : Int32)) &&& 31).toUInt32).toInt32).toInt8.toInt32))))])) _
    refine XS.iconst X0.here hx rfl (hb hby d5_14) ?_
    show Steps p.tables e below (s₁.setTop (mkF m 15 #[.val (.ref a0), .val (.int p1), .val (.int (3 : Int32)), .val (.int (1 : Int32))] [(.int (0 : Int32)), (.int p1), (.int (nar .byte (nar .byte (((p1.toUInt32 >>> (((8 : Int32) * (0 : Int32)) &&& 31).toUInt32).toInt32).toInt8.toInt32))))])) _
    refine st405 _ ?_
    show Steps p.tables e below (T405.setTop (mkF m 18 #[.val (.ref a0), .val (.int p1), .val (.int (3 : Int32)), .val (.int (1 : Int32))] [(.int (nar .byte (((p1.toUInt32 >>> (((8 : Int32) * (0 : Int32)) &&& 31).toUInt32).toInt32).toInt8.toInt32))), (.int (nar .byte (nar .byte (((p1.toUInt32 >>> (((8 : Int32) * (0 : Int32)) &&& 31).toUInt32).toInt32).toInt8.toInt32))))])) _
    refine XS.icmpNo X405.here hx rfl (hb hby d5_18) rfl (teq (own_bb _)).2 ?_
    show Steps p.tables e below (T405.setTop (mkF m 21 #[.val (.ref a0), .val (.int p1), .val (.int (3 : Int32)), .val (.int (1 : Int32))] [])) _
    refine XS.iconst X405.here hx rfl (hb hby d5_21) ?_
    show Steps p.tables e below (T405.setTop (mkF m 22 #[.val (.ref a0), .val (.int p1), .val (.int (3 : Int32)), .val (.int (1 : Int32))] [(.int (1 : Int32))])) _
    refine XS.goto X405.here hx rfl (pc0 := 22) (pc' := 26) rfl (hb hby d5_22) (by decide) (by decide) ?_
    show Steps p.tables e below (T405.setTop (mkF m 26 #[.val (.ref a0), .val (.int p1), .val (.int (3 : Int32)), .val (.int (1 : Int32))] [(.int (1 : Int32))])) _
    refine XS.istoreN X405.here hx rfl (hb hby d5_26) rfl (l' := #[.val (.ref a0), .val (.int p1), .val (.int (3 : Int32)), .val (.int (1 : Int32))]) rfl ?_
    show Steps p.tables e below (T405.setTop (mkF m 27 #[.val (.ref a0), .val (.int p1), .val (.int (3 : Int32)), .val (.int (1 : Int32))] [])) _
    refine XS.iloadN X405.here hx rfl (hb hby d5_27) rfl ?_
    show Steps p.tables e below (T405.setTop (mkF m 28 #[.val (.ref a0), .val (.int p1), .val (.int (3 : Int32)), .val (.int (1 : Int32))] [(.int (3 : Int32))])) _
    refine XS.iconst X405.here hx rfl (hb hby d5_28) ?_
    show Steps p.tables e below (T405.setTop (mkF m 29 #[.val (.ref a0), .val (.int p1), .val (.int (3 : Int32)), .val (.int (1 : Int32))] [(.int (1 : Int32)), (.int (3 : Int32))])) _
    refine XS.icmpNo X405.here hx rfl (hb hby d5_29) rfl (tlt (by decide : (1 : Int32) < (3 : Int32))).2.2.2 ?_
    show Steps p.tables e below (T405.setTop (mkF m 32 #[.val (.ref a0), .val (.int p1), .val (.int (3 : Int32)), .val (.int (1 : Int32))] [])) _
    refine XS.iloadN X405.here hx rfl (hb hby d5_32) rfl ?_
    show Steps p.tables e below (T405.setTop (mkF m 33 #[.val (.ref a0), .val (.int p1), .val (.int (3 : Int32)), .val (.int (1 : Int32))] [(.int (1 : Int32))])) _
    refine XS.ifNo X405.here hx rfl (hb hby d5_33) rfl ((if0 _ _).trans (feq (by decide : ¬ ((1 : Int32) = (0 : Int32)))).1) ?_
    show Steps p.tables e below (T405.setTop (mkF m 36 #[.val (.ref a0), .val (.int p1), .val (.int (3 : Int32)), .val (.int (1 : Int32))] [])) _
    refine XS.aloadN X405.here hx rfl (hb hby d5_36) rfl rfl ?_
    show Steps p.tables e below (T405.setTop (mkF m 37 #[.val (.ref a0), .val (.int p1), .val (.int (3 : Int32)), .val (.int (1 : Int32))] [(.ref a0)])) _
    refine XS.iconst X405.here hx rfl (hb hby d5_37) ?_
    show Steps p.tables e below (T405.setTop (mkF m 38 #[.val (.ref a0), .val (.int p1), .val (.int (3 : Int32)), .val (.int (1 : Int32))] [(.int (1 : Int32)), (.ref a0)])) _
    refine X405.baloadBytes hx (j := (1 : Int32)) (v := (.int (nar .byte (nar .byte (((p1.toUInt32 >>> (((8 : Int32) * (1 : Int32)) &&& 31).toUInt32).toInt32).toInt8.toInt32))))) (by rw [e405]; exact Ar406.1) (State.isArrayOf_alike hZ.alike Ar406.2.1) Ar406.2.2 hin407 hat408 (g := (mkF m 38 #[.val (.ref a0), .val (.int p1), .val (.int (3 : Int32)), .val (.int (1 : Int32))] [(.int (1 : Int32)), (.ref a0)])) rfl rfl (hb hby d5_38) _ ?_
    show Steps p.tables e below (T405.setTop (mkF m 39 #[.val (.ref a0), .val (.int p1), .val (.int (3 : Int32)), .val (.int (1 : Int32))] [(.int (nar .byte (nar .byte (((p1.toUInt32 >>> (((8 : Int32) * (1 : Int32)) &&& 31).toUInt32).toInt32).toInt8.toInt32))))])) _
    refine XS.iloadN X405.here hx rfl (hb hby d5_39) rfl ?_
    show Steps p.tables e below (T405.setTop (mkF m 40 #[.val (.ref a0), .val (.int p1), .val (.int (3 : Int32)), .val (.int (1 : Int32))] [(.int p1), (.int (nar .byte (nar .byte (((p1.toUInt32 >>> (((8 : Int32) * (1 : Int32)) &&& 31).toUInt32).toInt32).toInt8.toInt32))))])) _
    refine XS.iconst X405.here hx rfl (hb hby d5_40) ?_
    show Steps p.tables e below (T405.setTop (mkF m 41 #[.val (.ref a0), .val (.int p1), .val (.int (3 : Int32)), .val (.int (1 : Int32))] [(.int (1 : Int32)), (.int p1), (.int (nar .byte (nar .byte (((p1.toUInt32 >>> (((8 : Int32) * (1 : Int32)) &&& 31).toUInt32).toInt32).toInt8.toInt32))))])) _
    refine st409 _ ?_
    show Steps p.tables e below (T409.setTop (mkF m 44 #[.val (.ref a0), .val (.int p1), .val (.int (3 : Int32)), .val (.int (1 : Int32))] [(.int (nar .byte (((p1.toUInt32 >>> (((8 : Int32) * (1 : Int32)) &&& 31).toUInt32).toInt32).toInt8.toInt32))), (.int (nar .byte (nar .byte (((p1.toUInt32 >>> (((8 : Int32) * (1 : Int32)) &&& 31).toUInt32).toInt32).toInt8.toInt32))))])) _
    refine XS.icmpNo X409.here hx rfl (hb hby d5_44) rfl (teq (own_bb _)).2 ?_
    show Steps p.tables e below (T409.setTop (mkF m 47 #[.val (.ref a0), .val (.int p1), .val (.int (3 : Int32)), .val (.int (1 : Int32))] [])) _
    refine XS.iconst X409.here hx rfl (hb hby d5_47) ?_
    show Steps p.tables e below (T409.setTop (mkF m 48 #[.val (.ref a0), .val (.int p1), .val (.int (3 : Int32)), .val (.int (1 : Int32))] [(.int (1 : Int32))])) _
    refine XS.goto X409.here hx rfl (pc0 := 48) (pc' := 52) rfl (hb hby d5_48) (by decide) (by decide) ?_
    show Steps p.tables e below (T409.setTop (mkF m 52 #[.val (.ref a0), .val (.int p1), .val (.int (3 : Int32)), .val (.int (1 : Int32))] [(.int (1 : Int32))])) _
    refine XS.istoreN X409.here hx rfl (hb hby d5_52) rfl (l' := #[.val (.ref a0), .val (.int p1), .val (.int (3 : Int32)), .val (.int (1 : Int32))]) rfl ?_
    show Steps p.tables e below (T409.setTop (mkF m 53 #[.val (.ref a0), .val (.int p1), .val (.int (3 : Int32)), .val (.int (1 : Int32))] [])) _
    refine XS.iloadN X409.here hx rfl (hb hby d5_53) rfl ?_
    show Steps p.tables e below (T409.setTop (mkF m 54 #[.val (.ref a0), .val (.int p1), .val (.int (3 : Int32)), .val (.int (1 : Int32))] [(.int (3 : Int32))])) _
    refine XS.iconst X409.here hx rfl (hb hby d5_54) ?_
    show Steps p.tables e below (T409.setTop (mkF m 55 #[.val (.ref a0), .val (.int p1), .val (.int (3 : Int32)), .val (.int (1 : Int32))] [(.int (2 : Int32)), (.int (3 : Int32))])) _
    refine XS.icmpNo X409.here hx rfl (hb hby d5_55) rfl (tlt (by decide : (2 : Int32) < (3 : Int32))).2.2.2 ?_
    show Steps p.tables e below (T409.setTop (mkF m 58 #[.val (.ref a0), .val (.int p1), .val (.int (3 : Int32)), .val (.int (1 : Int32))] [])) _
    refine XS.iloadN X409.here hx rfl (hb hby d5_58) rfl ?_
    show Steps p.tables e below (T409.setTop (mkF m 59 #[.val (.ref a0), .val (.int p1), .val (.int (3 : Int32)), .val (.int (1 : Int32))] [(.int (1 : Int32))])) _
    refine XS.ifNo X409.here hx rfl (hb hby d5_59) rfl ((if0 _ _).trans (feq (by decide : ¬ ((1 : Int32) = (0 : Int32)))).1) ?_
    show Steps p.tables e below (T409.setTop (mkF m 62 #[.val (.ref a0), .val (.int p1), .val (.int (3 : Int32)), .val (.int (1 : Int32))] [])) _
    refine XS.aloadN X409.here hx rfl (hb hby d5_62) rfl rfl ?_
    show Steps p.tables e below (T409.setTop (mkF m 63 #[.val (.ref a0), .val (.int p1), .val (.int (3 : Int32)), .val (.int (1 : Int32))] [(.ref a0)])) _
    refine XS.iconst X409.here hx rfl (hb hby d5_63) ?_
    show Steps p.tables e below (T409.setTop (mkF m 64 #[.val (.ref a0), .val (.int p1), .val (.int (3 : Int32)), .val (.int (1 : Int32))] [(.int (2 : Int32)), (.ref a0)])) _
    refine X409.baloadBytes hx (j := (2 : Int32)) (v := (.int (nar .byte (nar .byte (((p1.toUInt32 >>> (((8 : Int32) * (2 : Int32)) &&& 31).toUInt32).toInt32).toInt8.toInt32))))) (by rw [e409]; exact Ar410.1) (State.isArrayOf_alike hZ.alike Ar410.2.1) Ar410.2.2 hin411 hat412 (g := (mkF m 64 #[.val (.ref a0), .val (.int p1), .val (.int (3 : Int32)), .val (.int (1 : Int32))] [(.int (2 : Int32)), (.ref a0)])) rfl rfl (hb hby d5_64) _ ?_
    show Steps p.tables e below (T409.setTop (mkF m 65 #[.val (.ref a0), .val (.int p1), .val (.int (3 : Int32)), .val (.int (1 : Int32))] [(.int (nar .byte (nar .byte (((p1.toUInt32 >>> (((8 : Int32) * (2 : Int32)) &&& 31).toUInt32).toInt32).toInt8.toInt32))))])) _
    refine XS.iloadN X409.here hx rfl (hb hby d5_65) rfl ?_
    show Steps p.tables e below (T409.setTop (mkF m 66 #[.val (.ref a0), .val (.int p1), .val (.int (3 : Int32)), .val (.int (1 : Int32))] [(.int p1), (.int (nar .byte (nar .byte (((p1.toUInt32 >>> (((8 : Int32) * (2 : Int32)) &&& 31).toUInt32).toInt32).toInt8.toInt32))))])) _
    refine XS.iconst X409.here hx rfl (hb hby d5_66) ?_
    show Steps p.tables e below (T409.setTop (mkF m 67 #[.val (.ref a0), .val (.int p1), .val (.int (3 : Int32)), .val (.int (1 : Int32))] [(.int (2 : Int32)), (.int p1), (.int (nar .byte (nar .byte (((p1.toUInt32 >>> (((8 : Int32) * (2 : Int32)) &&& 31).toUInt32).toInt32).toInt8.toInt32))))])) _
    refine st413 _ ?_
    show Steps p.tables e below (T413.setTop (mkF m 70 #[.val (.ref a0), .val (.int p1), .val (.int (3 : Int32)), .val (.int (1 : Int32))] [(.int (nar .byte (((p1.toUInt32 >>> (((8 : Int32) * (2 : Int32)) &&& 31).toUInt32).toInt32).toInt8.toInt32))), (.int (nar .byte (nar .byte (((p1.toUInt32 >>> (((8 : Int32) * (2 : Int32)) &&& 31).toUInt32).toInt32).toInt8.toInt32))))])) _
    refine XS.icmpNo X413.here hx rfl (hb hby d5_70) rfl (teq (own_bb _)).2 ?_
    show Steps p.tables e below (T413.setTop (mkF m 73 #[.val (.ref a0), .val (.int p1), .val (.int (3 : Int32)), .val (.int (1 : Int32))] [])) _
    refine XS.iconst X413.here hx rfl (hb hby d5_73) ?_
    show Steps p.tables e below (T413.setTop (mkF m 74 #[.val (.ref a0), .val (.int p1), .val (.int (3 : Int32)), .val (.int (1 : Int32))] [(.int (1 : Int32))])) _
    refine XS.goto X413.here hx rfl (pc0 := 74) (pc' := 78) rfl (hb hby d5_74) (by decide) (by decide) ?_
    show Steps p.tables e below (T413.setTop (mkF m 78 #[.val (.ref a0), .val (.int p1), .val (.int (3 : Int32)), .val (.int (1 : Int32))] [(.int (1 : Int32))])) _
    refine XS.istoreN X413.here hx rfl (hb hby d5_78) rfl (l' := #[.val (.ref a0), .val (.int p1), .val (.int (3 : Int32)), .val (.int (1 : Int32))]) rfl ?_
    show Steps p.tables e below (T413.setTop (mkF m 79 #[.val (.ref a0), .val (.int p1), .val (.int (3 : Int32)), .val (.int (1 : Int32))] [])) _
    refine XS.iloadN X413.here hx rfl (hb hby d5_79) rfl ?_
    show Steps p.tables e below (T413.setTop (mkF m 80 #[.val (.ref a0), .val (.int p1), .val (.int (3 : Int32)), .val (.int (1 : Int32))] [(.int (3 : Int32))])) _
    refine XS.iconst X413.here hx rfl (hb hby d5_80) ?_
    show Steps p.tables e below (T413.setTop (mkF m 81 #[.val (.ref a0), .val (.int p1), .val (.int (3 : Int32)), .val (.int (1 : Int32))] [(.int (3 : Int32)), (.int (3 : Int32))])) _
    refine XS.icmpYes X413.here hx rfl (pc0 := 81) (pc' := 105) rfl (hb hby d5_81) rfl (flt (by decide : ¬ ((3 : Int32) < (3 : Int32)))).2.2.2 (by decide) (by decide) ?_
    show Steps p.tables e below (T413.setTop (mkF m 105 #[.val (.ref a0), .val (.int p1), .val (.int (3 : Int32)), .val (.int (1 : Int32))] [])) _
    refine XS.iloadN X413.here hx rfl (hb hby d5_105) rfl ?_
    show Steps p.tables e below (T413.setTop (mkF m 106 #[.val (.ref a0), .val (.int p1), .val (.int (3 : Int32)), .val (.int (1 : Int32))] [(.int (1 : Int32))])) _
    exact retN X413 hx (t := .boolean) Bd.returns (by simp) (hb hby d5_106) hr
  · show Q5_3 Z a0 p1 k_a0 h0 n0 _ T413.heap _
    rw [e413]
    exact ⟨rfl, N413, rfl⟩
theorem d5_84 : decode method_6_code 84 = .ok (.iload_n 3, 1) := by decide +kernel
theorem d5_85 : decode method_6_code 85 = .ok (.ifCond .eq 18, 3) := by decide +kernel
theorem d5_88 : decode method_6_code 88 = .ok (.aload_n 0, 1) := by decide +kernel
theorem d5_89 : decode method_6_code 89 = .ok (.iconst 3, 1) := by decide +kernel
theorem d5_90 : decode method_6_code 90 = .ok (.baload, 1) := by decide +kernel
theorem d5_91 : decode method_6_code 91 = .ok (.iload_n 1, 1) := by decide +kernel
theorem d5_92 : decode method_6_code 92 = .ok (.iconst 3, 1) := by decide +kernel
theorem d5_93 : decode method_6_code 93 = .ok (.invokestatic 27, 3) := by decide +kernel
theorem d5_96 : decode method_6_code 96 = .ok (.if_icmp .ne 7, 3) := by decide +kernel
theorem d5_99 : decode method_6_code 99 = .ok (.iconst 1, 1) := by decide +kernel
theorem d5_100 : decode method_6_code 100 = .ok (.goto 4, 3) := by decide +kernel
theorem d5_104 : decode method_6_code 104 = .ok (.istore_n 3, 1) := by decide +kernel
theorem ef5_4 (m : MethodId) (x0 : Addr) (x1 : Int32) (x2 : Int32) : entryFrame m #[(.ref x0), (.int x1), (.int x2)] 4 = mkF m 0 #[.val (.ref x0), .val (.int x1), .val (.int x2), .unset] [] := by first | (simp [entryFrame, mkF, argsToLocals, Value.category]; done) | rfl
abbrev rr5_4 : Room := { frames := 1, cells := 0, slots := 0, locals := 14 }
def Q5_4 (Z : State) (a0 : Addr) (p1 : Int32) (k_a0 : ClassId) (h0 : Heap) (n0 : Nat) (v : Option Value) (h : Heap) (L : List Loc) : Prop := v = some (.int (1 : Int32)) ∧ Fr n0 L ∧ h = h0
set_option maxRecDepth 65536 in
set_option maxHeartbeats 40000000 in
theorem rm5_4 (l : Launch) (Z : State) (aw : Array Value) (hw : ∀ d ∈ tables_1, d.before aw Z = true) (ws : List Jvm.Cond) (a0 : Addr) (p1 : Int32) (k_a0 : ClassId) (h0 : Heap) (n0 : Nat) (Z0 : n0 ≤ h0.size) (V_a0 : Arv Z h0 a0 k_a0 .byte (4 : Int32) [(.int (nar .byte (nar .byte (((p1.toUInt32 >>> (((8 : Int32) * (0 : Int32)) &&& 31).toUInt32).toInt32).toInt8.toInt32)))), (.int (nar .byte (nar .byte (((p1.toUInt32 >>> (((8 : Int32) * (1 : Int32)) &&& 31).toUInt32).toInt32).toInt8.toInt32)))), (.int (nar .byte (nar .byte (((p1.toUInt32 >>> (((8 : Int32) * (2 : Int32)) &&& 31).toUInt32).toInt32).toInt8.toInt32)))), (.int (nar .byte (nar .byte (((p1.toUInt32 >>> (((8 : Int32) * (3 : Int32)) &&& 31).toUInt32).toInt32).toInt8.toInt32))))] (.int (0 : Int32))) :
    MetFree l (⟨"com/example/rollcall/rollcall/bench/MilenageXorPinLaw", "same", "([BII)Z"⟩ : MethodName) (head1 (Jvm.Cond.code (⟨"com/example/rollcall/rollcall/bench/MilenageXorPinLaw", "same", "([BII)Z"⟩ : MethodName) method_6_code 4 (some .boolean) :: ws) rr5_4) (fun a U => a = #[(.ref a0), (.int p1), (.int (4 : Int32))] ∧ Z.Warmed39 U.vm ∧ U.heap = h0) (fun _ _ _ _ _ => True) (fun _ U o U' => ∃ v L, o = .returned v ∧ Q5_4 Z a0 p1 k_a0 h0 n0 v U'.heap L ∧ FrameEnd U o U' L rr5_4.cells rr5_4.slots) := by
  refine MetFree.of_bodySF (plainFor_of_name pn_1) hisR ?_
  intro p e s m args below meth c s₁ Bd hml0 hP hK
  obtain ⟨rfl, hZ, hh⟩ := hP
  have hx := Bd.exec
  have hby := Bd.bytes
  have hml : c.maxLocals = 4 := hml0
  have hown : s.vm.findClass "com/example/rollcall/rollcall/bench/MilenageXorPinLaw" = some m.cls := findClass_of_methodNamed Bd.named
  have hnm := (name_of_methodNamed Bd.named Bd.method).1
  have X0 : Stand p l e rr5_4 s m #[(.ref a0), (.int p1), (.int (4 : Int32))] below meth c s₁ [] 0 0 := Stand.of_body Bd
  have e0 : s₁.heap = h0 := by rw [← hh, Bd.state]; rfl
  have N0 := Fr.nil n0
  have pre0 : ∀ t, Steps p.tables e below (s₁.setTop (mkF m 0 #[.val (.ref a0), .val (.int p1), .val (.int (4 : Int32)), .unset] [])) t → Steps p.tables e below (s₁.setTop (entryFrame m #[(.ref a0), (.int p1), (.int (4 : Int32))] 4)) t := fun t k => castTop (ef5_4 m a0 p1 (4 : Int32)) k
  obtain ⟨cl414, Ar414, q414, S414, M414, H414, G414⟩ := id V_a0
  have hin415 : ¬ ((0 : Int32) < 0 ∨ cl414.slots.size ≤ ((0 : Int32)).toNatClampNeg) := inb_of S414 ⟨by decide, by decide⟩
  have hat416 : cl414.slots[((0 : Int32)).toNatClampNeg]? = some (.int (nar .byte (nar .byte (((p1.toUInt32 >>> (((8 : Int32) * (0 : Int32)) &&& 31).toUInt32).toInt32).toInt8.toInt32)))) := H414.at hin415 rfl
  obtain ⟨_, _, ⟨T417, L417, k417, n417⟩, -, X417, ⟨Lc417, hQ417, l417, y417, z417⟩, st417⟩ := Jvm.LawKit.callS X0 hx (y := (⟨"com/example/rollcall/rollcall/bench/MilenageXorPinLaw", "oct", "(II)B"⟩ : MethodName)) hown (mvT hZ (hw _ (List.mem_of_getElem? (i := 5) rfl))) (mvT hZ (hw _ (List.mem_of_getElem? (i := 6) rfl))) (mvT hZ (hw _ (List.mem_of_getElem? (i := 2) rfl))) (mvT hZ (hw _ (List.mem_of_getElem? (i := 7) rfl))) (by decide) (backOf (W := 1) (rm2 l Z aw hw [] p1 ((0 : Int32)) h0 n0 Z0 ) hZ (hw _ (List.mem_of_getElem? (i := 7) rfl)) (hw _ (List.mem_of_getElem? (i := 2) rfl)) (by decide) (by decide)) (g := (mkF m 15 #[.val (.ref a0), .val (.int p1), .val (.int (4 : Int32)), .val (.int (1 : Int32))] [(.int (0 : Int32)), (.int p1), (.int (nar .byte (nar .byte (((p1.toUInt32 >>> (((8 : Int32) * (0 : Int32)) &&& 31).toUInt32).toInt32).toInt8.toInt32))))])) rfl (by rw [hml]; rfl) (argsL := [(.int p1), (.int (0 : Int32))]) (rest := [(.int (nar .byte (nar .byte (((p1.toUInt32 >>> (((8 : Int32) * (0 : Int32)) &&& 31).toUInt32).toInt32).toInt8.toInt32))))]) (lenOf pd_1 rfl) rfl (by show 2 * 0 + _ ≤ _; exact Nat.le_of_eq rfl) (hb hby d5_15) (fun _ _ => ⟨rfl, e0, (by decide : 0 + 0 ≤ _), (by decide : 0 + 0 ≤ _)⟩)
  dsimp only [Pt.U, Pt.locs, Pt.cells, Pt.slots] at X417 l417 y417 z417 st417 hQ417
  subst l417 y417 z417
  obtain ⟨rfl, N417q, e417⟩ := hQ417
  have N417 := Fr.app N0 N417q
  obtain ⟨cl418, Ar418, q418, S418, M418, H418, G418⟩ := id V_a0
  have hin419 : ¬ ((1 : Int32) < 0 ∨ cl418.slots.size ≤ ((1 : Int32)).toNatClampNeg) := inb_of S418 ⟨by decide, by decide⟩
  have hat420 : cl418.slots[((1 : Int32)).toNatClampNeg]? = some (.int (nar .byte (nar .byte (((p1.toUInt32 >>> (((8 : Int32) * (1 : Int32)) &&& 31).toUInt32).toInt32).toInt8.toInt32)))) := H418.at hin419 rfl
  obtain ⟨_, _, ⟨T421, L421, k421, n421⟩, -, X421, ⟨Lc421, hQ421, l421, y421, z421⟩, st421⟩ := Jvm.LawKit.callS X417 hx (y := (⟨"com/example/rollcall/rollcall/bench/MilenageXorPinLaw", "oct", "(II)B"⟩ : MethodName)) hown (mvT hZ (hw _ (List.mem_of_getElem? (i := 5) rfl))) (mvT hZ (hw _ (List.mem_of_getElem? (i := 6) rfl))) (mvT hZ (hw _ (List.mem_of_getElem? (i := 2) rfl))) (mvT hZ (hw _ (List.mem_of_getElem? (i := 7) rfl))) (by decide) (backOf (W := 1) (rm2 l Z aw hw [] p1 ((1 : Int32)) h0 n0 Z0 ) hZ (hw _ (List.mem_of_getElem? (i := 7) rfl)) (hw _ (List.mem_of_getElem? (i := 2) rfl)) (by decide) (by decide)) (g := (mkF m 41 #[.val (.ref a0), .val (.int p1), .val (.int (4 : Int32)), .val (.int (1 : Int32))] [(.int (1 : Int32)), (.int p1), (.int (nar .byte (nar .byte (((p1.toUInt32 >>> (((8 : Int32) * (1 : Int32)) &&& 31).toUInt32).toInt32).toInt8.toInt32))))])) rfl (by rw [hml]; rfl) (argsL := [(.int p1), (.int (1 : Int32))]) (rest := [(.int (nar .byte (nar .byte (((p1.toUInt32 >>> (((8 : Int32) * (1 : Int32)) &&& 31).toUInt32).toInt32).toInt8.toInt32))))]) (lenOf pd_1 rfl) rfl (by show 2 * 0 + _ ≤ _; exact Nat.le_of_eq rfl) (hb hby d5_41) (fun _ _ => ⟨rfl, e417, (by decide : 0 + 0 ≤ _), (by decide : 0 + 0 ≤ _)⟩)
  dsimp only [Pt.U, Pt.locs, Pt.cells, Pt.slots] at X421 l421 y421 z421 st421 hQ421
  subst l421 y421 z421
  obtain ⟨rfl, N421q, e421⟩ := hQ421
  have N421 := Fr.app N417 N421q
  obtain ⟨cl422, Ar422, q422, S422, M422, H422, G422⟩ := id V_a0
  have hin423 : ¬ ((2 : Int32) < 0 ∨ cl422.slots.size ≤ ((2 : Int32)).toNatClampNeg) := inb_of S422 ⟨by decide, by decide⟩
  have hat424 : cl422.slots[((2 : Int32)).toNatClampNeg]? = some (.int (nar .byte (nar .byte (((p1.toUInt32 >>> (((8 : Int32) * (2 : Int32)) &&& 31).toUInt32).toInt32).toInt8.toInt32)))) := H422.at hin423 rfl
  obtain ⟨_, _, ⟨T425, L425, k425, n425⟩, -, X425, ⟨Lc425, hQ425, l425, y425, z425⟩, st425⟩ := Jvm.LawKit.callS X421 hx (y := (⟨"com/example/rollcall/rollcall/bench/MilenageXorPinLaw", "oct", "(II)B"⟩ : MethodName)) hown (mvT hZ (hw _ (List.mem_of_getElem? (i := 5) rfl))) (mvT hZ (hw _ (List.mem_of_getElem? (i := 6) rfl))) (mvT hZ (hw _ (List.mem_of_getElem? (i := 2) rfl))) (mvT hZ (hw _ (List.mem_of_getElem? (i := 7) rfl))) (by decide) (backOf (W := 1) (rm2 l Z aw hw [] p1 ((2 : Int32)) h0 n0 Z0 ) hZ (hw _ (List.mem_of_getElem? (i := 7) rfl)) (hw _ (List.mem_of_getElem? (i := 2) rfl)) (by decide) (by decide)) (g := (mkF m 67 #[.val (.ref a0), .val (.int p1), .val (.int (4 : Int32)), .val (.int (1 : Int32))] [(.int (2 : Int32)), (.int p1), (.int (nar .byte (nar .byte (((p1.toUInt32 >>> (((8 : Int32) * (2 : Int32)) &&& 31).toUInt32).toInt32).toInt8.toInt32))))])) rfl (by rw [hml]; rfl) (argsL := [(.int p1), (.int (2 : Int32))]) (rest := [(.int (nar .byte (nar .byte (((p1.toUInt32 >>> (((8 : Int32) * (2 : Int32)) &&& 31).toUInt32).toInt32).toInt8.toInt32))))]) (lenOf pd_1 rfl) rfl (by show 2 * 0 + _ ≤ _; exact Nat.le_of_eq rfl) (hb hby d5_67) (fun _ _ => ⟨rfl, e421, (by decide : 0 + 0 ≤ _), (by decide : 0 + 0 ≤ _)⟩)
  dsimp only [Pt.U, Pt.locs, Pt.cells, Pt.slots] at X425 l425 y425 z425 st425 hQ425
  subst l425 y425 z425
  obtain ⟨rfl, N425q, e425⟩ := hQ425
  have N425 := Fr.app N421 N425q
  obtain ⟨cl426, Ar426, q426, S426, M426, H426, G426⟩ := id V_a0
  have hin427 : ¬ ((3 : Int32) < 0 ∨ cl426.slots.size ≤ ((3 : Int32)).toNatClampNeg) := inb_of S426 ⟨by decide, by decide⟩
  have hat428 : cl426.slots[((3 : Int32)).toNatClampNeg]? = some (.int (nar .byte (nar .byte (((p1.toUInt32 >>> (((8 : Int32) * (3 : Int32)) &&& 31).toUInt32).toInt32).toInt8.toInt32)))) := H426.at hin427 rfl
  obtain ⟨_, _, ⟨T429, L429, k429, n429⟩, -, X429, ⟨Lc429, hQ429, l429, y429, z429⟩, st429⟩ := Jvm.LawKit.callS X425 hx (y := (⟨"com/example/rollcall/rollcall/bench/MilenageXorPinLaw", "oct", "(II)B"⟩ : MethodName)) hown (mvT hZ (hw _ (List.mem_of_getElem? (i := 5) rfl))) (mvT hZ (hw _ (List.mem_of_getElem? (i := 6) rfl))) (mvT hZ (hw _ (List.mem_of_getElem? (i := 2) rfl))) (mvT hZ (hw _ (List.mem_of_getElem? (i := 7) rfl))) (by decide) (backOf (W := 1) (rm2 l Z aw hw [] p1 ((3 : Int32)) h0 n0 Z0 ) hZ (hw _ (List.mem_of_getElem? (i := 7) rfl)) (hw _ (List.mem_of_getElem? (i := 2) rfl)) (by decide) (by decide)) (g := (mkF m 93 #[.val (.ref a0), .val (.int p1), .val (.int (4 : Int32)), .val (.int (1 : Int32))] [(.int (3 : Int32)), (.int p1), (.int (nar .byte (nar .byte (((p1.toUInt32 >>> (((8 : Int32) * (3 : Int32)) &&& 31).toUInt32).toInt32).toInt8.toInt32))))])) rfl (by rw [hml]; rfl) (argsL := [(.int p1), (.int (3 : Int32))]) (rest := [(.int (nar .byte (nar .byte (((p1.toUInt32 >>> (((8 : Int32) * (3 : Int32)) &&& 31).toUInt32).toInt32).toInt8.toInt32))))]) (lenOf pd_1 rfl) rfl (by show 2 * 0 + _ ≤ _; exact Nat.le_of_eq rfl) (hb hby d5_93) (fun _ _ => ⟨rfl, e425, (by decide : 0 + 0 ≤ _), (by decide : 0 + 0 ≤ _)⟩)
  dsimp only [Pt.U, Pt.locs, Pt.cells, Pt.slots] at X429 l429 y429 z429 st429 hQ429
  subst l429 y429 z429
  obtain ⟨rfl, N429q, e429⟩ := hQ429
  have N429 := Fr.app N425 N429q
  obtain ⟨fs, hr, hrun, hended, hW, hsame⟩ := X429.leave (v := some (.int (1 : Int32))) (fun h => by rw [Bd.returns] at h; cases h)
  refine ⟨_, _, pre0 _ ?_, hrun, hended, _, _, rfl, ?_, ⟨_, rfl⟩, hW, hsame.mono (by decide) (by decide)⟩
  · skip
    show Steps p.tables e below (s₁.setTop (mkF m 0 #[.val (.ref a0), .val (.int p1), .val (.int (4 : Int32)), .unset] [])) _
    refine XS.iconst X0.here hx rfl (hb hby d5_0) ?_
    show Steps p.tables e below (s₁.setTop (mkF m 1 #[.val (.ref a0), .val (.int p1), .val (.int (4 : Int32)), .unset] [(.int (1 : Int32))])) _
    refine XS.istoreN X0.here hx rfl (hb hby d5_1) rfl (l' := #[.val (.ref a0), .val (.int p1), .val (.int (4 : Int32)), .val (.int (1 : Int32))]) rfl ?_
    show Steps p.tables e below (s₁.setTop (mkF m 2 #[.val (.ref a0), .val (.int p1), .val (.int (4 : Int32)), .val (.int (1 : Int32))] [])) _
    refine XS.iloadN X0.here hx rfl (hb hby d5_2) rfl ?_
    show Steps p.tables e below (s₁.setTop (mkF m 3 #[.val (.ref a0), .val (.int p1), .val (.int (4 : Int32)), .val (.int (1 : Int32))] [(.int (4 : Int32))])) _
    refine XS.ifNo X0.here hx rfl (hb hby d5_3) rfl ((if0 _ _).trans (tlt (by decide : (0 : Int32) < (4 : Int32))).2.2.2) ?_
    show Steps p.tables e below (s₁.setTop (mkF m 6 #[.val (.ref a0), .val (.int p1), .val (.int (4 : Int32)), .val (.int (1 : Int32))] [])) _
    refine XS.iloadN X0.here hx rfl (hb hby d5_6) rfl ?_
    show Steps p.tables e below (s₁.setTop (mkF m 7 #[.val (.ref a0), .val (.int p1), .val (.int (4 : Int32)), .val (.int (1 : Int32))] [(.int (1 : Int32))])) _
    refine XS.ifNo X0.here hx rfl (hb hby d5_7) rfl ((if0 _ _).trans (feq (by decide : ¬ ((1 : Int32) = (0 : Int32)))).1) ?_
    show Steps p.tables e below (s₁.setTop (mkF m 10 #[.val (.ref a0), .val (.int p1), .val (.int (4 : Int32)), .val (.int (1 : Int32))] [])) _
    refine XS.aloadN X0.here hx rfl (hb hby d5_10) rfl rfl ?_
    show Steps p.tables e below (s₁.setTop (mkF m 11 #[.val (.ref a0), .val (.int p1), .val (.int (4 : Int32)), .val (.int (1 : Int32))] [(.ref a0)])) _
    refine XS.iconst X0.here hx rfl (hb hby d5_11) ?_
    show Steps p.tables e below (s₁.setTop (mkF m 12 #[.val (.ref a0), .val (.int p1), .val (.int (4 : Int32)), .val (.int (1 : Int32))] [(.int (0 : Int32)), (.ref a0)])) _
    refine X0.baloadBytes hx (j := (0 : Int32)) (v := (.int (nar .byte (nar .byte (((p1.toUInt32 >>> (((8 : Int32) * (0 : Int32)) &&& 31).toUInt32).toInt32).toInt8.toInt32))))) (by rw [e0]; exact Ar414.1) (State.isArrayOf_alike hZ.alike Ar414.2.1) Ar414.2.2 hin415 hat416 (g := (mkF m 12 #[.val (.ref a0), .val (.int p1), .val (.int (4 : Int32)), .val (.int (1 : Int32))] [(.int (0 : Int32)), (.ref a0)])) rfl rfl (hb hby d5_12) _ ?_
    show Steps p.tables e below (s₁.setTop (mkF m 13 #[.val (.ref a0), .val (.int p1), .val (.int (4 : Int32)), .val (.int (1 : Int32))] [(.int (nar .byte (nar .byte (((p1.toUInt32 >>> (((8 : Int32) * (0 : Int32)) &&& 31).toUInt32).toInt32).toInt8.toInt32))))])) _
    refine XS.iloadN X0.here hx rfl (hb hby d5_13) rfl ?_
    show Steps p.tables e below (s₁.setTop (mkF m 14 #[.val (.ref a0), .val (.int p1), .val (.int (4 : Int32)), .val (.int (1 : Int32))] [(.int p1), (.int (nar .byte (nar .byte (((p1.toUInt32 >>> (((8 : Int32) * (0 : Int32)) &&& 31).toUInt32).toInt32).toInt8.toInt32))))])) _
    refine XS.iconst X0.here hx rfl (hb hby d5_14) ?_
    show Steps p.tables e below (s₁.setTop (mkF m 15 #[.val (.ref a0), .val (.int p1), .val (.int (4 : Int32)), .val (.int (1 : Int32))] [(.int (0 : Int32)), (.int p1), (.int (nar .byte (nar .byte (((p1.toUInt32 >>> (((8 : Int32) * (0 : Int32)) &&& 31).toUInt32).toInt32).toInt8.toInt32))))])) _
    refine st417 _ ?_
    show Steps p.tables e below (T417.setTop (mkF m 18 #[.val (.ref a0), .val (.int p1), .val (.int (4 : Int32)), .val (.int (1 : Int32))] [(.int (nar .byte (((p1.toUInt32 >>> (((8 : Int32) * (0 : Int32)) &&& 31).toUInt32).toInt32).toInt8.toInt32))), (.int (nar .byte (nar .byte (((p1.toUInt32 >>> (((8 : Int32) * (0 : Int32)) &&& 31).toUInt32).toInt32).toInt8.toInt32))))])) _
    refine XS.icmpNo X417.here hx rfl (hb hby d5_18) rfl (teq (own_bb _)).2 ?_
    show Steps p.tables e below (T417.setTop (mkF m 21 #[.val (.ref a0), .val (.int p1), .val (.int (4 : Int32)), .val (.int (1 : Int32))] [])) _
    refine XS.iconst X417.here hx rfl (hb hby d5_21) ?_
    show Steps p.tables e below (T417.setTop (mkF m 22 #[.val (.ref a0), .val (.int p1), .val (.int (4 : Int32)), .val (.int (1 : Int32))] [(.int (1 : Int32))])) _
    refine XS.goto X417.here hx rfl (pc0 := 22) (pc' := 26) rfl (hb hby d5_22) (by decide) (by decide) ?_
    show Steps p.tables e below (T417.setTop (mkF m 26 #[.val (.ref a0), .val (.int p1), .val (.int (4 : Int32)), .val (.int (1 : Int32))] [(.int (1 : Int32))])) _
    refine XS.istoreN X417.here hx rfl (hb hby d5_26) rfl (l' := #[.val (.ref a0), .val (.int p1), .val (.int (4 : Int32)), .val (.int (1 : Int32))]) rfl ?_
    show Steps p.tables e below (T417.setTop (mkF m 27 #[.val (.ref a0), .val (.int p1), .val (.int (4 : Int32)), .val (.int (1 : Int32))] [])) _
    refine XS.iloadN X417.here hx rfl (hb hby d5_27) rfl ?_
    show Steps p.tables e below (T417.setTop (mkF m 28 #[.val (.ref a0), .val (.int p1), .val (.int (4 : Int32)), .val (.int (1 : Int32))] [(.int (4 : Int32))])) _
    refine XS.iconst X417.here hx rfl (hb hby d5_28) ?_
    show Steps p.tables e below (T417.setTop (mkF m 29 #[.val (.ref a0), .val (.int p1), .val (.int (4 : Int32)), .val (.int (1 : Int32))] [(.int (1 : Int32)), (.int (4 : Int32))])) _
    refine XS.icmpNo X417.here hx rfl (hb hby d5_29) rfl (tlt (by decide : (1 : Int32) < (4 : Int32))).2.2.2 ?_
    show Steps p.tables e below (T417.setTop (mkF m 32 #[.val (.ref a0), .val (.int p1), .val (.int (4 : Int32)), .val (.int (1 : Int32))] [])) _
    refine XS.iloadN X417.here hx rfl (hb hby d5_32) rfl ?_
    show Steps p.tables e below (T417.setTop (mkF m 33 #[.val (.ref a0), .val (.int p1), .val (.int (4 : Int32)), .val (.int (1 : Int32))] [(.int (1 : Int32))])) _
    refine XS.ifNo X417.here hx rfl (hb hby d5_33) rfl ((if0 _ _).trans (feq (by decide : ¬ ((1 : Int32) = (0 : Int32)))).1) ?_
    show Steps p.tables e below (T417.setTop (mkF m 36 #[.val (.ref a0), .val (.int p1), .val (.int (4 : Int32)), .val (.int (1 : Int32))] [])) _
    refine XS.aloadN X417.here hx rfl (hb hby d5_36) rfl rfl ?_
    show Steps p.tables e below (T417.setTop (mkF m 37 #[.val (.ref a0), .val (.int p1), .val (.int (4 : Int32)), .val (.int (1 : Int32))] [(.ref a0)])) _
    refine XS.iconst X417.here hx rfl (hb hby d5_37) ?_
    show Steps p.tables e below (T417.setTop (mkF m 38 #[.val (.ref a0), .val (.int p1), .val (.int (4 : Int32)), .val (.int (1 : Int32))] [(.int (1 : Int32)), (.ref a0)])) _
    refine X417.baloadBytes hx (j := (1 : Int32)) (v := (.int (nar .byte (nar .byte (((p1.toUInt32 >>> (((8 : Int32) * (1 : Int32)) &&& 31).toUInt32).toInt32).toInt8.toInt32))))) (by rw [e417]; exact Ar418.1) (State.isArrayOf_alike hZ.alike Ar418.2.1) Ar418.2.2 hin419 hat420 (g := (mkF m 38 #[.val (.ref a0), .val (.int p1), .val (.int (4 : Int32)), .val (.int (1 : Int32))] [(.int (1 : Int32)), (.ref a0)])) rfl rfl (hb hby d5_38) _ ?_
    show Steps p.tables e below (T417.setTop (mkF m 39 #[.val (.ref a0), .val (.int p1), .val (.int (4 : Int32)), .val (.int (1 : Int32))] [(.int (nar .byte (nar .byte (((p1.toUInt32 >>> (((8 : Int32) * (1 : Int32)) &&& 31).toUInt32).toInt32).toInt8.toInt32))))])) _
    refine XS.iloadN X417.here hx rfl (hb hby d5_39) rfl ?_
    show Steps p.tables e below (T417.setTop (mkF m 40 #[.val (.ref a0), .val (.int p1), .val (.int (4 : Int32)), .val (.int (1 : Int32))] [(.int p1), (.int (nar .byte (nar .byte (((p1.toUInt32 >>> (((8 : Int32) * (1 : Int32)) &&& 31).toUInt32).toInt32).toInt8.toInt32))))])) _
    refine XS.iconst X417.here hx rfl (hb hby d5_40) ?_
    show Steps p.tables e below (T417.setTop (mkF m 41 #[.val (.ref a0), .val (.int p1), .val (.int (4 : Int32)), .val (.int (1 : Int32))] [(.int (1 : Int32)), (.int p1), (.int (nar .byte (nar .byte (((p1.toUInt32 >>> (((8 : Int32) * (1 : Int32)) &&& 31).toUInt32).toInt32).toInt8.toInt32))))])) _
    refine st421 _ ?_
    show Steps p.tables e below (T421.setTop (mkF m 44 #[.val (.ref a0), .val (.int p1), .val (.int (4 : Int32)), .val (.int (1 : Int32))] [(.int (nar .byte (((p1.toUInt32 >>> (((8 : Int32) * (1 : Int32)) &&& 31).toUInt32).toInt32).toInt8.toInt32))), (.int (nar .byte (nar .byte (((p1.toUInt32 >>> (((8 : Int32) * (1 : Int32)) &&& 31).toUInt32).toInt32).toInt8.toInt32))))])) _
    refine XS.icmpNo X421.here hx rfl (hb hby d5_44) rfl (teq (own_bb _)).2 ?_
    show Steps p.tables e below (T421.setTop (mkF m 47 #[.val (.ref a0), .val (.int p1), .val (.int (4 : Int32)), .val (.int (1 : Int32))] [])) _
    refine XS.iconst X421.here hx rfl (hb hby d5_47) ?_
    show Steps p.tables e below (T421.setTop (mkF m 48 #[.val (.ref a0), .val (.int p1), .val (.int (4 : Int32)), .val (.int (1 : Int32))] [(.int (1 : Int32))])) _
    refine XS.goto X421.here hx rfl (pc0 := 48) (pc' := 52) rfl (hb hby d5_48) (by decide) (by decide) ?_
    show Steps p.tables e below (T421.setTop (mkF m 52 #[.val (.ref a0), .val (.int p1), .val (.int (4 : Int32)), .val (.int (1 : Int32))] [(.int (1 : Int32))])) _
    refine XS.istoreN X421.here hx rfl (hb hby d5_52) rfl (l' := #[.val (.ref a0), .val (.int p1), .val (.int (4 : Int32)), .val (.int (1 : Int32))]) rfl ?_
    show Steps p.tables e below (T421.setTop (mkF m 53 #[.val (.ref a0), .val (.int p1), .val (.int (4 : Int32)), .val (.int (1 : Int32))] [])) _
    refine XS.iloadN X421.here hx rfl (hb hby d5_53) rfl ?_
    show Steps p.tables e below (T421.setTop (mkF m 54 #[.val (.ref a0), .val (.int p1), .val (.int (4 : Int32)), .val (.int (1 : Int32))] [(.int (4 : Int32))])) _
    refine XS.iconst X421.here hx rfl (hb hby d5_54) ?_
    show Steps p.tables e below (T421.setTop (mkF m 55 #[.val (.ref a0), .val (.int p1), .val (.int (4 : Int32)), .val (.int (1 : Int32))] [(.int (2 : Int32)), (.int (4 : Int32))])) _
    refine XS.icmpNo X421.here hx rfl (hb hby d5_55) rfl (tlt (by decide : (2 : Int32) < (4 : Int32))).2.2.2 ?_
    show Steps p.tables e below (T421.setTop (mkF m 58 #[.val (.ref a0), .val (.int p1), .val (.int (4 : Int32)), .val (.int (1 : Int32))] [])) _
    refine XS.iloadN X421.here hx rfl (hb hby d5_58) rfl ?_
    show Steps p.tables e below (T421.setTop (mkF m 59 #[.val (.ref a0), .val (.int p1), .val (.int (4 : Int32)), .val (.int (1 : Int32))] [(.int (1 : Int32))])) _
    refine XS.ifNo X421.here hx rfl (hb hby d5_59) rfl ((if0 _ _).trans (feq (by decide : ¬ ((1 : Int32) = (0 : Int32)))).1) ?_
    show Steps p.tables e below (T421.setTop (mkF m 62 #[.val (.ref a0), .val (.int p1), .val (.int (4 : Int32)), .val (.int (1 : Int32))] [])) _
    refine XS.aloadN X421.here hx rfl (hb hby d5_62) rfl rfl ?_
    show Steps p.tables e below (T421.setTop (mkF m 63 #[.val (.ref a0), .val (.int p1), .val (.int (4 : Int32)), .val (.int (1 : Int32))] [(.ref a0)])) _
    refine XS.iconst X421.here hx rfl (hb hby d5_63) ?_
    show Steps p.tables e below (T421.setTop (mkF m 64 #[.val (.ref a0), .val (.int p1), .val (.int (4 : Int32)), .val (.int (1 : Int32))] [(.int (2 : Int32)), (.ref a0)])) _
    refine X421.baloadBytes hx (j := (2 : Int32)) (v := (.int (nar .byte (nar .byte (((p1.toUInt32 >>> (((8 : Int32) * (2 : Int32)) &&& 31).toUInt32).toInt32).toInt8.toInt32))))) (by rw [e421]; exact Ar422.1) (State.isArrayOf_alike hZ.alike Ar422.2.1) Ar422.2.2 hin423 hat424 (g := (mkF m 64 #[.val (.ref a0), .val (.int p1), .val (.int (4 : Int32)), .val (.int (1 : Int32))] [(.int (2 : Int32)), (.ref a0)])) rfl rfl (hb hby d5_64) _ ?_
    show Steps p.tables e below (T421.setTop (mkF m 65 #[.val (.ref a0), .val (.int p1), .val (.int (4 : Int32)), .val (.int (1 : Int32))] [(.int (nar .byte (nar .byte (((p1.toUInt32 >>> (((8 : Int32) * (2 : Int32)) &&& 31).toUInt32).toInt32).toInt8.toInt32))))])) _
    refine XS.iloadN X421.here hx rfl (hb hby d5_65) rfl ?_
    show Steps p.tables e below (T421.setTop (mkF m 66 #[.val (.ref a0), .val (.int p1), .val (.int (4 : Int32)), .val (.int (1 : Int32))] [(.int p1), (.int (nar .byte (nar .byte (((p1.toUInt32 >>> (((8 : Int32) * (2 : Int32)) &&& 31).toUInt32).toInt32).toInt8.toInt32))))])) _
    refine XS.iconst X421.here hx rfl (hb hby d5_66) ?_
    show Steps p.tables e below (T421.setTop (mkF m 67 #[.val (.ref a0), .val (.int p1), .val (.int (4 : Int32)), .val (.int (1 : Int32))] [(.int (2 : Int32)), (.int p1), (.int (nar .byte (nar .byte (((p1.toUInt32 >>> (((8 : Int32) * (2 : Int32)) &&& 31).toUInt32).toInt32).toInt8.toInt32))))])) _
    refine st425 _ ?_
    show Steps p.tables e below (T425.setTop (mkF m 70 #[.val (.ref a0), .val (.int p1), .val (.int (4 : Int32)), .val (.int (1 : Int32))] [(.int (nar .byte (((p1.toUInt32 >>> (((8 : Int32) * (2 : Int32)) &&& 31).toUInt32).toInt32).toInt8.toInt32))), (.int (nar .byte (nar .byte (((p1.toUInt32 >>> (((8 : Int32) * (2 : Int32)) &&& 31).toUInt32).toInt32).toInt8.toInt32))))])) _
    refine XS.icmpNo X425.here hx rfl (hb hby d5_70) rfl (teq (own_bb _)).2 ?_
    show Steps p.tables e below (T425.setTop (mkF m 73 #[.val (.ref a0), .val (.int p1), .val (.int (4 : Int32)), .val (.int (1 : Int32))] [])) _
    refine XS.iconst X425.here hx rfl (hb hby d5_73) ?_
    show Steps p.tables e below (T425.setTop (mkF m 74 #[.val (.ref a0), .val (.int p1), .val (.int (4 : Int32)), .val (.int (1 : Int32))] [(.int (1 : Int32))])) _
    refine XS.goto X425.here hx rfl (pc0 := 74) (pc' := 78) rfl (hb hby d5_74) (by decide) (by decide) ?_
    show Steps p.tables e below (T425.setTop (mkF m 78 #[.val (.ref a0), .val (.int p1), .val (.int (4 : Int32)), .val (.int (1 : Int32))] [(.int (1 : Int32))])) _
    refine XS.istoreN X425.here hx rfl (hb hby d5_78) rfl (l' := #[.val (.ref a0), .val (.int p1), .val (.int (4 : Int32)), .val (.int (1 : Int32))]) rfl ?_
    show Steps p.tables e below (T425.setTop (mkF m 79 #[.val (.ref a0), .val (.int p1), .val (.int (4 : Int32)), .val (.int (1 : Int32))] [])) _
    refine XS.iloadN X425.here hx rfl (hb hby d5_79) rfl ?_
    show Steps p.tables e below (T425.setTop (mkF m 80 #[.val (.ref a0), .val (.int p1), .val (.int (4 : Int32)), .val (.int (1 : Int32))] [(.int (4 : Int32))])) _
    refine XS.iconst X425.here hx rfl (hb hby d5_80) ?_
    show Steps p.tables e below (T425.setTop (mkF m 81 #[.val (.ref a0), .val (.int p1), .val (.int (4 : Int32)), .val (.int (1 : Int32))] [(.int (3 : Int32)), (.int (4 : Int32))])) _
    refine XS.icmpNo X425.here hx rfl (hb hby d5_81) rfl (tlt (by decide : (3 : Int32) < (4 : Int32))).2.2.2 ?_
    show Steps p.tables e below (T425.setTop (mkF m 84 #[.val (.ref a0), .val (.int p1), .val (.int (4 : Int32)), .val (.int (1 : Int32))] [])) _
    refine XS.iloadN X425.here hx rfl (hb hby d5_84) rfl ?_
    show Steps p.tables e below (T425.setTop (mkF m 85 #[.val (.ref a0), .val (.int p1), .val (.int (4 : Int32)), .val (.int (1 : Int32))] [(.int (1 : Int32))])) _
    refine XS.ifNo X425.here hx rfl (hb hby d5_85) rfl ((if0 _ _).trans (feq (by decide : ¬ ((1 : Int32) = (0 : Int32)))).1) ?_
    show Steps p.tables e below (T425.setTop (mkF m 88 #[.val (.ref a0), .val (.int p1), .val (.int (4 : Int32)), .val (.int (1 : Int32))] [])) _
    refine XS.aloadN X425.here hx rfl (hb hby d5_88) rfl rfl ?_
    show Steps p.tables e below (T425.setTop (mkF m 89 #[.val (.ref a0), .val (.int p1), .val (.int (4 : Int32)), .val (.int (1 : Int32))] [(.ref a0)])) _
    refine XS.iconst X425.here hx rfl (hb hby d5_89) ?_
    show Steps p.tables e below (T425.setTop (mkF m 90 #[.val (.ref a0), .val (.int p1), .val (.int (4 : Int32)), .val (.int (1 : Int32))] [(.int (3 : Int32)), (.ref a0)])) _
    refine X425.baloadBytes hx (j := (3 : Int32)) (v := (.int (nar .byte (nar .byte (((p1.toUInt32 >>> (((8 : Int32) * (3 : Int32)) &&& 31).toUInt32).toInt32).toInt8.toInt32))))) (by rw [e425]; exact Ar426.1) (State.isArrayOf_alike hZ.alike Ar426.2.1) Ar426.2.2 hin427 hat428 (g := (mkF m 90 #[.val (.ref a0), .val (.int p1), .val (.int (4 : Int32)), .val (.int (1 : Int32))] [(.int (3 : Int32)), (.ref a0)])) rfl rfl (hb hby d5_90) _ ?_
    show Steps p.tables e below (T425.setTop (mkF m 91 #[.val (.ref a0), .val (.int p1), .val (.int (4 : Int32)), .val (.int (1 : Int32))] [(.int (nar .byte (nar .byte (((p1.toUInt32 >>> (((8 : Int32) * (3 : Int32)) &&& 31).toUInt32).toInt32).toInt8.toInt32))))])) _
    refine XS.iloadN X425.here hx rfl (hb hby d5_91) rfl ?_
    show Steps p.tables e below (T425.setTop (mkF m 92 #[.val (.ref a0), .val (.int p1), .val (.int (4 : Int32)), .val (.int (1 : Int32))] [(.int p1), (.int (nar .byte (nar .byte (((p1.toUInt32 >>> (((8 : Int32) * (3 : Int32)) &&& 31).toUInt32).toInt32).toInt8.toInt32))))])) _
    refine XS.iconst X425.here hx rfl (hb hby d5_92) ?_
    show Steps p.tables e below (T425.setTop (mkF m 93 #[.val (.ref a0), .val (.int p1), .val (.int (4 : Int32)), .val (.int (1 : Int32))] [(.int (3 : Int32)), (.int p1), (.int (nar .byte (nar .byte (((p1.toUInt32 >>> (((8 : Int32) * (3 : Int32)) &&& 31).toUInt32).toInt32).toInt8.toInt32))))])) _
    refine st429 _ ?_
    show Steps p.tables e below (T429.setTop (mkF m 96 #[.val (.ref a0), .val (.int p1), .val (.int (4 : Int32)), .val (.int (1 : Int32))] [(.int (nar .byte (((p1.toUInt32 >>> (((8 : Int32) * (3 : Int32)) &&& 31).toUInt32).toInt32).toInt8.toInt32))), (.int (nar .byte (nar .byte (((p1.toUInt32 >>> (((8 : Int32) * (3 : Int32)) &&& 31).toUInt32).toInt32).toInt8.toInt32))))])) _
    refine XS.icmpNo X429.here hx rfl (hb hby d5_96) rfl (teq (own_bb _)).2 ?_
    show Steps p.tables e below (T429.setTop (mkF m 99 #[.val (.ref a0), .val (.int p1), .val (.int (4 : Int32)), .val (.int (1 : Int32))] [])) _
    refine XS.iconst X429.here hx rfl (hb hby d5_99) ?_
    show Steps p.tables e below (T429.setTop (mkF m 100 #[.val (.ref a0), .val (.int p1), .val (.int (4 : Int32)), .val (.int (1 : Int32))] [(.int (1 : Int32))])) _
    refine XS.goto X429.here hx rfl (pc0 := 100) (pc' := 104) rfl (hb hby d5_100) (by decide) (by decide) ?_
    show Steps p.tables e below (T429.setTop (mkF m 104 #[.val (.ref a0), .val (.int p1), .val (.int (4 : Int32)), .val (.int (1 : Int32))] [(.int (1 : Int32))])) _
    refine XS.istoreN X429.here hx rfl (hb hby d5_104) rfl (l' := #[.val (.ref a0), .val (.int p1), .val (.int (4 : Int32)), .val (.int (1 : Int32))]) rfl ?_
    show Steps p.tables e below (T429.setTop (mkF m 105 #[.val (.ref a0), .val (.int p1), .val (.int (4 : Int32)), .val (.int (1 : Int32))] [])) _
    refine XS.iloadN X429.here hx rfl (hb hby d5_105) rfl ?_
    show Steps p.tables e below (T429.setTop (mkF m 106 #[.val (.ref a0), .val (.int p1), .val (.int (4 : Int32)), .val (.int (1 : Int32))] [(.int (1 : Int32))])) _
    exact retN X429 hx (t := .boolean) Bd.returns (by simp) (hb hby d5_106) hr
  · show Q5_4 Z a0 p1 k_a0 h0 n0 _ T429.heap _
    rw [e429]
    exact ⟨rfl, N429, rfl⟩
theorem own_3 (p : Int32) (h0 : ¬ (p &&& (3 : Int32)) = (0 : Int32)) (h1 : ¬ (p &&& (3 : Int32)) = (1 : Int32)) (h2 : ¬ (p &&& (3 : Int32)) = (2 : Int32)) : (p &&& (3 : Int32)) = (3 : Int32) := by
  have e : (p &&& (3 : Int32)).toInt = p.toInt % 2 ^ 2 := Jvm.Kit.i32_mask p 3 (k := 2) (by decide) (by decide)
  simp only [← Int32.toInt_inj, e, Int32.reduceToInt] at *; omega
theorem own_1 (p : Int32) (h0 : ¬ (p &&& (1 : Int32)) = (0 : Int32)) : (p &&& (1 : Int32)) = (1 : Int32) := by
  have e : (p &&& (1 : Int32)).toInt = p.toInt % 2 ^ 1 := Jvm.Kit.i32_mask p 1 (k := 1) (by decide) (by decide)
  simp only [← Int32.toInt_inj, e, Int32.reduceToInt] at *; omega
theorem pd_3 : parseMethodDescriptor "(II)[B" = some ⟨[.int, .int], some (.array .byte)⟩ := by decide +kernel
theorem pd_4 : parseMethodDescriptor "([B[B)[B" = some ⟨[(.array .byte), (.array .byte)], some (.array .byte)⟩ := by decide +kernel
theorem pd_5 : parseMethodDescriptor "([BII)Z" = some ⟨[(.array .byte), .int, .int], some .boolean⟩ := by decide +kernel
theorem pd_6 : parseMethodDescriptor "([BIII)Z" = some ⟨[(.array .byte), .int, .int, .int], some .boolean⟩ := by decide +kernel
def v0 (p2 : Int32) : Int32 := (if (p2 &&& (3 : Int32)) = (0 : Int32) then (if (((p2.toUInt32 >>> ((2 : Int32) &&& 31).toUInt32).toInt32) &&& (1 : Int32)) = (0 : Int32) then (1 : Int32) else (1 : Int32)) else (if (p2 &&& (3 : Int32)) = (1 : Int32) then (if (((p2.toUInt32 >>> ((2 : Int32) &&& 31).toUInt32).toInt32) &&& (1 : Int32)) = (0 : Int32) then (1 : Int32) else (1 : Int32)) else (if (p2 &&& (3 : Int32)) = (2 : Int32) then (if (((p2.toUInt32 >>> ((2 : Int32) &&& 31).toUInt32).toInt32) &&& (1 : Int32)) = (0 : Int32) then (1 : Int32) else (1 : Int32)) else (if (((p2.toUInt32 >>> ((2 : Int32) &&& 31).toUInt32).toInt32) &&& (1 : Int32)) = (0 : Int32) then (1 : Int32) else (1 : Int32)))))
theorem ef0 (m : MethodId) (x0 : Int32) (x1 : Int32) (x2 : Int32) : entryFrame m #[(.int x0), (.int x1), (.int x2)] maxLocals = mkF m 0 #[.val (.int x0), .val (.int x1), .val (.int x2), .unset, .unset, .unset, .unset, .unset, .unset] [] := by first | (simp [entryFrame, mkF, argsToLocals, Value.category, maxLocals]; done) | rfl
def Q0 (Z : State) (p0 : Int32) (p1 : Int32) (p2 : Int32) (h0 : Heap) (n0 : Nat) (v : Option Value) (h : Heap) (L : List Loc) : Prop := v = some (.int (v0 p2)) ∧ Fr n0 L
set_option maxRecDepth 65536 in
set_option maxHeartbeats 40000000 in
theorem rm0 (l : Launch) (Z : State) (aw : Array Value) (hw : ∀ d ∈ tables_1, d.before aw Z = true) (ws : List Jvm.Cond) (p0 : Int32) (p1 : Int32) (p2 : Int32) (h0 : Heap) (n0 : Nat) (Z0 : n0 ≤ h0.size)  :
    MetFree l x (head1 (Jvm.Cond.code x code maxLocals ret :: ws) room_1) (fun a U => a = #[(.int p0), (.int p1), (.int p2)] ∧ Z.Warmed39 U.vm ∧ U.heap = h0) (fun _ _ _ _ _ => True) (fun _ U o U' => ∃ v L, o = .returned v ∧ Q0 Z p0 p1 p2 h0 n0 v U'.heap L ∧ FrameEnd U o U' L room_1.cells room_1.slots) := by
  refine MetFree.of_bodySF (plainFor_of_name pn_1) hisR ?_
  intro p e s m args below meth c s₁ Bd hml0 hP hK
  obtain ⟨rfl, hZ, hh⟩ := hP
  have hx := Bd.exec
  have hby := Bd.bytes
  have hml : c.maxLocals = 9 := hml0
  have hown : s.vm.findClass "com/example/rollcall/rollcall/bench/MilenageXorPinLaw" = some m.cls := findClass_of_methodNamed Bd.named
  have hnm := (name_of_methodNamed Bd.named Bd.method).1
  have X0 : Stand p l e room_1 s m #[(.int p0), (.int p1), (.int p2)] below meth c s₁ [] 0 0 := Stand.of_body Bd
  have e0 : s₁.heap = h0 := by rw [← hh, Bd.state]; rfl
  have N0 := Fr.nil n0
  have pre0 : ∀ t, Steps p.tables e below (s₁.setTop (mkF m 0 #[.val (.int p0), .val (.int p1), .val (.int p2), .unset, .unset, .unset, .unset, .unset, .unset] [])) t → Steps p.tables e below (s₁.setTop (entryFrame m #[(.int p0), (.int p1), (.int p2)] maxLocals)) t := fun t k => castTop (ef0 m p0 p1 p2) k
  have pre430 := fun (t : State) (k : Steps p.tables e below (s₁.setTop (mkF m 4 #[.val (.int p0), .val (.int p1), .val (.int p2), .val (.int (p2 &&& (3 : Int32))), .unset, .unset, .unset, .unset, .unset] [])) t) => pre0 t (by
    show Steps p.tables e below (s₁.setTop (mkF m 0 #[.val (.int p0), .val (.int p1), .val (.int p2), .unset, .unset, .unset, .unset, .unset, .unset] [])) _
    refine XS.iloadN X0.here hx rfl (hb hby at_0) rfl ?_
    show Steps p.tables e below (s₁.setTop (mkF m 1 #[.val (.int p0), .val (.int p1), .val (.int p2), .unset, .unset, .unset, .unset, .unset, .unset] [(.int p2)])) _
    refine XS.iconst X0.here hx rfl (hb hby at_1) ?_
    show Steps p.tables e below (s₁.setTop (mkF m 2 #[.val (.int p0), .val (.int p1), .val (.int p2), .unset, .unset, .unset, .unset, .unset, .unset] [(.int (3 : Int32)), (.int p2)])) _
    refine XS.iand X0.here hx rfl (hb hby at_2) rfl ?_
    show Steps p.tables e below (s₁.setTop (mkF m 3 #[.val (.int p0), .val (.int p1), .val (.int p2), .unset, .unset, .unset, .unset, .unset, .unset] [(.int (p2 &&& (3 : Int32)))])) _
    refine XS.istoreN X0.here hx rfl (hb hby at_3) rfl (l' := #[.val (.int p0), .val (.int p1), .val (.int p2), .val (.int (p2 &&& (3 : Int32))), .unset, .unset, .unset, .unset, .unset]) rfl ?_
    exact k)
  by_cases hs431 : (p2 &&& (3 : Int32)) = (0 : Int32)
  · skip
    have pre432 := fun (t : State) (k : Steps p.tables e below (s₁.setTop (mkF m 4 #[.val (.int p0), .val (.int p1), .val (.int p2), .val (.int (0 : Int32)), .unset, .unset, .unset, .unset, .unset] [])) t) => pre430 t (by show Steps p.tables e below (s₁.setTop (mkF m 4 #[.val (.int p0), .val (.int p1), .val (.int p2), .val (.int (p2 &&& (3 : Int32))), .unset, .unset, .unset, .unset, .unset] [])) t; rw [hs431]; exact k)
    have pre433 := fun (t : State) (k : Steps p.tables e below (s₁.setTop (mkF m 10 #[.val (.int p0), .val (.int p1), .val (.int p2), .val (.int (0 : Int32)), .unset, .unset, .unset, .unset, .unset] [(.int (((p2.toUInt32 >>> ((2 : Int32) &&& 31).toUInt32).toInt32) &&& (1 : Int32))), (.int (0 : Int32))])) t) => pre432 t (by
      show Steps p.tables e below (s₁.setTop (mkF m 4 #[.val (.int p0), .val (.int p1), .val (.int p2), .val (.int (0 : Int32)), .unset, .unset, .unset, .unset, .unset] [])) _
      refine XS.iloadN X0.here hx rfl (hb hby at_4) rfl ?_
      show Steps p.tables e below (s₁.setTop (mkF m 5 #[.val (.int p0), .val (.int p1), .val (.int p2), .val (.int (0 : Int32)), .unset, .unset, .unset, .unset, .unset] [(.int (0 : Int32))])) _
      refine XS.iloadN X0.here hx rfl (hb hby at_5) rfl ?_
      show Steps p.tables e below (s₁.setTop (mkF m 6 #[.val (.int p0), .val (.int p1), .val (.int p2), .val (.int (0 : Int32)), .unset, .unset, .unset, .unset, .unset] [(.int p2), (.int (0 : Int32))])) _
      refine XS.iconst X0.here hx rfl (hb hby at_6) ?_
      show Steps p.tables e below (s₁.setTop (mkF m 7 #[.val (.int p0), .val (.int p1), .val (.int p2), .val (.int (0 : Int32)), .unset, .unset, .unset, .unset, .unset] [(.int (2 : Int32)), (.int p2), (.int (0 : Int32))])) _
      refine XS.iushr X0.here hx rfl (hb hby at_7) rfl ?_
      show Steps p.tables e below (s₁.setTop (mkF m 8 #[.val (.int p0), .val (.int p1), .val (.int p2), .val (.int (0 : Int32)), .unset, .unset, .unset, .unset, .unset] [(.int ((p2.toUInt32 >>> ((2 : Int32) &&& 31).toUInt32).toInt32)), (.int (0 : Int32))])) _
      refine XS.iconst X0.here hx rfl (hb hby at_8) ?_
      show Steps p.tables e below (s₁.setTop (mkF m 9 #[.val (.int p0), .val (.int p1), .val (.int p2), .val (.int (0 : Int32)), .unset, .unset, .unset, .unset, .unset] [(.int (1 : Int32)), (.int ((p2.toUInt32 >>> ((2 : Int32) &&& 31).toUInt32).toInt32)), (.int (0 : Int32))])) _
      refine XS.iand X0.here hx rfl (hb hby at_9) rfl ?_
      exact k)
    by_cases hs434 : (((p2.toUInt32 >>> ((2 : Int32) &&& 31).toUInt32).toInt32) &&& (1 : Int32)) = (0 : Int32)
    · skip
      have pre435 := fun (t : State) (k : Steps p.tables e below (s₁.setTop (mkF m 10 #[.val (.int p0), .val (.int p1), .val (.int p2), .val (.int (0 : Int32)), .unset, .unset, .unset, .unset, .unset] [(.int (0 : Int32)), (.int (0 : Int32))])) t) => pre433 t (by show Steps p.tables e below (s₁.setTop (mkF m 10 #[.val (.int p0), .val (.int p1), .val (.int p2), .val (.int (0 : Int32)), .unset, .unset, .unset, .unset, .unset] [(.int (((p2.toUInt32 >>> ((2 : Int32) &&& 31).toUInt32).toInt32) &&& (1 : Int32))), (.int (0 : Int32))])) t; rw [hs434]; exact k)
      obtain ⟨_, _, ⟨T436, L436, k436, n436⟩, -, X436, ⟨Lc436, hQ436, l436, y436, z436⟩, st436⟩ := Jvm.LawKit.callS X0 hx (y := (⟨"com/example/rollcall/rollcall/bench/MilenageXorPinLaw", "bytes", "(II)[B"⟩ : MethodName)) hown (mvT hZ (hw _ (List.mem_of_getElem? (i := 0) rfl))) (mvT hZ (hw _ (List.mem_of_getElem? (i := 1) rfl))) (mvT hZ (hw _ (List.mem_of_getElem? (i := 2) rfl))) (mvT hZ (hw _ (List.mem_of_getElem? (i := 3) rfl))) (by decide) (backOf (W := 0) (rm1_0 l Z aw hw [] p0 h0 n0 Z0 ) hZ (hw _ (List.mem_of_getElem? (i := 3) rfl)) (hw _ (List.mem_of_getElem? (i := 2) rfl)) (by decide) (by decide)) (g := (mkF m 15 #[.val (.int p0), .val (.int p1), .val (.int p2), .val (.int (0 : Int32)), .val (.int (0 : Int32)), .unset, .unset, .unset, .unset] [(.int (0 : Int32)), (.int p0)])) rfl (by rw [hml]; rfl) (argsL := [(.int p0), (.int (0 : Int32))]) (rest := []) (lenOf pd_3 rfl) rfl (by show 2 * 0 + _ ≤ _; exact Nat.le_of_eq rfl) (hb hby at_15) (fun _ _ => ⟨rfl, e0, (by decide : 0 + 1 ≤ _), (by decide : 0 + 0 ≤ _)⟩)
      dsimp only [Pt.U, Pt.locs, Pt.cells, Pt.slots] at X436 l436 y436 z436 st436 hQ436
      subst l436 y436 z436
      obtain ⟨h436, e436⟩ : ∃ z, T436.heap = z := ⟨_, rfl⟩
      rw [e436] at hQ436
      obtain ⟨cx0436, cy0436, rfl, N436q, K436q, g_cx0436, zz_cx0436, f437⟩ := hQ436
      have Z436 := Nat.le_trans Z0 K436q.1
      have N436 := Fr.app N0 N436q
      obtain ⟨_, _, ⟨T438, L438, k438, n438⟩, -, X438, ⟨Lc438, hQ438, l438, y438, z438⟩, st438⟩ := Jvm.LawKit.callS X436 hx (y := (⟨"com/example/rollcall/rollcall/bench/MilenageXorPinLaw", "bytes", "(II)[B"⟩ : MethodName)) hown (mvT hZ (hw _ (List.mem_of_getElem? (i := 0) rfl))) (mvT hZ (hw _ (List.mem_of_getElem? (i := 1) rfl))) (mvT hZ (hw _ (List.mem_of_getElem? (i := 2) rfl))) (mvT hZ (hw _ (List.mem_of_getElem? (i := 3) rfl))) (by decide) (backOf (W := 0) (rm1_0 l Z aw hw [] p1 h436 n0 Z436 ) hZ (hw _ (List.mem_of_getElem? (i := 3) rfl)) (hw _ (List.mem_of_getElem? (i := 2) rfl)) (by decide) (by decide)) (g := (mkF m 23 #[.val (.int p0), .val (.int p1), .val (.int p2), .val (.int (0 : Int32)), .val (.int (0 : Int32)), .val (.ref cx0436), .unset, .unset, .unset] [(.int (0 : Int32)), (.int p1)])) rfl (by rw [hml]; rfl) (argsL := [(.int p1), (.int (0 : Int32))]) (rest := []) (lenOf pd_3 rfl) rfl (by show 2 * 0 + _ ≤ _; exact Nat.le_of_eq rfl) (hb hby at_23) (fun _ _ => ⟨rfl, e436, (by decide : 1 + 1 ≤ _), (by decide : 0 + 0 ≤ _)⟩)
      dsimp only [Pt.U, Pt.locs, Pt.cells, Pt.slots] at X438 l438 y438 z438 st438 hQ438
      subst l438 y438 z438
      obtain ⟨h438, e438⟩ : ∃ z, T438.heap = z := ⟨_, rfl⟩
      rw [e438] at hQ438
      obtain ⟨cx0438, cy0438, rfl, N438q, K438q, g_cx0438, zz_cx0438, f439⟩ := hQ438
      have f440 := f437.keep K438q nin0
      have ne441 : cx0436 ≠ cx0438 := Nat.ne_of_lt (Nat.lt_of_lt_of_le f437.lt zz_cx0438)
      have Z438 := Nat.le_trans Z436 K438q.1
      have N438 := Fr.app N436 N438q
      obtain ⟨_, _, ⟨T442, L442, k442, n442⟩, -, X442, ⟨Lc442, hQ442, l442, y442, z442⟩, st442⟩ := Jvm.LawKit.callS X438 hx (y := (⟨"com/example/rollcall/rollcall/bench/Milenage", "xor", "([B[B)[B"⟩ : MethodName)) hown (mvT hZ (hw _ (List.mem_of_getElem? (i := 8) rfl))) (mvT hZ (hw _ (List.mem_of_getElem? (i := 9) rfl))) (mvT hZ (hw _ (List.mem_of_getElem? (i := 10) rfl))) (mvT hZ (hw _ (List.mem_of_getElem? (i := 11) rfl))) (by decide) (backOf (W := 0) (rm3_0_0 l Z aw hw [] cx0436 cx0438 cy0436 cy0438 h438 n0 Z438 f440 f439) hZ (hw _ (List.mem_of_getElem? (i := 11) rfl)) (hw _ (List.mem_of_getElem? (i := 10) rfl)) (by decide) (by decide)) (g := (mkF m 32 #[.val (.int p0), .val (.int p1), .val (.int p2), .val (.int (0 : Int32)), .val (.int (0 : Int32)), .val (.ref cx0436), .val (.ref cx0438), .unset, .unset] [(.ref cx0438), (.ref cx0436)])) rfl (by rw [hml]; rfl) (argsL := [(.ref cx0436), (.ref cx0438)]) (rest := []) (lenOf pd_4 rfl) rfl (by show 2 * 0 + _ ≤ _; exact Nat.le_of_eq rfl) (hb hby at_32) (fun _ _ => ⟨rfl, e438, (by decide : 2 + 1 ≤ _), (by decide : 0 + 0 ≤ _)⟩)
      dsimp only [Pt.U, Pt.locs, Pt.cells, Pt.slots] at X442 l442 y442 z442 st442 hQ442
      subst l442 y442 z442
      obtain ⟨h442, e442⟩ : ∃ z, T442.heap = z := ⟨_, rfl⟩
      rw [e442] at hQ442
      obtain ⟨cx0442, cy0442, rfl, N442q, K442q, g_cx0442, zz_cx0442, f443⟩ := hQ442
      have f444 := f440.keep K442q nin0
      have f445 := f439.keep K442q nin0
      have ne446 : cx0436 ≠ cx0442 := Nat.ne_of_lt (Nat.lt_of_lt_of_le f440.lt zz_cx0442)
      have ne447 : cx0438 ≠ cx0442 := Nat.ne_of_lt (Nat.lt_of_lt_of_le f439.lt zz_cx0442)
      have Z442 := Nat.le_trans Z438 K442q.1
      have N442 := Fr.app N438 N442q
      obtain ⟨cl448, Ar448, q448, S448, M448, H448, G448⟩ := id f443
      obtain ⟨_, _, ⟨T449, L449, k449, n449⟩, -, X449, ⟨Lc449, hQ449, l449, y449, z449⟩, st449⟩ := Jvm.LawKit.callS X442 hx (y := (⟨"com/example/rollcall/rollcall/bench/MilenageXorPinLaw", "same", "([BII)Z"⟩ : MethodName)) hown (mvT hZ (hw _ (List.mem_of_getElem? (i := 15) rfl))) (mvT hZ (hw _ (List.mem_of_getElem? (i := 16) rfl))) (mvT hZ (hw _ (List.mem_of_getElem? (i := 2) rfl))) (mvT hZ (hw _ (List.mem_of_getElem? (i := 17) rfl))) (by decide) (backOf (W := 0) (rm5_0 l Z aw hw [] cx0436 p0 cy0436 h442 n0 Z442 f444) hZ (hw _ (List.mem_of_getElem? (i := 17) rfl)) (hw _ (List.mem_of_getElem? (i := 2) rfl)) (by decide) (by decide)) (g := (mkF m 160 #[.val (.int p0), .val (.int p1), .val (.int p2), .val (.int (0 : Int32)), .val (.int (0 : Int32)), .val (.ref cx0436), .val (.ref cx0438), .val (.ref cx0442), .val (.int (1 : Int32))] [(.int (0 : Int32)), (.int p0), (.ref cx0436)])) rfl (by rw [hml]; rfl) (argsL := [(.ref cx0436), (.int p0), (.int (0 : Int32))]) (rest := []) (lenOf pd_5 rfl) rfl (by show 2 * 0 + _ ≤ _; exact Nat.le_of_eq rfl) (hb hby at_160) (fun _ _ => ⟨rfl, e442, (by decide : 3 + 0 ≤ _), (by decide : 0 + 0 ≤ _)⟩)
      dsimp only [Pt.U, Pt.locs, Pt.cells, Pt.slots] at X449 l449 y449 z449 st449 hQ449
      subst l449 y449 z449
      obtain ⟨rfl, N449q, e449⟩ := hQ449
      have N449 := Fr.app N442 N449q
      obtain ⟨_, _, ⟨T450, L450, k450, n450⟩, -, X450, ⟨Lc450, hQ450, l450, y450, z450⟩, st450⟩ := Jvm.LawKit.callS X449 hx (y := (⟨"com/example/rollcall/rollcall/bench/MilenageXorPinLaw", "same", "([BII)Z"⟩ : MethodName)) hown (mvT hZ (hw _ (List.mem_of_getElem? (i := 15) rfl))) (mvT hZ (hw _ (List.mem_of_getElem? (i := 16) rfl))) (mvT hZ (hw _ (List.mem_of_getElem? (i := 2) rfl))) (mvT hZ (hw _ (List.mem_of_getElem? (i := 17) rfl))) (by decide) (backOf (W := 0) (rm5_0 l Z aw hw [] cx0438 p1 cy0438 h442 n0 Z442 f445) hZ (hw _ (List.mem_of_getElem? (i := 17) rfl)) (hw _ (List.mem_of_getElem? (i := 2) rfl)) (by decide) (by decide)) (g := (mkF m 171 #[.val (.int p0), .val (.int p1), .val (.int p2), .val (.int (0 : Int32)), .val (.int (0 : Int32)), .val (.ref cx0436), .val (.ref cx0438), .val (.ref cx0442), .val (.int (1 : Int32))] [(.int (0 : Int32)), (.int p1), (.ref cx0438)])) rfl (by rw [hml]; rfl) (argsL := [(.ref cx0438), (.int p1), (.int (0 : Int32))]) (rest := []) (lenOf pd_5 rfl) rfl (by show 2 * 0 + _ ≤ _; exact Nat.le_of_eq rfl) (hb hby at_171) (fun _ _ => ⟨rfl, e449, (by decide : 3 + 0 ≤ _), (by decide : 0 + 0 ≤ _)⟩)
      dsimp only [Pt.U, Pt.locs, Pt.cells, Pt.slots] at X450 l450 y450 z450 st450 hQ450
      subst l450 y450 z450
      obtain ⟨rfl, N450q, e450⟩ := hQ450
      have N450 := Fr.app N449 N450q
      obtain ⟨fs, hr, hrun, hended, hW, hsame⟩ := X450.leave (v := some (.int (1 : Int32))) (fun h => by rw [Bd.returns] at h; cases h)
      refine ⟨_, _, pre435 _ ?_, hrun, hended, _, _, rfl, ?_, ⟨_, rfl⟩, hW, hsame.mono (by decide) (by decide)⟩
      · skip
        show Steps p.tables e below (s₁.setTop (mkF m 10 #[.val (.int p0), .val (.int p1), .val (.int p2), .val (.int (0 : Int32)), .unset, .unset, .unset, .unset, .unset] [(.int (0 : Int32)), (.int (0 : Int32))])) _
        refine XS.iadd X0.here hx rfl (hb hby at_10) rfl ?_
        show Steps p.tables e below (s₁.setTop (mkF m 11 #[.val (.int p0), .val (.int p1), .val (.int p2), .val (.int (0 : Int32)), .unset, .unset, .unset, .unset, .unset] [(.int (0 : Int32))])) _
        refine XS.istore X0.here hx rfl (hb hby at_11) rfl (l' := #[.val (.int p0), .val (.int p1), .val (.int p2), .val (.int (0 : Int32)), .val (.int (0 : Int32)), .unset, .unset, .unset, .unset]) rfl ?_
        show Steps p.tables e below (s₁.setTop (mkF m 13 #[.val (.int p0), .val (.int p1), .val (.int p2), .val (.int (0 : Int32)), .val (.int (0 : Int32)), .unset, .unset, .unset, .unset] [])) _
        refine XS.iloadN X0.here hx rfl (hb hby at_13) rfl ?_
        show Steps p.tables e below (s₁.setTop (mkF m 14 #[.val (.int p0), .val (.int p1), .val (.int p2), .val (.int (0 : Int32)), .val (.int (0 : Int32)), .unset, .unset, .unset, .unset] [(.int p0)])) _
        refine XS.iloadN X0.here hx rfl (hb hby at_14) rfl ?_
        show Steps p.tables e below (s₁.setTop (mkF m 15 #[.val (.int p0), .val (.int p1), .val (.int p2), .val (.int (0 : Int32)), .val (.int (0 : Int32)), .unset, .unset, .unset, .unset] [(.int (0 : Int32)), (.int p0)])) _
        refine st436 _ ?_
        show Steps p.tables e below (T436.setTop (mkF m 18 #[.val (.int p0), .val (.int p1), .val (.int p2), .val (.int (0 : Int32)), .val (.int (0 : Int32)), .unset, .unset, .unset, .unset] [(.ref cx0436)])) _
        refine XS.astore X436.here hx rfl (hb hby at_18) rfl rfl (l' := #[.val (.int p0), .val (.int p1), .val (.int p2), .val (.int (0 : Int32)), .val (.int (0 : Int32)), .val (.ref cx0436), .unset, .unset, .unset]) rfl ?_
        show Steps p.tables e below (T436.setTop (mkF m 20 #[.val (.int p0), .val (.int p1), .val (.int p2), .val (.int (0 : Int32)), .val (.int (0 : Int32)), .val (.ref cx0436), .unset, .unset, .unset] [])) _
        refine XS.iloadN X436.here hx rfl (hb hby at_20) rfl ?_
        show Steps p.tables e below (T436.setTop (mkF m 21 #[.val (.int p0), .val (.int p1), .val (.int p2), .val (.int (0 : Int32)), .val (.int (0 : Int32)), .val (.ref cx0436), .unset, .unset, .unset] [(.int p1)])) _
        refine XS.iload X436.here hx rfl (hb hby at_21) rfl ?_
        show Steps p.tables e below (T436.setTop (mkF m 23 #[.val (.int p0), .val (.int p1), .val (.int p2), .val (.int (0 : Int32)), .val (.int (0 : Int32)), .val (.ref cx0436), .unset, .unset, .unset] [(.int (0 : Int32)), (.int p1)])) _
        refine st438 _ ?_
        show Steps p.tables e below (T438.setTop (mkF m 26 #[.val (.int p0), .val (.int p1), .val (.int p2), .val (.int (0 : Int32)), .val (.int (0 : Int32)), .val (.ref cx0436), .unset, .unset, .unset] [(.ref cx0438)])) _
        refine XS.astore X438.here hx rfl (hb hby at_26) rfl rfl (l' := #[.val (.int p0), .val (.int p1), .val (.int p2), .val (.int (0 : Int32)), .val (.int (0 : Int32)), .val (.ref cx0436), .val (.ref cx0438), .unset, .unset]) rfl ?_
        show Steps p.tables e below (T438.setTop (mkF m 28 #[.val (.int p0), .val (.int p1), .val (.int p2), .val (.int (0 : Int32)), .val (.int (0 : Int32)), .val (.ref cx0436), .val (.ref cx0438), .unset, .unset] [])) _
        refine XS.aload X438.here hx rfl (hb hby at_28) rfl rfl ?_
        show Steps p.tables e below (T438.setTop (mkF m 30 #[.val (.int p0), .val (.int p1), .val (.int p2), .val (.int (0 : Int32)), .val (.int (0 : Int32)), .val (.ref cx0436), .val (.ref cx0438), .unset, .unset] [(.ref cx0436)])) _
        refine XS.aload X438.here hx rfl (hb hby at_30) rfl rfl ?_
        show Steps p.tables e below (T438.setTop (mkF m 32 #[.val (.int p0), .val (.int p1), .val (.int p2), .val (.int (0 : Int32)), .val (.int (0 : Int32)), .val (.ref cx0436), .val (.ref cx0438), .unset, .unset] [(.ref cx0438), (.ref cx0436)])) _
        refine st442 _ ?_
        show Steps p.tables e below (T442.setTop (mkF m 35 #[.val (.int p0), .val (.int p1), .val (.int p2), .val (.int (0 : Int32)), .val (.int (0 : Int32)), .val (.ref cx0436), .val (.ref cx0438), .unset, .unset] [(.ref cx0442)])) _
        refine XS.astore X442.here hx rfl (hb hby at_35) rfl rfl (l' := #[.val (.int p0), .val (.int p1), .val (.int p2), .val (.int (0 : Int32)), .val (.int (0 : Int32)), .val (.ref cx0436), .val (.ref cx0438), .val (.ref cx0442), .unset]) rfl ?_
        show Steps p.tables e below (T442.setTop (mkF m 37 #[.val (.int p0), .val (.int p1), .val (.int p2), .val (.int (0 : Int32)), .val (.int (0 : Int32)), .val (.ref cx0436), .val (.ref cx0438), .val (.ref cx0442), .unset] [])) _
        refine XS.aload X442.here hx rfl (hb hby at_37) rfl rfl ?_
        show Steps p.tables e below (T442.setTop (mkF m 39 #[.val (.int p0), .val (.int p1), .val (.int p2), .val (.int (0 : Int32)), .val (.int (0 : Int32)), .val (.ref cx0436), .val (.ref cx0438), .val (.ref cx0442), .unset] [(.ref cx0442)])) _
        refine XS.ifnullNo X442.here hx rfl (hb hby at_39) rfl ?_
        show Steps p.tables e below (T442.setTop (mkF m 42 #[.val (.int p0), .val (.int p1), .val (.int p2), .val (.int (0 : Int32)), .val (.int (0 : Int32)), .val (.ref cx0436), .val (.ref cx0438), .val (.ref cx0442), .unset] [])) _
        refine XS.aload X442.here hx rfl (hb hby at_42) rfl rfl ?_
        show Steps p.tables e below (T442.setTop (mkF m 44 #[.val (.int p0), .val (.int p1), .val (.int p2), .val (.int (0 : Int32)), .val (.int (0 : Int32)), .val (.ref cx0436), .val (.ref cx0438), .val (.ref cx0442), .unset] [(.ref cx0442)])) _
        refine X442.arraylength hx (by rw [e442]; exact Ar448.1) (State.isArrayOf_alike hZ.alike Ar448.2.1) (g := (mkF m 44 #[.val (.int p0), .val (.int p1), .val (.int p2), .val (.int (0 : Int32)), .val (.int (0 : Int32)), .val (.ref cx0436), .val (.ref cx0438), .val (.ref cx0442), .unset] [(.ref cx0442)])) rfl rfl (hb hby at_44) _ ?_
        rw [len_of S448 M448]
        show Steps p.tables e below (T442.setTop (mkF m 45 #[.val (.int p0), .val (.int p1), .val (.int p2), .val (.int (0 : Int32)), .val (.int (0 : Int32)), .val (.ref cx0436), .val (.ref cx0438), .val (.ref cx0442), .unset] [(.int (0 : Int32))])) _
        refine XS.iloadN X442.here hx rfl (hb hby at_45) rfl ?_
        show Steps p.tables e below (T442.setTop (mkF m 46 #[.val (.int p0), .val (.int p1), .val (.int p2), .val (.int (0 : Int32)), .val (.int (0 : Int32)), .val (.ref cx0436), .val (.ref cx0438), .val (.ref cx0442), .unset] [(.int (0 : Int32)), (.int (0 : Int32))])) _
        refine XS.icmpNo X442.here hx rfl (hb hby at_46) rfl (teq (rfl : (0 : Int32) = (0 : Int32))).2 ?_
        show Steps p.tables e below (T442.setTop (mkF m 49 #[.val (.int p0), .val (.int p1), .val (.int p2), .val (.int (0 : Int32)), .val (.int (0 : Int32)), .val (.ref cx0436), .val (.ref cx0438), .val (.ref cx0442), .unset] [])) _
        refine XS.aload X442.here hx rfl (hb hby at_49) rfl rfl ?_
        show Steps p.tables e below (T442.setTop (mkF m 51 #[.val (.int p0), .val (.int p1), .val (.int p2), .val (.int (0 : Int32)), .val (.int (0 : Int32)), .val (.ref cx0436), .val (.ref cx0438), .val (.ref cx0442), .unset] [(.ref cx0442)])) _
        refine XS.aload X442.here hx rfl (hb hby at_51) rfl rfl ?_
        show Steps p.tables e below (T442.setTop (mkF m 53 #[.val (.int p0), .val (.int p1), .val (.int p2), .val (.int (0 : Int32)), .val (.int (0 : Int32)), .val (.ref cx0436), .val (.ref cx0438), .val (.ref cx0442), .unset] [(.ref cx0436), (.ref cx0442)])) _
        refine Jvm.RoadKit.acmp (g := (mkF m 53 #[.val (.int p0), .val (.int p1), .val (.int p2), .val (.int (0 : Int32)), .val (.int (0 : Int32)), .val (.ref cx0436), .val (.ref cx0438), .val (.ref cx0442), .unset] [(.ref cx0436), (.ref cx0442)])) X442 hx rfl rfl rfl (pc0 := 53) (pc' := 56) (same := false) rfl (hb hby at_53) rfl (decide_eq_false fun q => (Ne.symm ne446) (Value.ref.inj q)) (by decide) (by decide) ?_
        show Steps p.tables e below (T442.setTop (mkF m 56 #[.val (.int p0), .val (.int p1), .val (.int p2), .val (.int (0 : Int32)), .val (.int (0 : Int32)), .val (.ref cx0436), .val (.ref cx0438), .val (.ref cx0442), .unset] [])) _
        refine XS.aload X442.here hx rfl (hb hby at_56) rfl rfl ?_
        show Steps p.tables e below (T442.setTop (mkF m 58 #[.val (.int p0), .val (.int p1), .val (.int p2), .val (.int (0 : Int32)), .val (.int (0 : Int32)), .val (.ref cx0436), .val (.ref cx0438), .val (.ref cx0442), .unset] [(.ref cx0442)])) _
        refine XS.aload X442.here hx rfl (hb hby at_58) rfl rfl ?_
        show Steps p.tables e below (T442.setTop (mkF m 60 #[.val (.int p0), .val (.int p1), .val (.int p2), .val (.int (0 : Int32)), .val (.int (0 : Int32)), .val (.ref cx0436), .val (.ref cx0438), .val (.ref cx0442), .unset] [(.ref cx0438), (.ref cx0442)])) _
        refine Jvm.RoadKit.acmp (g := (mkF m 60 #[.val (.int p0), .val (.int p1), .val (.int p2), .val (.int (0 : Int32)), .val (.int (0 : Int32)), .val (.ref cx0436), .val (.ref cx0438), .val (.ref cx0442), .unset] [(.ref cx0438), (.ref cx0442)])) X442 hx rfl rfl rfl (pc0 := 60) (pc' := 65) (same := false) rfl (hb hby at_60) rfl (decide_eq_false fun q => (Ne.symm ne447) (Value.ref.inj q)) (by decide) (by decide) ?_
        show Steps p.tables e below (T442.setTop (mkF m 65 #[.val (.int p0), .val (.int p1), .val (.int p2), .val (.int (0 : Int32)), .val (.int (0 : Int32)), .val (.ref cx0436), .val (.ref cx0438), .val (.ref cx0442), .unset] [])) _
        refine XS.iconst X442.here hx rfl (hb hby at_65) ?_
        show Steps p.tables e below (T442.setTop (mkF m 66 #[.val (.int p0), .val (.int p1), .val (.int p2), .val (.int (0 : Int32)), .val (.int (0 : Int32)), .val (.ref cx0436), .val (.ref cx0438), .val (.ref cx0442), .unset] [(.int (1 : Int32))])) _
        refine XS.istore X442.here hx rfl (hb hby at_66) rfl (l' := #[.val (.int p0), .val (.int p1), .val (.int p2), .val (.int (0 : Int32)), .val (.int (0 : Int32)), .val (.ref cx0436), .val (.ref cx0438), .val (.ref cx0442), .val (.int (1 : Int32))]) rfl ?_
        show Steps p.tables e below (T442.setTop (mkF m 68 #[.val (.int p0), .val (.int p1), .val (.int p2), .val (.int (0 : Int32)), .val (.int (0 : Int32)), .val (.ref cx0436), .val (.ref cx0438), .val (.ref cx0442), .val (.int (1 : Int32))] [])) _
        refine XS.iloadN X442.here hx rfl (hb hby at_68) rfl ?_
        show Steps p.tables e below (T442.setTop (mkF m 69 #[.val (.int p0), .val (.int p1), .val (.int p2), .val (.int (0 : Int32)), .val (.int (0 : Int32)), .val (.ref cx0436), .val (.ref cx0438), .val (.ref cx0442), .val (.int (1 : Int32))] [(.int (0 : Int32))])) _
        refine XS.ifYes X442.here hx rfl (pc0 := 69) (pc' := 95) rfl (hb hby at_69) rfl ((if0 _ _).trans (flt (by decide : ¬ ((0 : Int32) < (0 : Int32)))).2.2.2) (by decide) (by decide) ?_
        show Steps p.tables e below (T442.setTop (mkF m 95 #[.val (.int p0), .val (.int p1), .val (.int p2), .val (.int (0 : Int32)), .val (.int (0 : Int32)), .val (.ref cx0436), .val (.ref cx0438), .val (.ref cx0442), .val (.int (1 : Int32))] [])) _
        refine XS.iloadN X442.here hx rfl (hb hby at_95) rfl ?_
        show Steps p.tables e below (T442.setTop (mkF m 96 #[.val (.int p0), .val (.int p1), .val (.int p2), .val (.int (0 : Int32)), .val (.int (0 : Int32)), .val (.ref cx0436), .val (.ref cx0438), .val (.ref cx0442), .val (.int (1 : Int32))] [(.int (0 : Int32))])) _
        refine XS.iconst X442.here hx rfl (hb hby at_96) ?_
        show Steps p.tables e below (T442.setTop (mkF m 97 #[.val (.int p0), .val (.int p1), .val (.int p2), .val (.int (0 : Int32)), .val (.int (0 : Int32)), .val (.ref cx0436), .val (.ref cx0438), .val (.ref cx0442), .val (.int (1 : Int32))] [(.int (1 : Int32)), (.int (0 : Int32))])) _
        refine XS.icmpYes X442.here hx rfl (pc0 := 97) (pc' := 123) rfl (hb hby at_97) rfl (flt (by decide : ¬ ((1 : Int32) < (0 : Int32)))).2.2.2 (by decide) (by decide) ?_
        show Steps p.tables e below (T442.setTop (mkF m 123 #[.val (.int p0), .val (.int p1), .val (.int p2), .val (.int (0 : Int32)), .val (.int (0 : Int32)), .val (.ref cx0436), .val (.ref cx0438), .val (.ref cx0442), .val (.int (1 : Int32))] [])) _
        refine XS.iloadN X442.here hx rfl (hb hby at_123) rfl ?_
        show Steps p.tables e below (T442.setTop (mkF m 124 #[.val (.int p0), .val (.int p1), .val (.int p2), .val (.int (0 : Int32)), .val (.int (0 : Int32)), .val (.ref cx0436), .val (.ref cx0438), .val (.ref cx0442), .val (.int (1 : Int32))] [(.int (0 : Int32))])) _
        refine XS.iconst X442.here hx rfl (hb hby at_124) ?_
        show Steps p.tables e below (T442.setTop (mkF m 125 #[.val (.int p0), .val (.int p1), .val (.int p2), .val (.int (0 : Int32)), .val (.int (0 : Int32)), .val (.ref cx0436), .val (.ref cx0438), .val (.ref cx0442), .val (.int (1 : Int32))] [(.int (2 : Int32)), (.int (0 : Int32))])) _
        refine XS.icmpYes X442.here hx rfl (pc0 := 125) (pc' := 151) rfl (hb hby at_125) rfl (flt (by decide : ¬ ((2 : Int32) < (0 : Int32)))).2.2.2 (by decide) (by decide) ?_
        show Steps p.tables e below (T442.setTop (mkF m 151 #[.val (.int p0), .val (.int p1), .val (.int p2), .val (.int (0 : Int32)), .val (.int (0 : Int32)), .val (.ref cx0436), .val (.ref cx0438), .val (.ref cx0442), .val (.int (1 : Int32))] [])) _
        refine XS.iload X442.here hx rfl (hb hby at_151) rfl ?_
        show Steps p.tables e below (T442.setTop (mkF m 153 #[.val (.int p0), .val (.int p1), .val (.int p2), .val (.int (0 : Int32)), .val (.int (0 : Int32)), .val (.ref cx0436), .val (.ref cx0438), .val (.ref cx0442), .val (.int (1 : Int32))] [(.int (1 : Int32))])) _
        refine XS.ifNo X442.here hx rfl (hb hby at_153) rfl ((if0 _ _).trans (feq (by decide : ¬ ((1 : Int32) = (0 : Int32)))).1) ?_
        show Steps p.tables e below (T442.setTop (mkF m 156 #[.val (.int p0), .val (.int p1), .val (.int p2), .val (.int (0 : Int32)), .val (.int (0 : Int32)), .val (.ref cx0436), .val (.ref cx0438), .val (.ref cx0442), .val (.int (1 : Int32))] [])) _
        refine XS.aload X442.here hx rfl (hb hby at_156) rfl rfl ?_
        show Steps p.tables e below (T442.setTop (mkF m 158 #[.val (.int p0), .val (.int p1), .val (.int p2), .val (.int (0 : Int32)), .val (.int (0 : Int32)), .val (.ref cx0436), .val (.ref cx0438), .val (.ref cx0442), .val (.int (1 : Int32))] [(.ref cx0436)])) _
        refine XS.iloadN X442.here hx rfl (hb hby at_158) rfl ?_
        show Steps p.tables e below (T442.setTop (mkF m 159 #[.val (.int p0), .val (.int p1), .val (.int p2), .val (.int (0 : Int32)), .val (.int (0 : Int32)), .val (.ref cx0436), .val (.ref cx0438), .val (.ref cx0442), .val (.int (1 : Int32))] [(.int p0), (.ref cx0436)])) _
        refine XS.iloadN X442.here hx rfl (hb hby at_159) rfl ?_
        show Steps p.tables e below (T442.setTop (mkF m 160 #[.val (.int p0), .val (.int p1), .val (.int p2), .val (.int (0 : Int32)), .val (.int (0 : Int32)), .val (.ref cx0436), .val (.ref cx0438), .val (.ref cx0442), .val (.int (1 : Int32))] [(.int (0 : Int32)), (.int p0), (.ref cx0436)])) _
        refine st449 _ ?_
        show Steps p.tables e below (T449.setTop (mkF m 163 #[.val (.int p0), .val (.int p1), .val (.int p2), .val (.int (0 : Int32)), .val (.int (0 : Int32)), .val (.ref cx0436), .val (.ref cx0438), .val (.ref cx0442), .val (.int (1 : Int32))] [(.int (1 : Int32))])) _
        refine XS.ifNo X449.here hx rfl (hb hby at_163) rfl ((if0 _ _).trans (feq (by decide : ¬ ((1 : Int32) = (0 : Int32)))).1) ?_
        show Steps p.tables e below (T449.setTop (mkF m 166 #[.val (.int p0), .val (.int p1), .val (.int p2), .val (.int (0 : Int32)), .val (.int (0 : Int32)), .val (.ref cx0436), .val (.ref cx0438), .val (.ref cx0442), .val (.int (1 : Int32))] [])) _
        refine XS.aload X449.here hx rfl (hb hby at_166) rfl rfl ?_
        show Steps p.tables e below (T449.setTop (mkF m 168 #[.val (.int p0), .val (.int p1), .val (.int p2), .val (.int (0 : Int32)), .val (.int (0 : Int32)), .val (.ref cx0436), .val (.ref cx0438), .val (.ref cx0442), .val (.int (1 : Int32))] [(.ref cx0438)])) _
        refine XS.iloadN X449.here hx rfl (hb hby at_168) rfl ?_
        show Steps p.tables e below (T449.setTop (mkF m 169 #[.val (.int p0), .val (.int p1), .val (.int p2), .val (.int (0 : Int32)), .val (.int (0 : Int32)), .val (.ref cx0436), .val (.ref cx0438), .val (.ref cx0442), .val (.int (1 : Int32))] [(.int p1), (.ref cx0438)])) _
        refine XS.iload X449.here hx rfl (hb hby at_169) rfl ?_
        show Steps p.tables e below (T449.setTop (mkF m 171 #[.val (.int p0), .val (.int p1), .val (.int p2), .val (.int (0 : Int32)), .val (.int (0 : Int32)), .val (.ref cx0436), .val (.ref cx0438), .val (.ref cx0442), .val (.int (1 : Int32))] [(.int (0 : Int32)), (.int p1), (.ref cx0438)])) _
        refine st450 _ ?_
        show Steps p.tables e below (T450.setTop (mkF m 174 #[.val (.int p0), .val (.int p1), .val (.int p2), .val (.int (0 : Int32)), .val (.int (0 : Int32)), .val (.ref cx0436), .val (.ref cx0438), .val (.ref cx0442), .val (.int (1 : Int32))] [(.int (1 : Int32))])) _
        refine XS.ifNo X450.here hx rfl (hb hby at_174) rfl ((if0 _ _).trans (feq (by decide : ¬ ((1 : Int32) = (0 : Int32)))).1) ?_
        show Steps p.tables e below (T450.setTop (mkF m 177 #[.val (.int p0), .val (.int p1), .val (.int p2), .val (.int (0 : Int32)), .val (.int (0 : Int32)), .val (.ref cx0436), .val (.ref cx0438), .val (.ref cx0442), .val (.int (1 : Int32))] [])) _
        refine XS.iconst X450.here hx rfl (hb hby at_177) ?_
        show Steps p.tables e below (T450.setTop (mkF m 178 #[.val (.int p0), .val (.int p1), .val (.int p2), .val (.int (0 : Int32)), .val (.int (0 : Int32)), .val (.ref cx0436), .val (.ref cx0438), .val (.ref cx0442), .val (.int (1 : Int32))] [(.int (1 : Int32))])) _
        refine XS.goto X450.here hx rfl (pc0 := 178) (pc' := 182) rfl (hb hby at_178) (by decide) (by decide) ?_
        show Steps p.tables e below (T450.setTop (mkF m 182 #[.val (.int p0), .val (.int p1), .val (.int p2), .val (.int (0 : Int32)), .val (.int (0 : Int32)), .val (.ref cx0436), .val (.ref cx0438), .val (.ref cx0442), .val (.int (1 : Int32))] [(.int (1 : Int32))])) _
        exact retN X450 hx (t := .boolean) Bd.returns (by simp) (hb hby at_182) hr
      · show Q0 Z p0 p1 p2 h0 n0 _ T450.heap _
        rw [e450]
        have hv : (1 : Int32) = (v0 p2) := by unfold v0; first | (rw [if_pos hs431, if_pos hs434]) | (simp only [if_pos hs431, if_pos hs434])
        exact ⟨(by rw [← hv]), N450⟩
    · skip
      have hs451 : (((p2.toUInt32 >>> ((2 : Int32) &&& 31).toUInt32).toInt32) &&& (1 : Int32)) = (1 : Int32) := own_1 _ hs434
      have pre452 := fun (t : State) (k : Steps p.tables e below (s₁.setTop (mkF m 10 #[.val (.int p0), .val (.int p1), .val (.int p2), .val (.int (0 : Int32)), .unset, .unset, .unset, .unset, .unset] [(.int (1 : Int32)), (.int (0 : Int32))])) t) => pre433 t (by show Steps p.tables e below (s₁.setTop (mkF m 10 #[.val (.int p0), .val (.int p1), .val (.int p2), .val (.int (0 : Int32)), .unset, .unset, .unset, .unset, .unset] [(.int (((p2.toUInt32 >>> ((2 : Int32) &&& 31).toUInt32).toInt32) &&& (1 : Int32))), (.int (0 : Int32))])) t; rw [hs451]; exact k)
      obtain ⟨_, _, ⟨T453, L453, k453, n453⟩, -, X453, ⟨Lc453, hQ453, l453, y453, z453⟩, st453⟩ := Jvm.LawKit.callS X0 hx (y := (⟨"com/example/rollcall/rollcall/bench/MilenageXorPinLaw", "bytes", "(II)[B"⟩ : MethodName)) hown (mvT hZ (hw _ (List.mem_of_getElem? (i := 0) rfl))) (mvT hZ (hw _ (List.mem_of_getElem? (i := 1) rfl))) (mvT hZ (hw _ (List.mem_of_getElem? (i := 2) rfl))) (mvT hZ (hw _ (List.mem_of_getElem? (i := 3) rfl))) (by decide) (backOf (W := 0) (rm1_0 l Z aw hw [] p0 h0 n0 Z0 ) hZ (hw _ (List.mem_of_getElem? (i := 3) rfl)) (hw _ (List.mem_of_getElem? (i := 2) rfl)) (by decide) (by decide)) (g := (mkF m 15 #[.val (.int p0), .val (.int p1), .val (.int p2), .val (.int (0 : Int32)), .val (.int (1 : Int32)), .unset, .unset, .unset, .unset] [(.int (0 : Int32)), (.int p0)])) rfl (by rw [hml]; rfl) (argsL := [(.int p0), (.int (0 : Int32))]) (rest := []) (lenOf pd_3 rfl) rfl (by show 2 * 0 + _ ≤ _; exact Nat.le_of_eq rfl) (hb hby at_15) (fun _ _ => ⟨rfl, e0, (by decide : 0 + 1 ≤ _), (by decide : 0 + 0 ≤ _)⟩)
      dsimp only [Pt.U, Pt.locs, Pt.cells, Pt.slots] at X453 l453 y453 z453 st453 hQ453
      subst l453 y453 z453
      obtain ⟨h453, e453⟩ : ∃ z, T453.heap = z := ⟨_, rfl⟩
      rw [e453] at hQ453
      obtain ⟨cx0453, cy0453, rfl, N453q, K453q, g_cx0453, zz_cx0453, f454⟩ := hQ453
      have Z453 := Nat.le_trans Z0 K453q.1
      have N453 := Fr.app N0 N453q
      obtain ⟨_, _, ⟨T455, L455, k455, n455⟩, -, X455, ⟨Lc455, hQ455, l455, y455, z455⟩, st455⟩ := Jvm.LawKit.callS X453 hx (y := (⟨"com/example/rollcall/rollcall/bench/MilenageXorPinLaw", "bytes", "(II)[B"⟩ : MethodName)) hown (mvT hZ (hw _ (List.mem_of_getElem? (i := 0) rfl))) (mvT hZ (hw _ (List.mem_of_getElem? (i := 1) rfl))) (mvT hZ (hw _ (List.mem_of_getElem? (i := 2) rfl))) (mvT hZ (hw _ (List.mem_of_getElem? (i := 3) rfl))) (by decide) (backOf (W := 0) (rm1_1 l Z aw hw [] p1 h453 n0 Z453 ) hZ (hw _ (List.mem_of_getElem? (i := 3) rfl)) (hw _ (List.mem_of_getElem? (i := 2) rfl)) (by decide) (by decide)) (g := (mkF m 23 #[.val (.int p0), .val (.int p1), .val (.int p2), .val (.int (0 : Int32)), .val (.int (1 : Int32)), .val (.ref cx0453), .unset, .unset, .unset] [(.int (1 : Int32)), (.int p1)])) rfl (by rw [hml]; rfl) (argsL := [(.int p1), (.int (1 : Int32))]) (rest := []) (lenOf pd_3 rfl) rfl (by show 2 * 0 + _ ≤ _; exact Nat.le_of_eq rfl) (hb hby at_23) (fun _ _ => ⟨rfl, e453, (by decide : 1 + 1 ≤ _), (by decide : 0 + 1 ≤ _)⟩)
      dsimp only [Pt.U, Pt.locs, Pt.cells, Pt.slots] at X455 l455 y455 z455 st455 hQ455
      subst l455 y455 z455
      obtain ⟨h455, e455⟩ : ∃ z, T455.heap = z := ⟨_, rfl⟩
      rw [e455] at hQ455
      obtain ⟨cx0455, cy0455, rfl, N455q, K455q, g_cx0455, zz_cx0455, f456⟩ := hQ455
      have f457 := f454.keep K455q nin0
      have ne458 : cx0453 ≠ cx0455 := Nat.ne_of_lt (Nat.lt_of_lt_of_le f454.lt zz_cx0455)
      have Z455 := Nat.le_trans Z453 K455q.1
      have N455 := Fr.app N453 N455q
      obtain ⟨_, _, ⟨T459, L459, k459, n459⟩, -, X459, ⟨Lc459, hQ459, l459, y459, z459⟩, st459⟩ := Jvm.LawKit.callS X455 hx (y := (⟨"com/example/rollcall/rollcall/bench/Milenage", "xor", "([B[B)[B"⟩ : MethodName)) hown (mvT hZ (hw _ (List.mem_of_getElem? (i := 8) rfl))) (mvT hZ (hw _ (List.mem_of_getElem? (i := 9) rfl))) (mvT hZ (hw _ (List.mem_of_getElem? (i := 10) rfl))) (mvT hZ (hw _ (List.mem_of_getElem? (i := 11) rfl))) (by decide) (backOf (W := 0) (rm3_0_1 l Z aw hw [] cx0453 cx0455 ((nar .byte (nar .byte (((p1.toUInt32 >>> (((8 : Int32) * (0 : Int32)) &&& 31).toUInt32).toInt32).toInt8.toInt32)))) cy0453 cy0455 h455 n0 Z455 f457 f456) hZ (hw _ (List.mem_of_getElem? (i := 11) rfl)) (hw _ (List.mem_of_getElem? (i := 10) rfl)) (by decide) (by decide)) (g := (mkF m 32 #[.val (.int p0), .val (.int p1), .val (.int p2), .val (.int (0 : Int32)), .val (.int (1 : Int32)), .val (.ref cx0453), .val (.ref cx0455), .unset, .unset] [(.ref cx0455), (.ref cx0453)])) rfl (by rw [hml]; rfl) (argsL := [(.ref cx0453), (.ref cx0455)]) (rest := []) (lenOf pd_4 rfl) rfl (by show 2 * 0 + _ ≤ _; exact Nat.le_of_eq rfl) (hb hby at_32) (fun _ _ => ⟨rfl, e455, (by decide : 2 + 1 ≤ _), (by decide : 1 + 0 ≤ _)⟩)
      dsimp only [Pt.U, Pt.locs, Pt.cells, Pt.slots] at X459 l459 y459 z459 st459 hQ459
      subst l459 y459 z459
      obtain ⟨h459, e459⟩ : ∃ z, T459.heap = z := ⟨_, rfl⟩
      rw [e459] at hQ459
      obtain ⟨cx0459, cy0459, rfl, N459q, K459q, g_cx0459, zz_cx0459, f460⟩ := hQ459
      have f461 := f457.keep K459q nin0
      have f462 := f456.keep K459q nin0
      have ne463 : cx0453 ≠ cx0459 := Nat.ne_of_lt (Nat.lt_of_lt_of_le f457.lt zz_cx0459)
      have ne464 : cx0455 ≠ cx0459 := Nat.ne_of_lt (Nat.lt_of_lt_of_le f456.lt zz_cx0459)
      have Z459 := Nat.le_trans Z455 K459q.1
      have N459 := Fr.app N455 N459q
      obtain ⟨cl465, Ar465, q465, S465, M465, H465, G465⟩ := id f460
      obtain ⟨_, _, ⟨T466, L466, k466, n466⟩, -, X466, ⟨Lc466, hQ466, l466, y466, z466⟩, st466⟩ := Jvm.LawKit.callS X459 hx (y := (⟨"com/example/rollcall/rollcall/bench/MilenageXorPinLaw", "same", "([BII)Z"⟩ : MethodName)) hown (mvT hZ (hw _ (List.mem_of_getElem? (i := 15) rfl))) (mvT hZ (hw _ (List.mem_of_getElem? (i := 16) rfl))) (mvT hZ (hw _ (List.mem_of_getElem? (i := 2) rfl))) (mvT hZ (hw _ (List.mem_of_getElem? (i := 17) rfl))) (by decide) (backOf (W := 0) (rm5_0 l Z aw hw [] cx0453 p0 cy0453 h459 n0 Z459 f461) hZ (hw _ (List.mem_of_getElem? (i := 17) rfl)) (hw _ (List.mem_of_getElem? (i := 2) rfl)) (by decide) (by decide)) (g := (mkF m 160 #[.val (.int p0), .val (.int p1), .val (.int p2), .val (.int (0 : Int32)), .val (.int (1 : Int32)), .val (.ref cx0453), .val (.ref cx0455), .val (.ref cx0459), .val (.int (1 : Int32))] [(.int (0 : Int32)), (.int p0), (.ref cx0453)])) rfl (by rw [hml]; rfl) (argsL := [(.ref cx0453), (.int p0), (.int (0 : Int32))]) (rest := []) (lenOf pd_5 rfl) rfl (by show 2 * 0 + _ ≤ _; exact Nat.le_of_eq rfl) (hb hby at_160) (fun _ _ => ⟨rfl, e459, (by decide : 3 + 0 ≤ _), (by decide : 1 + 0 ≤ _)⟩)
      dsimp only [Pt.U, Pt.locs, Pt.cells, Pt.slots] at X466 l466 y466 z466 st466 hQ466
      subst l466 y466 z466
      obtain ⟨rfl, N466q, e466⟩ := hQ466
      have N466 := Fr.app N459 N466q
      obtain ⟨_, _, ⟨T467, L467, k467, n467⟩, -, X467, ⟨Lc467, hQ467, l467, y467, z467⟩, st467⟩ := Jvm.LawKit.callS X466 hx (y := (⟨"com/example/rollcall/rollcall/bench/MilenageXorPinLaw", "same", "([BII)Z"⟩ : MethodName)) hown (mvT hZ (hw _ (List.mem_of_getElem? (i := 15) rfl))) (mvT hZ (hw _ (List.mem_of_getElem? (i := 16) rfl))) (mvT hZ (hw _ (List.mem_of_getElem? (i := 2) rfl))) (mvT hZ (hw _ (List.mem_of_getElem? (i := 17) rfl))) (by decide) (backOf (W := 0) (rm5_1 l Z aw hw [] cx0455 p1 cy0455 h459 n0 Z459 f462) hZ (hw _ (List.mem_of_getElem? (i := 17) rfl)) (hw _ (List.mem_of_getElem? (i := 2) rfl)) (by decide) (by decide)) (g := (mkF m 171 #[.val (.int p0), .val (.int p1), .val (.int p2), .val (.int (0 : Int32)), .val (.int (1 : Int32)), .val (.ref cx0453), .val (.ref cx0455), .val (.ref cx0459), .val (.int (1 : Int32))] [(.int (1 : Int32)), (.int p1), (.ref cx0455)])) rfl (by rw [hml]; rfl) (argsL := [(.ref cx0455), (.int p1), (.int (1 : Int32))]) (rest := []) (lenOf pd_5 rfl) rfl (by show 2 * 0 + _ ≤ _; exact Nat.le_of_eq rfl) (hb hby at_171) (fun _ _ => ⟨rfl, e466, (by decide : 3 + 0 ≤ _), (by decide : 1 + 0 ≤ _)⟩)
      dsimp only [Pt.U, Pt.locs, Pt.cells, Pt.slots] at X467 l467 y467 z467 st467 hQ467
      subst l467 y467 z467
      obtain ⟨rfl, N467q, e467⟩ := hQ467
      have N467 := Fr.app N466 N467q
      obtain ⟨fs, hr, hrun, hended, hW, hsame⟩ := X467.leave (v := some (.int (1 : Int32))) (fun h => by rw [Bd.returns] at h; cases h)
      refine ⟨_, _, pre452 _ ?_, hrun, hended, _, _, rfl, ?_, ⟨_, rfl⟩, hW, hsame.mono (by decide) (by decide)⟩
      · skip
        show Steps p.tables e below (s₁.setTop (mkF m 10 #[.val (.int p0), .val (.int p1), .val (.int p2), .val (.int (0 : Int32)), .unset, .unset, .unset, .unset, .unset] [(.int (1 : Int32)), (.int (0 : Int32))])) _
        refine XS.iadd X0.here hx rfl (hb hby at_10) rfl ?_
        show Steps p.tables e below (s₁.setTop (mkF m 11 #[.val (.int p0), .val (.int p1), .val (.int p2), .val (.int (0 : Int32)), .unset, .unset, .unset, .unset, .unset] [(.int (1 : Int32))])) _
        refine XS.istore X0.here hx rfl (hb hby at_11) rfl (l' := #[.val (.int p0), .val (.int p1), .val (.int p2), .val (.int (0 : Int32)), .val (.int (1 : Int32)), .unset, .unset, .unset, .unset]) rfl ?_
        show Steps p.tables e below (s₁.setTop (mkF m 13 #[.val (.int p0), .val (.int p1), .val (.int p2), .val (.int (0 : Int32)), .val (.int (1 : Int32)), .unset, .unset, .unset, .unset] [])) _
        refine XS.iloadN X0.here hx rfl (hb hby at_13) rfl ?_
        show Steps p.tables e below (s₁.setTop (mkF m 14 #[.val (.int p0), .val (.int p1), .val (.int p2), .val (.int (0 : Int32)), .val (.int (1 : Int32)), .unset, .unset, .unset, .unset] [(.int p0)])) _
        refine XS.iloadN X0.here hx rfl (hb hby at_14) rfl ?_
        show Steps p.tables e below (s₁.setTop (mkF m 15 #[.val (.int p0), .val (.int p1), .val (.int p2), .val (.int (0 : Int32)), .val (.int (1 : Int32)), .unset, .unset, .unset, .unset] [(.int (0 : Int32)), (.int p0)])) _
        refine st453 _ ?_
        show Steps p.tables e below (T453.setTop (mkF m 18 #[.val (.int p0), .val (.int p1), .val (.int p2), .val (.int (0 : Int32)), .val (.int (1 : Int32)), .unset, .unset, .unset, .unset] [(.ref cx0453)])) _
        refine XS.astore X453.here hx rfl (hb hby at_18) rfl rfl (l' := #[.val (.int p0), .val (.int p1), .val (.int p2), .val (.int (0 : Int32)), .val (.int (1 : Int32)), .val (.ref cx0453), .unset, .unset, .unset]) rfl ?_
        show Steps p.tables e below (T453.setTop (mkF m 20 #[.val (.int p0), .val (.int p1), .val (.int p2), .val (.int (0 : Int32)), .val (.int (1 : Int32)), .val (.ref cx0453), .unset, .unset, .unset] [])) _
        refine XS.iloadN X453.here hx rfl (hb hby at_20) rfl ?_
        show Steps p.tables e below (T453.setTop (mkF m 21 #[.val (.int p0), .val (.int p1), .val (.int p2), .val (.int (0 : Int32)), .val (.int (1 : Int32)), .val (.ref cx0453), .unset, .unset, .unset] [(.int p1)])) _
        refine XS.iload X453.here hx rfl (hb hby at_21) rfl ?_
        show Steps p.tables e below (T453.setTop (mkF m 23 #[.val (.int p0), .val (.int p1), .val (.int p2), .val (.int (0 : Int32)), .val (.int (1 : Int32)), .val (.ref cx0453), .unset, .unset, .unset] [(.int (1 : Int32)), (.int p1)])) _
        refine st455 _ ?_
        show Steps p.tables e below (T455.setTop (mkF m 26 #[.val (.int p0), .val (.int p1), .val (.int p2), .val (.int (0 : Int32)), .val (.int (1 : Int32)), .val (.ref cx0453), .unset, .unset, .unset] [(.ref cx0455)])) _
        refine XS.astore X455.here hx rfl (hb hby at_26) rfl rfl (l' := #[.val (.int p0), .val (.int p1), .val (.int p2), .val (.int (0 : Int32)), .val (.int (1 : Int32)), .val (.ref cx0453), .val (.ref cx0455), .unset, .unset]) rfl ?_
        show Steps p.tables e below (T455.setTop (mkF m 28 #[.val (.int p0), .val (.int p1), .val (.int p2), .val (.int (0 : Int32)), .val (.int (1 : Int32)), .val (.ref cx0453), .val (.ref cx0455), .unset, .unset] [])) _
        refine XS.aload X455.here hx rfl (hb hby at_28) rfl rfl ?_
        show Steps p.tables e below (T455.setTop (mkF m 30 #[.val (.int p0), .val (.int p1), .val (.int p2), .val (.int (0 : Int32)), .val (.int (1 : Int32)), .val (.ref cx0453), .val (.ref cx0455), .unset, .unset] [(.ref cx0453)])) _
        refine XS.aload X455.here hx rfl (hb hby at_30) rfl rfl ?_
        show Steps p.tables e below (T455.setTop (mkF m 32 #[.val (.int p0), .val (.int p1), .val (.int p2), .val (.int (0 : Int32)), .val (.int (1 : Int32)), .val (.ref cx0453), .val (.ref cx0455), .unset, .unset] [(.ref cx0455), (.ref cx0453)])) _
        refine st459 _ ?_
        show Steps p.tables e below (T459.setTop (mkF m 35 #[.val (.int p0), .val (.int p1), .val (.int p2), .val (.int (0 : Int32)), .val (.int (1 : Int32)), .val (.ref cx0453), .val (.ref cx0455), .unset, .unset] [(.ref cx0459)])) _
        refine XS.astore X459.here hx rfl (hb hby at_35) rfl rfl (l' := #[.val (.int p0), .val (.int p1), .val (.int p2), .val (.int (0 : Int32)), .val (.int (1 : Int32)), .val (.ref cx0453), .val (.ref cx0455), .val (.ref cx0459), .unset]) rfl ?_
        show Steps p.tables e below (T459.setTop (mkF m 37 #[.val (.int p0), .val (.int p1), .val (.int p2), .val (.int (0 : Int32)), .val (.int (1 : Int32)), .val (.ref cx0453), .val (.ref cx0455), .val (.ref cx0459), .unset] [])) _
        refine XS.aload X459.here hx rfl (hb hby at_37) rfl rfl ?_
        show Steps p.tables e below (T459.setTop (mkF m 39 #[.val (.int p0), .val (.int p1), .val (.int p2), .val (.int (0 : Int32)), .val (.int (1 : Int32)), .val (.ref cx0453), .val (.ref cx0455), .val (.ref cx0459), .unset] [(.ref cx0459)])) _
        refine XS.ifnullNo X459.here hx rfl (hb hby at_39) rfl ?_
        show Steps p.tables e below (T459.setTop (mkF m 42 #[.val (.int p0), .val (.int p1), .val (.int p2), .val (.int (0 : Int32)), .val (.int (1 : Int32)), .val (.ref cx0453), .val (.ref cx0455), .val (.ref cx0459), .unset] [])) _
        refine XS.aload X459.here hx rfl (hb hby at_42) rfl rfl ?_
        show Steps p.tables e below (T459.setTop (mkF m 44 #[.val (.int p0), .val (.int p1), .val (.int p2), .val (.int (0 : Int32)), .val (.int (1 : Int32)), .val (.ref cx0453), .val (.ref cx0455), .val (.ref cx0459), .unset] [(.ref cx0459)])) _
        refine X459.arraylength hx (by rw [e459]; exact Ar465.1) (State.isArrayOf_alike hZ.alike Ar465.2.1) (g := (mkF m 44 #[.val (.int p0), .val (.int p1), .val (.int p2), .val (.int (0 : Int32)), .val (.int (1 : Int32)), .val (.ref cx0453), .val (.ref cx0455), .val (.ref cx0459), .unset] [(.ref cx0459)])) rfl rfl (hb hby at_44) _ ?_
        rw [len_of S465 M465]
        show Steps p.tables e below (T459.setTop (mkF m 45 #[.val (.int p0), .val (.int p1), .val (.int p2), .val (.int (0 : Int32)), .val (.int (1 : Int32)), .val (.ref cx0453), .val (.ref cx0455), .val (.ref cx0459), .unset] [(.int (0 : Int32))])) _
        refine XS.iloadN X459.here hx rfl (hb hby at_45) rfl ?_
        show Steps p.tables e below (T459.setTop (mkF m 46 #[.val (.int p0), .val (.int p1), .val (.int p2), .val (.int (0 : Int32)), .val (.int (1 : Int32)), .val (.ref cx0453), .val (.ref cx0455), .val (.ref cx0459), .unset] [(.int (0 : Int32)), (.int (0 : Int32))])) _
        refine XS.icmpNo X459.here hx rfl (hb hby at_46) rfl (teq (rfl : (0 : Int32) = (0 : Int32))).2 ?_
        show Steps p.tables e below (T459.setTop (mkF m 49 #[.val (.int p0), .val (.int p1), .val (.int p2), .val (.int (0 : Int32)), .val (.int (1 : Int32)), .val (.ref cx0453), .val (.ref cx0455), .val (.ref cx0459), .unset] [])) _
        refine XS.aload X459.here hx rfl (hb hby at_49) rfl rfl ?_
        show Steps p.tables e below (T459.setTop (mkF m 51 #[.val (.int p0), .val (.int p1), .val (.int p2), .val (.int (0 : Int32)), .val (.int (1 : Int32)), .val (.ref cx0453), .val (.ref cx0455), .val (.ref cx0459), .unset] [(.ref cx0459)])) _
        refine XS.aload X459.here hx rfl (hb hby at_51) rfl rfl ?_
        show Steps p.tables e below (T459.setTop (mkF m 53 #[.val (.int p0), .val (.int p1), .val (.int p2), .val (.int (0 : Int32)), .val (.int (1 : Int32)), .val (.ref cx0453), .val (.ref cx0455), .val (.ref cx0459), .unset] [(.ref cx0453), (.ref cx0459)])) _
        refine Jvm.RoadKit.acmp (g := (mkF m 53 #[.val (.int p0), .val (.int p1), .val (.int p2), .val (.int (0 : Int32)), .val (.int (1 : Int32)), .val (.ref cx0453), .val (.ref cx0455), .val (.ref cx0459), .unset] [(.ref cx0453), (.ref cx0459)])) X459 hx rfl rfl rfl (pc0 := 53) (pc' := 56) (same := false) rfl (hb hby at_53) rfl (decide_eq_false fun q => (Ne.symm ne463) (Value.ref.inj q)) (by decide) (by decide) ?_
        show Steps p.tables e below (T459.setTop (mkF m 56 #[.val (.int p0), .val (.int p1), .val (.int p2), .val (.int (0 : Int32)), .val (.int (1 : Int32)), .val (.ref cx0453), .val (.ref cx0455), .val (.ref cx0459), .unset] [])) _
        refine XS.aload X459.here hx rfl (hb hby at_56) rfl rfl ?_
        show Steps p.tables e below (T459.setTop (mkF m 58 #[.val (.int p0), .val (.int p1), .val (.int p2), .val (.int (0 : Int32)), .val (.int (1 : Int32)), .val (.ref cx0453), .val (.ref cx0455), .val (.ref cx0459), .unset] [(.ref cx0459)])) _
        refine XS.aload X459.here hx rfl (hb hby at_58) rfl rfl ?_
        show Steps p.tables e below (T459.setTop (mkF m 60 #[.val (.int p0), .val (.int p1), .val (.int p2), .val (.int (0 : Int32)), .val (.int (1 : Int32)), .val (.ref cx0453), .val (.ref cx0455), .val (.ref cx0459), .unset] [(.ref cx0455), (.ref cx0459)])) _
        refine Jvm.RoadKit.acmp (g := (mkF m 60 #[.val (.int p0), .val (.int p1), .val (.int p2), .val (.int (0 : Int32)), .val (.int (1 : Int32)), .val (.ref cx0453), .val (.ref cx0455), .val (.ref cx0459), .unset] [(.ref cx0455), (.ref cx0459)])) X459 hx rfl rfl rfl (pc0 := 60) (pc' := 65) (same := false) rfl (hb hby at_60) rfl (decide_eq_false fun q => (Ne.symm ne464) (Value.ref.inj q)) (by decide) (by decide) ?_
        show Steps p.tables e below (T459.setTop (mkF m 65 #[.val (.int p0), .val (.int p1), .val (.int p2), .val (.int (0 : Int32)), .val (.int (1 : Int32)), .val (.ref cx0453), .val (.ref cx0455), .val (.ref cx0459), .unset] [])) _
        refine XS.iconst X459.here hx rfl (hb hby at_65) ?_
        show Steps p.tables e below (T459.setTop (mkF m 66 #[.val (.int p0), .val (.int p1), .val (.int p2), .val (.int (0 : Int32)), .val (.int (1 : Int32)), .val (.ref cx0453), .val (.ref cx0455), .val (.ref cx0459), .unset] [(.int (1 : Int32))])) _
        refine XS.istore X459.here hx rfl (hb hby at_66) rfl (l' := #[.val (.int p0), .val (.int p1), .val (.int p2), .val (.int (0 : Int32)), .val (.int (1 : Int32)), .val (.ref cx0453), .val (.ref cx0455), .val (.ref cx0459), .val (.int (1 : Int32))]) rfl ?_
        show Steps p.tables e below (T459.setTop (mkF m 68 #[.val (.int p0), .val (.int p1), .val (.int p2), .val (.int (0 : Int32)), .val (.int (1 : Int32)), .val (.ref cx0453), .val (.ref cx0455), .val (.ref cx0459), .val (.int (1 : Int32))] [])) _
        refine XS.iloadN X459.here hx rfl (hb hby at_68) rfl ?_
        show Steps p.tables e below (T459.setTop (mkF m 69 #[.val (.int p0), .val (.int p1), .val (.int p2), .val (.int (0 : Int32)), .val (.int (1 : Int32)), .val (.ref cx0453), .val (.ref cx0455), .val (.ref cx0459), .val (.int (1 : Int32))] [(.int (0 : Int32))])) _
        refine XS.ifYes X459.here hx rfl (pc0 := 69) (pc' := 95) rfl (hb hby at_69) rfl ((if0 _ _).trans (flt (by decide : ¬ ((0 : Int32) < (0 : Int32)))).2.2.2) (by decide) (by decide) ?_
        show Steps p.tables e below (T459.setTop (mkF m 95 #[.val (.int p0), .val (.int p1), .val (.int p2), .val (.int (0 : Int32)), .val (.int (1 : Int32)), .val (.ref cx0453), .val (.ref cx0455), .val (.ref cx0459), .val (.int (1 : Int32))] [])) _
        refine XS.iloadN X459.here hx rfl (hb hby at_95) rfl ?_
        show Steps p.tables e below (T459.setTop (mkF m 96 #[.val (.int p0), .val (.int p1), .val (.int p2), .val (.int (0 : Int32)), .val (.int (1 : Int32)), .val (.ref cx0453), .val (.ref cx0455), .val (.ref cx0459), .val (.int (1 : Int32))] [(.int (0 : Int32))])) _
        refine XS.iconst X459.here hx rfl (hb hby at_96) ?_
        show Steps p.tables e below (T459.setTop (mkF m 97 #[.val (.int p0), .val (.int p1), .val (.int p2), .val (.int (0 : Int32)), .val (.int (1 : Int32)), .val (.ref cx0453), .val (.ref cx0455), .val (.ref cx0459), .val (.int (1 : Int32))] [(.int (1 : Int32)), (.int (0 : Int32))])) _
        refine XS.icmpYes X459.here hx rfl (pc0 := 97) (pc' := 123) rfl (hb hby at_97) rfl (flt (by decide : ¬ ((1 : Int32) < (0 : Int32)))).2.2.2 (by decide) (by decide) ?_
        show Steps p.tables e below (T459.setTop (mkF m 123 #[.val (.int p0), .val (.int p1), .val (.int p2), .val (.int (0 : Int32)), .val (.int (1 : Int32)), .val (.ref cx0453), .val (.ref cx0455), .val (.ref cx0459), .val (.int (1 : Int32))] [])) _
        refine XS.iloadN X459.here hx rfl (hb hby at_123) rfl ?_
        show Steps p.tables e below (T459.setTop (mkF m 124 #[.val (.int p0), .val (.int p1), .val (.int p2), .val (.int (0 : Int32)), .val (.int (1 : Int32)), .val (.ref cx0453), .val (.ref cx0455), .val (.ref cx0459), .val (.int (1 : Int32))] [(.int (0 : Int32))])) _
        refine XS.iconst X459.here hx rfl (hb hby at_124) ?_
        show Steps p.tables e below (T459.setTop (mkF m 125 #[.val (.int p0), .val (.int p1), .val (.int p2), .val (.int (0 : Int32)), .val (.int (1 : Int32)), .val (.ref cx0453), .val (.ref cx0455), .val (.ref cx0459), .val (.int (1 : Int32))] [(.int (2 : Int32)), (.int (0 : Int32))])) _
        refine XS.icmpYes X459.here hx rfl (pc0 := 125) (pc' := 151) rfl (hb hby at_125) rfl (flt (by decide : ¬ ((2 : Int32) < (0 : Int32)))).2.2.2 (by decide) (by decide) ?_
        show Steps p.tables e below (T459.setTop (mkF m 151 #[.val (.int p0), .val (.int p1), .val (.int p2), .val (.int (0 : Int32)), .val (.int (1 : Int32)), .val (.ref cx0453), .val (.ref cx0455), .val (.ref cx0459), .val (.int (1 : Int32))] [])) _
        refine XS.iload X459.here hx rfl (hb hby at_151) rfl ?_
        show Steps p.tables e below (T459.setTop (mkF m 153 #[.val (.int p0), .val (.int p1), .val (.int p2), .val (.int (0 : Int32)), .val (.int (1 : Int32)), .val (.ref cx0453), .val (.ref cx0455), .val (.ref cx0459), .val (.int (1 : Int32))] [(.int (1 : Int32))])) _
        refine XS.ifNo X459.here hx rfl (hb hby at_153) rfl ((if0 _ _).trans (feq (by decide : ¬ ((1 : Int32) = (0 : Int32)))).1) ?_
        show Steps p.tables e below (T459.setTop (mkF m 156 #[.val (.int p0), .val (.int p1), .val (.int p2), .val (.int (0 : Int32)), .val (.int (1 : Int32)), .val (.ref cx0453), .val (.ref cx0455), .val (.ref cx0459), .val (.int (1 : Int32))] [])) _
        refine XS.aload X459.here hx rfl (hb hby at_156) rfl rfl ?_
        show Steps p.tables e below (T459.setTop (mkF m 158 #[.val (.int p0), .val (.int p1), .val (.int p2), .val (.int (0 : Int32)), .val (.int (1 : Int32)), .val (.ref cx0453), .val (.ref cx0455), .val (.ref cx0459), .val (.int (1 : Int32))] [(.ref cx0453)])) _
        refine XS.iloadN X459.here hx rfl (hb hby at_158) rfl ?_
        show Steps p.tables e below (T459.setTop (mkF m 159 #[.val (.int p0), .val (.int p1), .val (.int p2), .val (.int (0 : Int32)), .val (.int (1 : Int32)), .val (.ref cx0453), .val (.ref cx0455), .val (.ref cx0459), .val (.int (1 : Int32))] [(.int p0), (.ref cx0453)])) _
        refine XS.iloadN X459.here hx rfl (hb hby at_159) rfl ?_
        show Steps p.tables e below (T459.setTop (mkF m 160 #[.val (.int p0), .val (.int p1), .val (.int p2), .val (.int (0 : Int32)), .val (.int (1 : Int32)), .val (.ref cx0453), .val (.ref cx0455), .val (.ref cx0459), .val (.int (1 : Int32))] [(.int (0 : Int32)), (.int p0), (.ref cx0453)])) _
        refine st466 _ ?_
        show Steps p.tables e below (T466.setTop (mkF m 163 #[.val (.int p0), .val (.int p1), .val (.int p2), .val (.int (0 : Int32)), .val (.int (1 : Int32)), .val (.ref cx0453), .val (.ref cx0455), .val (.ref cx0459), .val (.int (1 : Int32))] [(.int (1 : Int32))])) _
        refine XS.ifNo X466.here hx rfl (hb hby at_163) rfl ((if0 _ _).trans (feq (by decide : ¬ ((1 : Int32) = (0 : Int32)))).1) ?_
        show Steps p.tables e below (T466.setTop (mkF m 166 #[.val (.int p0), .val (.int p1), .val (.int p2), .val (.int (0 : Int32)), .val (.int (1 : Int32)), .val (.ref cx0453), .val (.ref cx0455), .val (.ref cx0459), .val (.int (1 : Int32))] [])) _
        refine XS.aload X466.here hx rfl (hb hby at_166) rfl rfl ?_
        show Steps p.tables e below (T466.setTop (mkF m 168 #[.val (.int p0), .val (.int p1), .val (.int p2), .val (.int (0 : Int32)), .val (.int (1 : Int32)), .val (.ref cx0453), .val (.ref cx0455), .val (.ref cx0459), .val (.int (1 : Int32))] [(.ref cx0455)])) _
        refine XS.iloadN X466.here hx rfl (hb hby at_168) rfl ?_
        show Steps p.tables e below (T466.setTop (mkF m 169 #[.val (.int p0), .val (.int p1), .val (.int p2), .val (.int (0 : Int32)), .val (.int (1 : Int32)), .val (.ref cx0453), .val (.ref cx0455), .val (.ref cx0459), .val (.int (1 : Int32))] [(.int p1), (.ref cx0455)])) _
        refine XS.iload X466.here hx rfl (hb hby at_169) rfl ?_
        show Steps p.tables e below (T466.setTop (mkF m 171 #[.val (.int p0), .val (.int p1), .val (.int p2), .val (.int (0 : Int32)), .val (.int (1 : Int32)), .val (.ref cx0453), .val (.ref cx0455), .val (.ref cx0459), .val (.int (1 : Int32))] [(.int (1 : Int32)), (.int p1), (.ref cx0455)])) _
        refine st467 _ ?_
        show Steps p.tables e below (T467.setTop (mkF m 174 #[.val (.int p0), .val (.int p1), .val (.int p2), .val (.int (0 : Int32)), .val (.int (1 : Int32)), .val (.ref cx0453), .val (.ref cx0455), .val (.ref cx0459), .val (.int (1 : Int32))] [(.int (1 : Int32))])) _
        refine XS.ifNo X467.here hx rfl (hb hby at_174) rfl ((if0 _ _).trans (feq (by decide : ¬ ((1 : Int32) = (0 : Int32)))).1) ?_
        show Steps p.tables e below (T467.setTop (mkF m 177 #[.val (.int p0), .val (.int p1), .val (.int p2), .val (.int (0 : Int32)), .val (.int (1 : Int32)), .val (.ref cx0453), .val (.ref cx0455), .val (.ref cx0459), .val (.int (1 : Int32))] [])) _
        refine XS.iconst X467.here hx rfl (hb hby at_177) ?_
        show Steps p.tables e below (T467.setTop (mkF m 178 #[.val (.int p0), .val (.int p1), .val (.int p2), .val (.int (0 : Int32)), .val (.int (1 : Int32)), .val (.ref cx0453), .val (.ref cx0455), .val (.ref cx0459), .val (.int (1 : Int32))] [(.int (1 : Int32))])) _
        refine XS.goto X467.here hx rfl (pc0 := 178) (pc' := 182) rfl (hb hby at_178) (by decide) (by decide) ?_
        show Steps p.tables e below (T467.setTop (mkF m 182 #[.val (.int p0), .val (.int p1), .val (.int p2), .val (.int (0 : Int32)), .val (.int (1 : Int32)), .val (.ref cx0453), .val (.ref cx0455), .val (.ref cx0459), .val (.int (1 : Int32))] [(.int (1 : Int32))])) _
        exact retN X467 hx (t := .boolean) Bd.returns (by simp) (hb hby at_182) hr
      · show Q0 Z p0 p1 p2 h0 n0 _ T467.heap _
        rw [e467]
        have hv : (1 : Int32) = (v0 p2) := by unfold v0; first | (rw [if_pos hs431, if_neg hs434]) | (simp only [if_pos hs431, if_neg hs434])
        exact ⟨(by rw [← hv]), N467⟩
  · skip
    by_cases hs468 : (p2 &&& (3 : Int32)) = (1 : Int32)
    · skip
      have pre469 := fun (t : State) (k : Steps p.tables e below (s₁.setTop (mkF m 4 #[.val (.int p0), .val (.int p1), .val (.int p2), .val (.int (1 : Int32)), .unset, .unset, .unset, .unset, .unset] [])) t) => pre430 t (by show Steps p.tables e below (s₁.setTop (mkF m 4 #[.val (.int p0), .val (.int p1), .val (.int p2), .val (.int (p2 &&& (3 : Int32))), .unset, .unset, .unset, .unset, .unset] [])) t; rw [hs468]; exact k)
      have pre470 := fun (t : State) (k : Steps p.tables e below (s₁.setTop (mkF m 10 #[.val (.int p0), .val (.int p1), .val (.int p2), .val (.int (1 : Int32)), .unset, .unset, .unset, .unset, .unset] [(.int (((p2.toUInt32 >>> ((2 : Int32) &&& 31).toUInt32).toInt32) &&& (1 : Int32))), (.int (1 : Int32))])) t) => pre469 t (by
        show Steps p.tables e below (s₁.setTop (mkF m 4 #[.val (.int p0), .val (.int p1), .val (.int p2), .val (.int (1 : Int32)), .unset, .unset, .unset, .unset, .unset] [])) _
        refine XS.iloadN X0.here hx rfl (hb hby at_4) rfl ?_
        show Steps p.tables e below (s₁.setTop (mkF m 5 #[.val (.int p0), .val (.int p1), .val (.int p2), .val (.int (1 : Int32)), .unset, .unset, .unset, .unset, .unset] [(.int (1 : Int32))])) _
        refine XS.iloadN X0.here hx rfl (hb hby at_5) rfl ?_
        show Steps p.tables e below (s₁.setTop (mkF m 6 #[.val (.int p0), .val (.int p1), .val (.int p2), .val (.int (1 : Int32)), .unset, .unset, .unset, .unset, .unset] [(.int p2), (.int (1 : Int32))])) _
        refine XS.iconst X0.here hx rfl (hb hby at_6) ?_
        show Steps p.tables e below (s₁.setTop (mkF m 7 #[.val (.int p0), .val (.int p1), .val (.int p2), .val (.int (1 : Int32)), .unset, .unset, .unset, .unset, .unset] [(.int (2 : Int32)), (.int p2), (.int (1 : Int32))])) _
        refine XS.iushr X0.here hx rfl (hb hby at_7) rfl ?_
        show Steps p.tables e below (s₁.setTop (mkF m 8 #[.val (.int p0), .val (.int p1), .val (.int p2), .val (.int (1 : Int32)), .unset, .unset, .unset, .unset, .unset] [(.int ((p2.toUInt32 >>> ((2 : Int32) &&& 31).toUInt32).toInt32)), (.int (1 : Int32))])) _
        refine XS.iconst X0.here hx rfl (hb hby at_8) ?_
        show Steps p.tables e below (s₁.setTop (mkF m 9 #[.val (.int p0), .val (.int p1), .val (.int p2), .val (.int (1 : Int32)), .unset, .unset, .unset, .unset, .unset] [(.int (1 : Int32)), (.int ((p2.toUInt32 >>> ((2 : Int32) &&& 31).toUInt32).toInt32)), (.int (1 : Int32))])) _
        refine XS.iand X0.here hx rfl (hb hby at_9) rfl ?_
        exact k)
      by_cases hs471 : (((p2.toUInt32 >>> ((2 : Int32) &&& 31).toUInt32).toInt32) &&& (1 : Int32)) = (0 : Int32)
      · skip
        have pre472 := fun (t : State) (k : Steps p.tables e below (s₁.setTop (mkF m 10 #[.val (.int p0), .val (.int p1), .val (.int p2), .val (.int (1 : Int32)), .unset, .unset, .unset, .unset, .unset] [(.int (0 : Int32)), (.int (1 : Int32))])) t) => pre470 t (by show Steps p.tables e below (s₁.setTop (mkF m 10 #[.val (.int p0), .val (.int p1), .val (.int p2), .val (.int (1 : Int32)), .unset, .unset, .unset, .unset, .unset] [(.int (((p2.toUInt32 >>> ((2 : Int32) &&& 31).toUInt32).toInt32) &&& (1 : Int32))), (.int (1 : Int32))])) t; rw [hs471]; exact k)
        obtain ⟨_, _, ⟨T473, L473, k473, n473⟩, -, X473, ⟨Lc473, hQ473, l473, y473, z473⟩, st473⟩ := Jvm.LawKit.callS X0 hx (y := (⟨"com/example/rollcall/rollcall/bench/MilenageXorPinLaw", "bytes", "(II)[B"⟩ : MethodName)) hown (mvT hZ (hw _ (List.mem_of_getElem? (i := 0) rfl))) (mvT hZ (hw _ (List.mem_of_getElem? (i := 1) rfl))) (mvT hZ (hw _ (List.mem_of_getElem? (i := 2) rfl))) (mvT hZ (hw _ (List.mem_of_getElem? (i := 3) rfl))) (by decide) (backOf (W := 0) (rm1_1 l Z aw hw [] p0 h0 n0 Z0 ) hZ (hw _ (List.mem_of_getElem? (i := 3) rfl)) (hw _ (List.mem_of_getElem? (i := 2) rfl)) (by decide) (by decide)) (g := (mkF m 15 #[.val (.int p0), .val (.int p1), .val (.int p2), .val (.int (1 : Int32)), .val (.int (1 : Int32)), .unset, .unset, .unset, .unset] [(.int (1 : Int32)), (.int p0)])) rfl (by rw [hml]; rfl) (argsL := [(.int p0), (.int (1 : Int32))]) (rest := []) (lenOf pd_3 rfl) rfl (by show 2 * 0 + _ ≤ _; exact Nat.le_of_eq rfl) (hb hby at_15) (fun _ _ => ⟨rfl, e0, (by decide : 0 + 1 ≤ _), (by decide : 0 + 1 ≤ _)⟩)
        dsimp only [Pt.U, Pt.locs, Pt.cells, Pt.slots] at X473 l473 y473 z473 st473 hQ473
        subst l473 y473 z473
        obtain ⟨h473, e473⟩ : ∃ z, T473.heap = z := ⟨_, rfl⟩
        rw [e473] at hQ473
        obtain ⟨cx0473, cy0473, rfl, N473q, K473q, g_cx0473, zz_cx0473, f474⟩ := hQ473
        have Z473 := Nat.le_trans Z0 K473q.1
        have N473 := Fr.app N0 N473q
        obtain ⟨_, _, ⟨T475, L475, k475, n475⟩, -, X475, ⟨Lc475, hQ475, l475, y475, z475⟩, st475⟩ := Jvm.LawKit.callS X473 hx (y := (⟨"com/example/rollcall/rollcall/bench/MilenageXorPinLaw", "bytes", "(II)[B"⟩ : MethodName)) hown (mvT hZ (hw _ (List.mem_of_getElem? (i := 0) rfl))) (mvT hZ (hw _ (List.mem_of_getElem? (i := 1) rfl))) (mvT hZ (hw _ (List.mem_of_getElem? (i := 2) rfl))) (mvT hZ (hw _ (List.mem_of_getElem? (i := 3) rfl))) (by decide) (backOf (W := 0) (rm1_1 l Z aw hw [] p1 h473 n0 Z473 ) hZ (hw _ (List.mem_of_getElem? (i := 3) rfl)) (hw _ (List.mem_of_getElem? (i := 2) rfl)) (by decide) (by decide)) (g := (mkF m 23 #[.val (.int p0), .val (.int p1), .val (.int p2), .val (.int (1 : Int32)), .val (.int (1 : Int32)), .val (.ref cx0473), .unset, .unset, .unset] [(.int (1 : Int32)), (.int p1)])) rfl (by rw [hml]; rfl) (argsL := [(.int p1), (.int (1 : Int32))]) (rest := []) (lenOf pd_3 rfl) rfl (by show 2 * 0 + _ ≤ _; exact Nat.le_of_eq rfl) (hb hby at_23) (fun _ _ => ⟨rfl, e473, (by decide : 1 + 1 ≤ _), (by decide : 1 + 1 ≤ _)⟩)
        dsimp only [Pt.U, Pt.locs, Pt.cells, Pt.slots] at X475 l475 y475 z475 st475 hQ475
        subst l475 y475 z475
        obtain ⟨h475, e475⟩ : ∃ z, T475.heap = z := ⟨_, rfl⟩
        rw [e475] at hQ475
        obtain ⟨cx0475, cy0475, rfl, N475q, K475q, g_cx0475, zz_cx0475, f476⟩ := hQ475
        have f477 := f474.keep K475q nin0
        have ne478 : cx0473 ≠ cx0475 := Nat.ne_of_lt (Nat.lt_of_lt_of_le f474.lt zz_cx0475)
        have Z475 := Nat.le_trans Z473 K475q.1
        have N475 := Fr.app N473 N475q
        obtain ⟨_, _, ⟨T479, L479, k479, n479⟩, -, X479, ⟨Lc479, hQ479, l479, y479, z479⟩, st479⟩ := Jvm.LawKit.callS X475 hx (y := (⟨"com/example/rollcall/rollcall/bench/Milenage", "xor", "([B[B)[B"⟩ : MethodName)) hown (mvT hZ (hw _ (List.mem_of_getElem? (i := 8) rfl))) (mvT hZ (hw _ (List.mem_of_getElem? (i := 9) rfl))) (mvT hZ (hw _ (List.mem_of_getElem? (i := 10) rfl))) (mvT hZ (hw _ (List.mem_of_getElem? (i := 11) rfl))) (by decide) (backOf (W := 0) (rm3_1_1 l Z aw hw [] cx0473 cx0475 ((nar .byte (nar .byte (((p0.toUInt32 >>> (((8 : Int32) * (0 : Int32)) &&& 31).toUInt32).toInt32).toInt8.toInt32)))) ((nar .byte (nar .byte (((p1.toUInt32 >>> (((8 : Int32) * (0 : Int32)) &&& 31).toUInt32).toInt32).toInt8.toInt32)))) cy0473 cy0475 h475 n0 Z475 f477 f476) hZ (hw _ (List.mem_of_getElem? (i := 11) rfl)) (hw _ (List.mem_of_getElem? (i := 10) rfl)) (by decide) (by decide)) (g := (mkF m 32 #[.val (.int p0), .val (.int p1), .val (.int p2), .val (.int (1 : Int32)), .val (.int (1 : Int32)), .val (.ref cx0473), .val (.ref cx0475), .unset, .unset] [(.ref cx0475), (.ref cx0473)])) rfl (by rw [hml]; rfl) (argsL := [(.ref cx0473), (.ref cx0475)]) (rest := []) (lenOf pd_4 rfl) rfl (by show 2 * 0 + _ ≤ _; exact Nat.le_of_eq rfl) (hb hby at_32) (fun _ _ => ⟨rfl, e475, (by decide : 2 + 1 ≤ _), (by decide : 2 + 1 ≤ _)⟩)
        dsimp only [Pt.U, Pt.locs, Pt.cells, Pt.slots] at X479 l479 y479 z479 st479 hQ479
        subst l479 y479 z479
        obtain ⟨h479, e479⟩ : ∃ z, T479.heap = z := ⟨_, rfl⟩
        rw [e479] at hQ479
        obtain ⟨cx0479, cy0479, rfl, N479q, K479q, g_cx0479, zz_cx0479, f480⟩ := hQ479
        have f481 := f477.keep K479q nin0
        have f482 := f476.keep K479q nin0
        have ne483 : cx0473 ≠ cx0479 := Nat.ne_of_lt (Nat.lt_of_lt_of_le f477.lt zz_cx0479)
        have ne484 : cx0475 ≠ cx0479 := Nat.ne_of_lt (Nat.lt_of_lt_of_le f476.lt zz_cx0479)
        have Z479 := Nat.le_trans Z475 K479q.1
        have N479 := Fr.app N475 N479q
        obtain ⟨cl485, Ar485, q485, S485, M485, H485, G485⟩ := id f480
        obtain ⟨_, _, ⟨T486, L486, k486, n486⟩, -, X486, ⟨Lc486, hQ486, l486, y486, z486⟩, st486⟩ := Jvm.LawKit.callS X479 hx (y := (⟨"com/example/rollcall/rollcall/bench/MilenageXorPinLaw", "at", "([BIII)Z"⟩ : MethodName)) hown (mvT hZ (hw _ (List.mem_of_getElem? (i := 12) rfl))) (mvT hZ (hw _ (List.mem_of_getElem? (i := 13) rfl))) (mvT hZ (hw _ (List.mem_of_getElem? (i := 2) rfl))) (mvT hZ (hw _ (List.mem_of_getElem? (i := 14) rfl))) (by decide) (backOf (W := 0) (rm4_1_0 l Z aw hw [] cx0479 p0 p1 cy0479 h479 n0 Z479 f480) hZ (hw _ (List.mem_of_getElem? (i := 14) rfl)) (hw _ (List.mem_of_getElem? (i := 2) rfl)) (by decide) (by decide)) (g := (mkF m 82 #[.val (.int p0), .val (.int p1), .val (.int p2), .val (.int (1 : Int32)), .val (.int (1 : Int32)), .val (.ref cx0473), .val (.ref cx0475), .val (.ref cx0479), .val (.int (1 : Int32))] [(.int p1), (.int p0), (.int (0 : Int32)), (.ref cx0479)])) rfl (by rw [hml]; rfl) (argsL := [(.ref cx0479), (.int (0 : Int32)), (.int p0), (.int p1)]) (rest := []) (lenOf pd_6 rfl) rfl (by show 2 * 0 + _ ≤ _; exact Nat.le_of_eq rfl) (hb hby at_82) (fun _ _ => ⟨rfl, e479, (by decide : 3 + 0 ≤ _), (by decide : 3 + 0 ≤ _)⟩)
        dsimp only [Pt.U, Pt.locs, Pt.cells, Pt.slots] at X486 l486 y486 z486 st486 hQ486
        subst l486 y486 z486
        obtain ⟨rfl, N486q, e486⟩ := hQ486
        have N486 := Fr.app N479 N486q
        obtain ⟨_, _, ⟨T487, L487, k487, n487⟩, -, X487, ⟨Lc487, hQ487, l487, y487, z487⟩, st487⟩ := Jvm.LawKit.callS X486 hx (y := (⟨"com/example/rollcall/rollcall/bench/MilenageXorPinLaw", "same", "([BII)Z"⟩ : MethodName)) hown (mvT hZ (hw _ (List.mem_of_getElem? (i := 15) rfl))) (mvT hZ (hw _ (List.mem_of_getElem? (i := 16) rfl))) (mvT hZ (hw _ (List.mem_of_getElem? (i := 2) rfl))) (mvT hZ (hw _ (List.mem_of_getElem? (i := 17) rfl))) (by decide) (backOf (W := 0) (rm5_1 l Z aw hw [] cx0473 p0 cy0473 h479 n0 Z479 f481) hZ (hw _ (List.mem_of_getElem? (i := 17) rfl)) (hw _ (List.mem_of_getElem? (i := 2) rfl)) (by decide) (by decide)) (g := (mkF m 160 #[.val (.int p0), .val (.int p1), .val (.int p2), .val (.int (1 : Int32)), .val (.int (1 : Int32)), .val (.ref cx0473), .val (.ref cx0475), .val (.ref cx0479), .val (.int (1 : Int32))] [(.int (1 : Int32)), (.int p0), (.ref cx0473)])) rfl (by rw [hml]; rfl) (argsL := [(.ref cx0473), (.int p0), (.int (1 : Int32))]) (rest := []) (lenOf pd_5 rfl) rfl (by show 2 * 0 + _ ≤ _; exact Nat.le_of_eq rfl) (hb hby at_160) (fun _ _ => ⟨rfl, e486, (by decide : 3 + 0 ≤ _), (by decide : 3 + 0 ≤ _)⟩)
        dsimp only [Pt.U, Pt.locs, Pt.cells, Pt.slots] at X487 l487 y487 z487 st487 hQ487
        subst l487 y487 z487
        obtain ⟨rfl, N487q, e487⟩ := hQ487
        have N487 := Fr.app N486 N487q
        obtain ⟨_, _, ⟨T488, L488, k488, n488⟩, -, X488, ⟨Lc488, hQ488, l488, y488, z488⟩, st488⟩ := Jvm.LawKit.callS X487 hx (y := (⟨"com/example/rollcall/rollcall/bench/MilenageXorPinLaw", "same", "([BII)Z"⟩ : MethodName)) hown (mvT hZ (hw _ (List.mem_of_getElem? (i := 15) rfl))) (mvT hZ (hw _ (List.mem_of_getElem? (i := 16) rfl))) (mvT hZ (hw _ (List.mem_of_getElem? (i := 2) rfl))) (mvT hZ (hw _ (List.mem_of_getElem? (i := 17) rfl))) (by decide) (backOf (W := 0) (rm5_1 l Z aw hw [] cx0475 p1 cy0475 h479 n0 Z479 f482) hZ (hw _ (List.mem_of_getElem? (i := 17) rfl)) (hw _ (List.mem_of_getElem? (i := 2) rfl)) (by decide) (by decide)) (g := (mkF m 171 #[.val (.int p0), .val (.int p1), .val (.int p2), .val (.int (1 : Int32)), .val (.int (1 : Int32)), .val (.ref cx0473), .val (.ref cx0475), .val (.ref cx0479), .val (.int (1 : Int32))] [(.int (1 : Int32)), (.int p1), (.ref cx0475)])) rfl (by rw [hml]; rfl) (argsL := [(.ref cx0475), (.int p1), (.int (1 : Int32))]) (rest := []) (lenOf pd_5 rfl) rfl (by show 2 * 0 + _ ≤ _; exact Nat.le_of_eq rfl) (hb hby at_171) (fun _ _ => ⟨rfl, e487, (by decide : 3 + 0 ≤ _), (by decide : 3 + 0 ≤ _)⟩)
        dsimp only [Pt.U, Pt.locs, Pt.cells, Pt.slots] at X488 l488 y488 z488 st488 hQ488
        subst l488 y488 z488
        obtain ⟨rfl, N488q, e488⟩ := hQ488
        have N488 := Fr.app N487 N488q
        obtain ⟨fs, hr, hrun, hended, hW, hsame⟩ := X488.leave (v := some (.int (1 : Int32))) (fun h => by rw [Bd.returns] at h; cases h)
        refine ⟨_, _, pre472 _ ?_, hrun, hended, _, _, rfl, ?_, ⟨_, rfl⟩, hW, hsame.mono (by decide) (by decide)⟩
        · skip
          show Steps p.tables e below (s₁.setTop (mkF m 10 #[.val (.int p0), .val (.int p1), .val (.int p2), .val (.int (1 : Int32)), .unset, .unset, .unset, .unset, .unset] [(.int (0 : Int32)), (.int (1 : Int32))])) _
          refine XS.iadd X0.here hx rfl (hb hby at_10) rfl ?_
          show Steps p.tables e below (s₁.setTop (mkF m 11 #[.val (.int p0), .val (.int p1), .val (.int p2), .val (.int (1 : Int32)), .unset, .unset, .unset, .unset, .unset] [(.int (1 : Int32))])) _
          refine XS.istore X0.here hx rfl (hb hby at_11) rfl (l' := #[.val (.int p0), .val (.int p1), .val (.int p2), .val (.int (1 : Int32)), .val (.int (1 : Int32)), .unset, .unset, .unset, .unset]) rfl ?_
          show Steps p.tables e below (s₁.setTop (mkF m 13 #[.val (.int p0), .val (.int p1), .val (.int p2), .val (.int (1 : Int32)), .val (.int (1 : Int32)), .unset, .unset, .unset, .unset] [])) _
          refine XS.iloadN X0.here hx rfl (hb hby at_13) rfl ?_
          show Steps p.tables e below (s₁.setTop (mkF m 14 #[.val (.int p0), .val (.int p1), .val (.int p2), .val (.int (1 : Int32)), .val (.int (1 : Int32)), .unset, .unset, .unset, .unset] [(.int p0)])) _
          refine XS.iloadN X0.here hx rfl (hb hby at_14) rfl ?_
          show Steps p.tables e below (s₁.setTop (mkF m 15 #[.val (.int p0), .val (.int p1), .val (.int p2), .val (.int (1 : Int32)), .val (.int (1 : Int32)), .unset, .unset, .unset, .unset] [(.int (1 : Int32)), (.int p0)])) _
          refine st473 _ ?_
          show Steps p.tables e below (T473.setTop (mkF m 18 #[.val (.int p0), .val (.int p1), .val (.int p2), .val (.int (1 : Int32)), .val (.int (1 : Int32)), .unset, .unset, .unset, .unset] [(.ref cx0473)])) _
          refine XS.astore X473.here hx rfl (hb hby at_18) rfl rfl (l' := #[.val (.int p0), .val (.int p1), .val (.int p2), .val (.int (1 : Int32)), .val (.int (1 : Int32)), .val (.ref cx0473), .unset, .unset, .unset]) rfl ?_
          show Steps p.tables e below (T473.setTop (mkF m 20 #[.val (.int p0), .val (.int p1), .val (.int p2), .val (.int (1 : Int32)), .val (.int (1 : Int32)), .val (.ref cx0473), .unset, .unset, .unset] [])) _
          refine XS.iloadN X473.here hx rfl (hb hby at_20) rfl ?_
          show Steps p.tables e below (T473.setTop (mkF m 21 #[.val (.int p0), .val (.int p1), .val (.int p2), .val (.int (1 : Int32)), .val (.int (1 : Int32)), .val (.ref cx0473), .unset, .unset, .unset] [(.int p1)])) _
          refine XS.iload X473.here hx rfl (hb hby at_21) rfl ?_
          show Steps p.tables e below (T473.setTop (mkF m 23 #[.val (.int p0), .val (.int p1), .val (.int p2), .val (.int (1 : Int32)), .val (.int (1 : Int32)), .val (.ref cx0473), .unset, .unset, .unset] [(.int (1 : Int32)), (.int p1)])) _
          refine st475 _ ?_
          show Steps p.tables e below (T475.setTop (mkF m 26 #[.val (.int p0), .val (.int p1), .val (.int p2), .val (.int (1 : Int32)), .val (.int (1 : Int32)), .val (.ref cx0473), .unset, .unset, .unset] [(.ref cx0475)])) _
          refine XS.astore X475.here hx rfl (hb hby at_26) rfl rfl (l' := #[.val (.int p0), .val (.int p1), .val (.int p2), .val (.int (1 : Int32)), .val (.int (1 : Int32)), .val (.ref cx0473), .val (.ref cx0475), .unset, .unset]) rfl ?_
          show Steps p.tables e below (T475.setTop (mkF m 28 #[.val (.int p0), .val (.int p1), .val (.int p2), .val (.int (1 : Int32)), .val (.int (1 : Int32)), .val (.ref cx0473), .val (.ref cx0475), .unset, .unset] [])) _
          refine XS.aload X475.here hx rfl (hb hby at_28) rfl rfl ?_
          show Steps p.tables e below (T475.setTop (mkF m 30 #[.val (.int p0), .val (.int p1), .val (.int p2), .val (.int (1 : Int32)), .val (.int (1 : Int32)), .val (.ref cx0473), .val (.ref cx0475), .unset, .unset] [(.ref cx0473)])) _
          refine XS.aload X475.here hx rfl (hb hby at_30) rfl rfl ?_
          show Steps p.tables e below (T475.setTop (mkF m 32 #[.val (.int p0), .val (.int p1), .val (.int p2), .val (.int (1 : Int32)), .val (.int (1 : Int32)), .val (.ref cx0473), .val (.ref cx0475), .unset, .unset] [(.ref cx0475), (.ref cx0473)])) _
          refine st479 _ ?_
          show Steps p.tables e below (T479.setTop (mkF m 35 #[.val (.int p0), .val (.int p1), .val (.int p2), .val (.int (1 : Int32)), .val (.int (1 : Int32)), .val (.ref cx0473), .val (.ref cx0475), .unset, .unset] [(.ref cx0479)])) _
          refine XS.astore X479.here hx rfl (hb hby at_35) rfl rfl (l' := #[.val (.int p0), .val (.int p1), .val (.int p2), .val (.int (1 : Int32)), .val (.int (1 : Int32)), .val (.ref cx0473), .val (.ref cx0475), .val (.ref cx0479), .unset]) rfl ?_
          show Steps p.tables e below (T479.setTop (mkF m 37 #[.val (.int p0), .val (.int p1), .val (.int p2), .val (.int (1 : Int32)), .val (.int (1 : Int32)), .val (.ref cx0473), .val (.ref cx0475), .val (.ref cx0479), .unset] [])) _
          refine XS.aload X479.here hx rfl (hb hby at_37) rfl rfl ?_
          show Steps p.tables e below (T479.setTop (mkF m 39 #[.val (.int p0), .val (.int p1), .val (.int p2), .val (.int (1 : Int32)), .val (.int (1 : Int32)), .val (.ref cx0473), .val (.ref cx0475), .val (.ref cx0479), .unset] [(.ref cx0479)])) _
          refine XS.ifnullNo X479.here hx rfl (hb hby at_39) rfl ?_
          show Steps p.tables e below (T479.setTop (mkF m 42 #[.val (.int p0), .val (.int p1), .val (.int p2), .val (.int (1 : Int32)), .val (.int (1 : Int32)), .val (.ref cx0473), .val (.ref cx0475), .val (.ref cx0479), .unset] [])) _
          refine XS.aload X479.here hx rfl (hb hby at_42) rfl rfl ?_
          show Steps p.tables e below (T479.setTop (mkF m 44 #[.val (.int p0), .val (.int p1), .val (.int p2), .val (.int (1 : Int32)), .val (.int (1 : Int32)), .val (.ref cx0473), .val (.ref cx0475), .val (.ref cx0479), .unset] [(.ref cx0479)])) _
          refine X479.arraylength hx (by rw [e479]; exact Ar485.1) (State.isArrayOf_alike hZ.alike Ar485.2.1) (g := (mkF m 44 #[.val (.int p0), .val (.int p1), .val (.int p2), .val (.int (1 : Int32)), .val (.int (1 : Int32)), .val (.ref cx0473), .val (.ref cx0475), .val (.ref cx0479), .unset] [(.ref cx0479)])) rfl rfl (hb hby at_44) _ ?_
          rw [len_of S485 M485]
          show Steps p.tables e below (T479.setTop (mkF m 45 #[.val (.int p0), .val (.int p1), .val (.int p2), .val (.int (1 : Int32)), .val (.int (1 : Int32)), .val (.ref cx0473), .val (.ref cx0475), .val (.ref cx0479), .unset] [(.int (1 : Int32))])) _
          refine XS.iloadN X479.here hx rfl (hb hby at_45) rfl ?_
          show Steps p.tables e below (T479.setTop (mkF m 46 #[.val (.int p0), .val (.int p1), .val (.int p2), .val (.int (1 : Int32)), .val (.int (1 : Int32)), .val (.ref cx0473), .val (.ref cx0475), .val (.ref cx0479), .unset] [(.int (1 : Int32)), (.int (1 : Int32))])) _
          refine XS.icmpNo X479.here hx rfl (hb hby at_46) rfl (teq (rfl : (1 : Int32) = (1 : Int32))).2 ?_
          show Steps p.tables e below (T479.setTop (mkF m 49 #[.val (.int p0), .val (.int p1), .val (.int p2), .val (.int (1 : Int32)), .val (.int (1 : Int32)), .val (.ref cx0473), .val (.ref cx0475), .val (.ref cx0479), .unset] [])) _
          refine XS.aload X479.here hx rfl (hb hby at_49) rfl rfl ?_
          show Steps p.tables e below (T479.setTop (mkF m 51 #[.val (.int p0), .val (.int p1), .val (.int p2), .val (.int (1 : Int32)), .val (.int (1 : Int32)), .val (.ref cx0473), .val (.ref cx0475), .val (.ref cx0479), .unset] [(.ref cx0479)])) _
          refine XS.aload X479.here hx rfl (hb hby at_51) rfl rfl ?_
          show Steps p.tables e below (T479.setTop (mkF m 53 #[.val (.int p0), .val (.int p1), .val (.int p2), .val (.int (1 : Int32)), .val (.int (1 : Int32)), .val (.ref cx0473), .val (.ref cx0475), .val (.ref cx0479), .unset] [(.ref cx0473), (.ref cx0479)])) _
          refine Jvm.RoadKit.acmp (g := (mkF m 53 #[.val (.int p0), .val (.int p1), .val (.int p2), .val (.int (1 : Int32)), .val (.int (1 : Int32)), .val (.ref cx0473), .val (.ref cx0475), .val (.ref cx0479), .unset] [(.ref cx0473), (.ref cx0479)])) X479 hx rfl rfl rfl (pc0 := 53) (pc' := 56) (same := false) rfl (hb hby at_53) rfl (decide_eq_false fun q => (Ne.symm ne483) (Value.ref.inj q)) (by decide) (by decide) ?_
          show Steps p.tables e below (T479.setTop (mkF m 56 #[.val (.int p0), .val (.int p1), .val (.int p2), .val (.int (1 : Int32)), .val (.int (1 : Int32)), .val (.ref cx0473), .val (.ref cx0475), .val (.ref cx0479), .unset] [])) _
          refine XS.aload X479.here hx rfl (hb hby at_56) rfl rfl ?_
          show Steps p.tables e below (T479.setTop (mkF m 58 #[.val (.int p0), .val (.int p1), .val (.int p2), .val (.int (1 : Int32)), .val (.int (1 : Int32)), .val (.ref cx0473), .val (.ref cx0475), .val (.ref cx0479), .unset] [(.ref cx0479)])) _
          refine XS.aload X479.here hx rfl (hb hby at_58) rfl rfl ?_
          show Steps p.tables e below (T479.setTop (mkF m 60 #[.val (.int p0), .val (.int p1), .val (.int p2), .val (.int (1 : Int32)), .val (.int (1 : Int32)), .val (.ref cx0473), .val (.ref cx0475), .val (.ref cx0479), .unset] [(.ref cx0475), (.ref cx0479)])) _
          refine Jvm.RoadKit.acmp (g := (mkF m 60 #[.val (.int p0), .val (.int p1), .val (.int p2), .val (.int (1 : Int32)), .val (.int (1 : Int32)), .val (.ref cx0473), .val (.ref cx0475), .val (.ref cx0479), .unset] [(.ref cx0475), (.ref cx0479)])) X479 hx rfl rfl rfl (pc0 := 60) (pc' := 65) (same := false) rfl (hb hby at_60) rfl (decide_eq_false fun q => (Ne.symm ne484) (Value.ref.inj q)) (by decide) (by decide) ?_
          show Steps p.tables e below (T479.setTop (mkF m 65 #[.val (.int p0), .val (.int p1), .val (.int p2), .val (.int (1 : Int32)), .val (.int (1 : Int32)), .val (.ref cx0473), .val (.ref cx0475), .val (.ref cx0479), .unset] [])) _
          refine XS.iconst X479.here hx rfl (hb hby at_65) ?_
          show Steps p.tables e below (T479.setTop (mkF m 66 #[.val (.int p0), .val (.int p1), .val (.int p2), .val (.int (1 : Int32)), .val (.int (1 : Int32)), .val (.ref cx0473), .val (.ref cx0475), .val (.ref cx0479), .unset] [(.int (1 : Int32))])) _
          refine XS.istore X479.here hx rfl (hb hby at_66) rfl (l' := #[.val (.int p0), .val (.int p1), .val (.int p2), .val (.int (1 : Int32)), .val (.int (1 : Int32)), .val (.ref cx0473), .val (.ref cx0475), .val (.ref cx0479), .val (.int (1 : Int32))]) rfl ?_
          show Steps p.tables e below (T479.setTop (mkF m 68 #[.val (.int p0), .val (.int p1), .val (.int p2), .val (.int (1 : Int32)), .val (.int (1 : Int32)), .val (.ref cx0473), .val (.ref cx0475), .val (.ref cx0479), .val (.int (1 : Int32))] [])) _
          refine XS.iloadN X479.here hx rfl (hb hby at_68) rfl ?_
          show Steps p.tables e below (T479.setTop (mkF m 69 #[.val (.int p0), .val (.int p1), .val (.int p2), .val (.int (1 : Int32)), .val (.int (1 : Int32)), .val (.ref cx0473), .val (.ref cx0475), .val (.ref cx0479), .val (.int (1 : Int32))] [(.int (1 : Int32))])) _
          refine XS.ifNo X479.here hx rfl (hb hby at_69) rfl ((if0 _ _).trans (tlt (by decide : (0 : Int32) < (1 : Int32))).2.2.2) ?_
          show Steps p.tables e below (T479.setTop (mkF m 72 #[.val (.int p0), .val (.int p1), .val (.int p2), .val (.int (1 : Int32)), .val (.int (1 : Int32)), .val (.ref cx0473), .val (.ref cx0475), .val (.ref cx0479), .val (.int (1 : Int32))] [])) _
          refine XS.iload X479.here hx rfl (hb hby at_72) rfl ?_
          show Steps p.tables e below (T479.setTop (mkF m 74 #[.val (.int p0), .val (.int p1), .val (.int p2), .val (.int (1 : Int32)), .val (.int (1 : Int32)), .val (.ref cx0473), .val (.ref cx0475), .val (.ref cx0479), .val (.int (1 : Int32))] [(.int (1 : Int32))])) _
          refine XS.ifNo X479.here hx rfl (hb hby at_74) rfl ((if0 _ _).trans (feq (by decide : ¬ ((1 : Int32) = (0 : Int32)))).1) ?_
          show Steps p.tables e below (T479.setTop (mkF m 77 #[.val (.int p0), .val (.int p1), .val (.int p2), .val (.int (1 : Int32)), .val (.int (1 : Int32)), .val (.ref cx0473), .val (.ref cx0475), .val (.ref cx0479), .val (.int (1 : Int32))] [])) _
          refine XS.aload X479.here hx rfl (hb hby at_77) rfl rfl ?_
          show Steps p.tables e below (T479.setTop (mkF m 79 #[.val (.int p0), .val (.int p1), .val (.int p2), .val (.int (1 : Int32)), .val (.int (1 : Int32)), .val (.ref cx0473), .val (.ref cx0475), .val (.ref cx0479), .val (.int (1 : Int32))] [(.ref cx0479)])) _
          refine XS.iconst X479.here hx rfl (hb hby at_79) ?_
          show Steps p.tables e below (T479.setTop (mkF m 80 #[.val (.int p0), .val (.int p1), .val (.int p2), .val (.int (1 : Int32)), .val (.int (1 : Int32)), .val (.ref cx0473), .val (.ref cx0475), .val (.ref cx0479), .val (.int (1 : Int32))] [(.int (0 : Int32)), (.ref cx0479)])) _
          refine XS.iloadN X479.here hx rfl (hb hby at_80) rfl ?_
          show Steps p.tables e below (T479.setTop (mkF m 81 #[.val (.int p0), .val (.int p1), .val (.int p2), .val (.int (1 : Int32)), .val (.int (1 : Int32)), .val (.ref cx0473), .val (.ref cx0475), .val (.ref cx0479), .val (.int (1 : Int32))] [(.int p0), (.int (0 : Int32)), (.ref cx0479)])) _
          refine XS.iloadN X479.here hx rfl (hb hby at_81) rfl ?_
          show Steps p.tables e below (T479.setTop (mkF m 82 #[.val (.int p0), .val (.int p1), .val (.int p2), .val (.int (1 : Int32)), .val (.int (1 : Int32)), .val (.ref cx0473), .val (.ref cx0475), .val (.ref cx0479), .val (.int (1 : Int32))] [(.int p1), (.int p0), (.int (0 : Int32)), (.ref cx0479)])) _
          refine st486 _ ?_
          show Steps p.tables e below (T486.setTop (mkF m 85 #[.val (.int p0), .val (.int p1), .val (.int p2), .val (.int (1 : Int32)), .val (.int (1 : Int32)), .val (.ref cx0473), .val (.ref cx0475), .val (.ref cx0479), .val (.int (1 : Int32))] [(.int (1 : Int32))])) _
          refine XS.ifNo X486.here hx rfl (hb hby at_85) rfl ((if0 _ _).trans (feq (by decide : ¬ ((1 : Int32) = (0 : Int32)))).1) ?_
          show Steps p.tables e below (T486.setTop (mkF m 88 #[.val (.int p0), .val (.int p1), .val (.int p2), .val (.int (1 : Int32)), .val (.int (1 : Int32)), .val (.ref cx0473), .val (.ref cx0475), .val (.ref cx0479), .val (.int (1 : Int32))] [])) _
          refine XS.iconst X486.here hx rfl (hb hby at_88) ?_
          show Steps p.tables e below (T486.setTop (mkF m 89 #[.val (.int p0), .val (.int p1), .val (.int p2), .val (.int (1 : Int32)), .val (.int (1 : Int32)), .val (.ref cx0473), .val (.ref cx0475), .val (.ref cx0479), .val (.int (1 : Int32))] [(.int (1 : Int32))])) _
          refine XS.goto X486.here hx rfl (pc0 := 89) (pc' := 93) rfl (hb hby at_89) (by decide) (by decide) ?_
          show Steps p.tables e below (T486.setTop (mkF m 93 #[.val (.int p0), .val (.int p1), .val (.int p2), .val (.int (1 : Int32)), .val (.int (1 : Int32)), .val (.ref cx0473), .val (.ref cx0475), .val (.ref cx0479), .val (.int (1 : Int32))] [(.int (1 : Int32))])) _
          refine XS.istore X486.here hx rfl (hb hby at_93) rfl (l' := #[.val (.int p0), .val (.int p1), .val (.int p2), .val (.int (1 : Int32)), .val (.int (1 : Int32)), .val (.ref cx0473), .val (.ref cx0475), .val (.ref cx0479), .val (.int (1 : Int32))]) rfl ?_
          show Steps p.tables e below (T486.setTop (mkF m 95 #[.val (.int p0), .val (.int p1), .val (.int p2), .val (.int (1 : Int32)), .val (.int (1 : Int32)), .val (.ref cx0473), .val (.ref cx0475), .val (.ref cx0479), .val (.int (1 : Int32))] [])) _
          refine XS.iloadN X486.here hx rfl (hb hby at_95) rfl ?_
          show Steps p.tables e below (T486.setTop (mkF m 96 #[.val (.int p0), .val (.int p1), .val (.int p2), .val (.int (1 : Int32)), .val (.int (1 : Int32)), .val (.ref cx0473), .val (.ref cx0475), .val (.ref cx0479), .val (.int (1 : Int32))] [(.int (1 : Int32))])) _
          refine XS.iconst X486.here hx rfl (hb hby at_96) ?_
          show Steps p.tables e below (T486.setTop (mkF m 97 #[.val (.int p0), .val (.int p1), .val (.int p2), .val (.int (1 : Int32)), .val (.int (1 : Int32)), .val (.ref cx0473), .val (.ref cx0475), .val (.ref cx0479), .val (.int (1 : Int32))] [(.int (1 : Int32)), (.int (1 : Int32))])) _
          refine XS.icmpYes X486.here hx rfl (pc0 := 97) (pc' := 123) rfl (hb hby at_97) rfl (flt (by decide : ¬ ((1 : Int32) < (1 : Int32)))).2.2.2 (by decide) (by decide) ?_
          show Steps p.tables e below (T486.setTop (mkF m 123 #[.val (.int p0), .val (.int p1), .val (.int p2), .val (.int (1 : Int32)), .val (.int (1 : Int32)), .val (.ref cx0473), .val (.ref cx0475), .val (.ref cx0479), .val (.int (1 : Int32))] [])) _
          refine XS.iloadN X486.here hx rfl (hb hby at_123) rfl ?_
          show Steps p.tables e below (T486.setTop (mkF m 124 #[.val (.int p0), .val (.int p1), .val (.int p2), .val (.int (1 : Int32)), .val (.int (1 : Int32)), .val (.ref cx0473), .val (.ref cx0475), .val (.ref cx0479), .val (.int (1 : Int32))] [(.int (1 : Int32))])) _
          refine XS.iconst X486.here hx rfl (hb hby at_124) ?_
          show Steps p.tables e below (T486.setTop (mkF m 125 #[.val (.int p0), .val (.int p1), .val (.int p2), .val (.int (1 : Int32)), .val (.int (1 : Int32)), .val (.ref cx0473), .val (.ref cx0475), .val (.ref cx0479), .val (.int (1 : Int32))] [(.int (2 : Int32)), (.int (1 : Int32))])) _
          refine XS.icmpYes X486.here hx rfl (pc0 := 125) (pc' := 151) rfl (hb hby at_125) rfl (flt (by decide : ¬ ((2 : Int32) < (1 : Int32)))).2.2.2 (by decide) (by decide) ?_
          show Steps p.tables e below (T486.setTop (mkF m 151 #[.val (.int p0), .val (.int p1), .val (.int p2), .val (.int (1 : Int32)), .val (.int (1 : Int32)), .val (.ref cx0473), .val (.ref cx0475), .val (.ref cx0479), .val (.int (1 : Int32))] [])) _
          refine XS.iload X486.here hx rfl (hb hby at_151) rfl ?_
          show Steps p.tables e below (T486.setTop (mkF m 153 #[.val (.int p0), .val (.int p1), .val (.int p2), .val (.int (1 : Int32)), .val (.int (1 : Int32)), .val (.ref cx0473), .val (.ref cx0475), .val (.ref cx0479), .val (.int (1 : Int32))] [(.int (1 : Int32))])) _
          refine XS.ifNo X486.here hx rfl (hb hby at_153) rfl ((if0 _ _).trans (feq (by decide : ¬ ((1 : Int32) = (0 : Int32)))).1) ?_
          show Steps p.tables e below (T486.setTop (mkF m 156 #[.val (.int p0), .val (.int p1), .val (.int p2), .val (.int (1 : Int32)), .val (.int (1 : Int32)), .val (.ref cx0473), .val (.ref cx0475), .val (.ref cx0479), .val (.int (1 : Int32))] [])) _
          refine XS.aload X486.here hx rfl (hb hby at_156) rfl rfl ?_
          show Steps p.tables e below (T486.setTop (mkF m 158 #[.val (.int p0), .val (.int p1), .val (.int p2), .val (.int (1 : Int32)), .val (.int (1 : Int32)), .val (.ref cx0473), .val (.ref cx0475), .val (.ref cx0479), .val (.int (1 : Int32))] [(.ref cx0473)])) _
          refine XS.iloadN X486.here hx rfl (hb hby at_158) rfl ?_
          show Steps p.tables e below (T486.setTop (mkF m 159 #[.val (.int p0), .val (.int p1), .val (.int p2), .val (.int (1 : Int32)), .val (.int (1 : Int32)), .val (.ref cx0473), .val (.ref cx0475), .val (.ref cx0479), .val (.int (1 : Int32))] [(.int p0), (.ref cx0473)])) _
          refine XS.iloadN X486.here hx rfl (hb hby at_159) rfl ?_
          show Steps p.tables e below (T486.setTop (mkF m 160 #[.val (.int p0), .val (.int p1), .val (.int p2), .val (.int (1 : Int32)), .val (.int (1 : Int32)), .val (.ref cx0473), .val (.ref cx0475), .val (.ref cx0479), .val (.int (1 : Int32))] [(.int (1 : Int32)), (.int p0), (.ref cx0473)])) _
          refine st487 _ ?_
          show Steps p.tables e below (T487.setTop (mkF m 163 #[.val (.int p0), .val (.int p1), .val (.int p2), .val (.int (1 : Int32)), .val (.int (1 : Int32)), .val (.ref cx0473), .val (.ref cx0475), .val (.ref cx0479), .val (.int (1 : Int32))] [(.int (1 : Int32))])) _
          refine XS.ifNo X487.here hx rfl (hb hby at_163) rfl ((if0 _ _).trans (feq (by decide : ¬ ((1 : Int32) = (0 : Int32)))).1) ?_
          show Steps p.tables e below (T487.setTop (mkF m 166 #[.val (.int p0), .val (.int p1), .val (.int p2), .val (.int (1 : Int32)), .val (.int (1 : Int32)), .val (.ref cx0473), .val (.ref cx0475), .val (.ref cx0479), .val (.int (1 : Int32))] [])) _
          refine XS.aload X487.here hx rfl (hb hby at_166) rfl rfl ?_
          show Steps p.tables e below (T487.setTop (mkF m 168 #[.val (.int p0), .val (.int p1), .val (.int p2), .val (.int (1 : Int32)), .val (.int (1 : Int32)), .val (.ref cx0473), .val (.ref cx0475), .val (.ref cx0479), .val (.int (1 : Int32))] [(.ref cx0475)])) _
          refine XS.iloadN X487.here hx rfl (hb hby at_168) rfl ?_
          show Steps p.tables e below (T487.setTop (mkF m 169 #[.val (.int p0), .val (.int p1), .val (.int p2), .val (.int (1 : Int32)), .val (.int (1 : Int32)), .val (.ref cx0473), .val (.ref cx0475), .val (.ref cx0479), .val (.int (1 : Int32))] [(.int p1), (.ref cx0475)])) _
          refine XS.iload X487.here hx rfl (hb hby at_169) rfl ?_
          show Steps p.tables e below (T487.setTop (mkF m 171 #[.val (.int p0), .val (.int p1), .val (.int p2), .val (.int (1 : Int32)), .val (.int (1 : Int32)), .val (.ref cx0473), .val (.ref cx0475), .val (.ref cx0479), .val (.int (1 : Int32))] [(.int (1 : Int32)), (.int p1), (.ref cx0475)])) _
          refine st488 _ ?_
          show Steps p.tables e below (T488.setTop (mkF m 174 #[.val (.int p0), .val (.int p1), .val (.int p2), .val (.int (1 : Int32)), .val (.int (1 : Int32)), .val (.ref cx0473), .val (.ref cx0475), .val (.ref cx0479), .val (.int (1 : Int32))] [(.int (1 : Int32))])) _
          refine XS.ifNo X488.here hx rfl (hb hby at_174) rfl ((if0 _ _).trans (feq (by decide : ¬ ((1 : Int32) = (0 : Int32)))).1) ?_
          show Steps p.tables e below (T488.setTop (mkF m 177 #[.val (.int p0), .val (.int p1), .val (.int p2), .val (.int (1 : Int32)), .val (.int (1 : Int32)), .val (.ref cx0473), .val (.ref cx0475), .val (.ref cx0479), .val (.int (1 : Int32))] [])) _
          refine XS.iconst X488.here hx rfl (hb hby at_177) ?_
          show Steps p.tables e below (T488.setTop (mkF m 178 #[.val (.int p0), .val (.int p1), .val (.int p2), .val (.int (1 : Int32)), .val (.int (1 : Int32)), .val (.ref cx0473), .val (.ref cx0475), .val (.ref cx0479), .val (.int (1 : Int32))] [(.int (1 : Int32))])) _
          refine XS.goto X488.here hx rfl (pc0 := 178) (pc' := 182) rfl (hb hby at_178) (by decide) (by decide) ?_
          show Steps p.tables e below (T488.setTop (mkF m 182 #[.val (.int p0), .val (.int p1), .val (.int p2), .val (.int (1 : Int32)), .val (.int (1 : Int32)), .val (.ref cx0473), .val (.ref cx0475), .val (.ref cx0479), .val (.int (1 : Int32))] [(.int (1 : Int32))])) _
          exact retN X488 hx (t := .boolean) Bd.returns (by simp) (hb hby at_182) hr
        · show Q0 Z p0 p1 p2 h0 n0 _ T488.heap _
          rw [e488]
          have hv : (1 : Int32) = (v0 p2) := by unfold v0; first | (rw [if_neg hs431, if_pos hs468, if_pos hs471]) | (simp only [if_neg hs431, if_pos hs468, if_pos hs471])
          exact ⟨(by rw [← hv]), N488⟩
      · skip
        have hs489 : (((p2.toUInt32 >>> ((2 : Int32) &&& 31).toUInt32).toInt32) &&& (1 : Int32)) = (1 : Int32) := own_1 _ hs471
        have pre490 := fun (t : State) (k : Steps p.tables e below (s₁.setTop (mkF m 10 #[.val (.int p0), .val (.int p1), .val (.int p2), .val (.int (1 : Int32)), .unset, .unset, .unset, .unset, .unset] [(.int (1 : Int32)), (.int (1 : Int32))])) t) => pre470 t (by show Steps p.tables e below (s₁.setTop (mkF m 10 #[.val (.int p0), .val (.int p1), .val (.int p2), .val (.int (1 : Int32)), .unset, .unset, .unset, .unset, .unset] [(.int (((p2.toUInt32 >>> ((2 : Int32) &&& 31).toUInt32).toInt32) &&& (1 : Int32))), (.int (1 : Int32))])) t; rw [hs489]; exact k)
        obtain ⟨_, _, ⟨T491, L491, k491, n491⟩, -, X491, ⟨Lc491, hQ491, l491, y491, z491⟩, st491⟩ := Jvm.LawKit.callS X0 hx (y := (⟨"com/example/rollcall/rollcall/bench/MilenageXorPinLaw", "bytes", "(II)[B"⟩ : MethodName)) hown (mvT hZ (hw _ (List.mem_of_getElem? (i := 0) rfl))) (mvT hZ (hw _ (List.mem_of_getElem? (i := 1) rfl))) (mvT hZ (hw _ (List.mem_of_getElem? (i := 2) rfl))) (mvT hZ (hw _ (List.mem_of_getElem? (i := 3) rfl))) (by decide) (backOf (W := 0) (rm1_1 l Z aw hw [] p0 h0 n0 Z0 ) hZ (hw _ (List.mem_of_getElem? (i := 3) rfl)) (hw _ (List.mem_of_getElem? (i := 2) rfl)) (by decide) (by decide)) (g := (mkF m 15 #[.val (.int p0), .val (.int p1), .val (.int p2), .val (.int (1 : Int32)), .val (.int (2 : Int32)), .unset, .unset, .unset, .unset] [(.int (1 : Int32)), (.int p0)])) rfl (by rw [hml]; rfl) (argsL := [(.int p0), (.int (1 : Int32))]) (rest := []) (lenOf pd_3 rfl) rfl (by show 2 * 0 + _ ≤ _; exact Nat.le_of_eq rfl) (hb hby at_15) (fun _ _ => ⟨rfl, e0, (by decide : 0 + 1 ≤ _), (by decide : 0 + 1 ≤ _)⟩)
        dsimp only [Pt.U, Pt.locs, Pt.cells, Pt.slots] at X491 l491 y491 z491 st491 hQ491
        subst l491 y491 z491
        obtain ⟨h491, e491⟩ : ∃ z, T491.heap = z := ⟨_, rfl⟩
        rw [e491] at hQ491
        obtain ⟨cx0491, cy0491, rfl, N491q, K491q, g_cx0491, zz_cx0491, f492⟩ := hQ491
        have Z491 := Nat.le_trans Z0 K491q.1
        have N491 := Fr.app N0 N491q
        obtain ⟨_, _, ⟨T493, L493, k493, n493⟩, -, X493, ⟨Lc493, hQ493, l493, y493, z493⟩, st493⟩ := Jvm.LawKit.callS X491 hx (y := (⟨"com/example/rollcall/rollcall/bench/MilenageXorPinLaw", "bytes", "(II)[B"⟩ : MethodName)) hown (mvT hZ (hw _ (List.mem_of_getElem? (i := 0) rfl))) (mvT hZ (hw _ (List.mem_of_getElem? (i := 1) rfl))) (mvT hZ (hw _ (List.mem_of_getElem? (i := 2) rfl))) (mvT hZ (hw _ (List.mem_of_getElem? (i := 3) rfl))) (by decide) (backOf (W := 0) (rm1_2 l Z aw hw [] p1 h491 n0 Z491 ) hZ (hw _ (List.mem_of_getElem? (i := 3) rfl)) (hw _ (List.mem_of_getElem? (i := 2) rfl)) (by decide) (by decide)) (g := (mkF m 23 #[.val (.int p0), .val (.int p1), .val (.int p2), .val (.int (1 : Int32)), .val (.int (2 : Int32)), .val (.ref cx0491), .unset, .unset, .unset] [(.int (2 : Int32)), (.int p1)])) rfl (by rw [hml]; rfl) (argsL := [(.int p1), (.int (2 : Int32))]) (rest := []) (lenOf pd_3 rfl) rfl (by show 2 * 0 + _ ≤ _; exact Nat.le_of_eq rfl) (hb hby at_23) (fun _ _ => ⟨rfl, e491, (by decide : 1 + 1 ≤ _), (by decide : 1 + 2 ≤ _)⟩)
        dsimp only [Pt.U, Pt.locs, Pt.cells, Pt.slots] at X493 l493 y493 z493 st493 hQ493
        subst l493 y493 z493
        obtain ⟨h493, e493⟩ : ∃ z, T493.heap = z := ⟨_, rfl⟩
        rw [e493] at hQ493
        obtain ⟨cx0493, cy0493, rfl, N493q, K493q, g_cx0493, zz_cx0493, f494⟩ := hQ493
        have f495 := f492.keep K493q nin0
        have ne496 : cx0491 ≠ cx0493 := Nat.ne_of_lt (Nat.lt_of_lt_of_le f492.lt zz_cx0493)
        have Z493 := Nat.le_trans Z491 K493q.1
        have N493 := Fr.app N491 N493q
        obtain ⟨_, _, ⟨T497, L497, k497, n497⟩, -, X497, ⟨Lc497, hQ497, l497, y497, z497⟩, st497⟩ := Jvm.LawKit.callS X493 hx (y := (⟨"com/example/rollcall/rollcall/bench/Milenage", "xor", "([B[B)[B"⟩ : MethodName)) hown (mvT hZ (hw _ (List.mem_of_getElem? (i := 8) rfl))) (mvT hZ (hw _ (List.mem_of_getElem? (i := 9) rfl))) (mvT hZ (hw _ (List.mem_of_getElem? (i := 10) rfl))) (mvT hZ (hw _ (List.mem_of_getElem? (i := 11) rfl))) (by decide) (backOf (W := 0) (rm3_1_2 l Z aw hw [] cx0491 cx0493 ((nar .byte (nar .byte (((p0.toUInt32 >>> (((8 : Int32) * (0 : Int32)) &&& 31).toUInt32).toInt32).toInt8.toInt32)))) ((nar .byte (nar .byte (((p1.toUInt32 >>> (((8 : Int32) * (0 : Int32)) &&& 31).toUInt32).toInt32).toInt8.toInt32)))) ((nar .byte (nar .byte (((p1.toUInt32 >>> (((8 : Int32) * (1 : Int32)) &&& 31).toUInt32).toInt32).toInt8.toInt32)))) cy0491 cy0493 h493 n0 Z493 f495 f494) hZ (hw _ (List.mem_of_getElem? (i := 11) rfl)) (hw _ (List.mem_of_getElem? (i := 10) rfl)) (by decide) (by decide)) (g := (mkF m 32 #[.val (.int p0), .val (.int p1), .val (.int p2), .val (.int (1 : Int32)), .val (.int (2 : Int32)), .val (.ref cx0491), .val (.ref cx0493), .unset, .unset] [(.ref cx0493), (.ref cx0491)])) rfl (by rw [hml]; rfl) (argsL := [(.ref cx0491), (.ref cx0493)]) (rest := []) (lenOf pd_4 rfl) rfl (by show 2 * 0 + _ ≤ _; exact Nat.le_of_eq rfl) (hb hby at_32) (fun _ _ => ⟨rfl, e493, (by decide : 2 + 1 ≤ _), (by decide : 3 + 1 ≤ _)⟩)
        dsimp only [Pt.U, Pt.locs, Pt.cells, Pt.slots] at X497 l497 y497 z497 st497 hQ497
        subst l497 y497 z497
        obtain ⟨h497, e497⟩ : ∃ z, T497.heap = z := ⟨_, rfl⟩
        rw [e497] at hQ497
        obtain ⟨cx0497, cy0497, rfl, N497q, K497q, g_cx0497, zz_cx0497, f498⟩ := hQ497
        have f499 := f495.keep K497q nin0
        have f500 := f494.keep K497q nin0
        have ne501 : cx0491 ≠ cx0497 := Nat.ne_of_lt (Nat.lt_of_lt_of_le f495.lt zz_cx0497)
        have ne502 : cx0493 ≠ cx0497 := Nat.ne_of_lt (Nat.lt_of_lt_of_le f494.lt zz_cx0497)
        have Z497 := Nat.le_trans Z493 K497q.1
        have N497 := Fr.app N493 N497q
        obtain ⟨cl503, Ar503, q503, S503, M503, H503, G503⟩ := id f498
        obtain ⟨_, _, ⟨T504, L504, k504, n504⟩, -, X504, ⟨Lc504, hQ504, l504, y504, z504⟩, st504⟩ := Jvm.LawKit.callS X497 hx (y := (⟨"com/example/rollcall/rollcall/bench/MilenageXorPinLaw", "at", "([BIII)Z"⟩ : MethodName)) hown (mvT hZ (hw _ (List.mem_of_getElem? (i := 12) rfl))) (mvT hZ (hw _ (List.mem_of_getElem? (i := 13) rfl))) (mvT hZ (hw _ (List.mem_of_getElem? (i := 2) rfl))) (mvT hZ (hw _ (List.mem_of_getElem? (i := 14) rfl))) (by decide) (backOf (W := 0) (rm4_1_0 l Z aw hw [] cx0497 p0 p1 cy0497 h497 n0 Z497 f498) hZ (hw _ (List.mem_of_getElem? (i := 14) rfl)) (hw _ (List.mem_of_getElem? (i := 2) rfl)) (by decide) (by decide)) (g := (mkF m 82 #[.val (.int p0), .val (.int p1), .val (.int p2), .val (.int (1 : Int32)), .val (.int (2 : Int32)), .val (.ref cx0491), .val (.ref cx0493), .val (.ref cx0497), .val (.int (1 : Int32))] [(.int p1), (.int p0), (.int (0 : Int32)), (.ref cx0497)])) rfl (by rw [hml]; rfl) (argsL := [(.ref cx0497), (.int (0 : Int32)), (.int p0), (.int p1)]) (rest := []) (lenOf pd_6 rfl) rfl (by show 2 * 0 + _ ≤ _; exact Nat.le_of_eq rfl) (hb hby at_82) (fun _ _ => ⟨rfl, e497, (by decide : 3 + 0 ≤ _), (by decide : 4 + 0 ≤ _)⟩)
        dsimp only [Pt.U, Pt.locs, Pt.cells, Pt.slots] at X504 l504 y504 z504 st504 hQ504
        subst l504 y504 z504
        obtain ⟨rfl, N504q, e504⟩ := hQ504
        have N504 := Fr.app N497 N504q
        obtain ⟨_, _, ⟨T505, L505, k505, n505⟩, -, X505, ⟨Lc505, hQ505, l505, y505, z505⟩, st505⟩ := Jvm.LawKit.callS X504 hx (y := (⟨"com/example/rollcall/rollcall/bench/MilenageXorPinLaw", "same", "([BII)Z"⟩ : MethodName)) hown (mvT hZ (hw _ (List.mem_of_getElem? (i := 15) rfl))) (mvT hZ (hw _ (List.mem_of_getElem? (i := 16) rfl))) (mvT hZ (hw _ (List.mem_of_getElem? (i := 2) rfl))) (mvT hZ (hw _ (List.mem_of_getElem? (i := 17) rfl))) (by decide) (backOf (W := 0) (rm5_1 l Z aw hw [] cx0491 p0 cy0491 h497 n0 Z497 f499) hZ (hw _ (List.mem_of_getElem? (i := 17) rfl)) (hw _ (List.mem_of_getElem? (i := 2) rfl)) (by decide) (by decide)) (g := (mkF m 160 #[.val (.int p0), .val (.int p1), .val (.int p2), .val (.int (1 : Int32)), .val (.int (2 : Int32)), .val (.ref cx0491), .val (.ref cx0493), .val (.ref cx0497), .val (.int (1 : Int32))] [(.int (1 : Int32)), (.int p0), (.ref cx0491)])) rfl (by rw [hml]; rfl) (argsL := [(.ref cx0491), (.int p0), (.int (1 : Int32))]) (rest := []) (lenOf pd_5 rfl) rfl (by show 2 * 0 + _ ≤ _; exact Nat.le_of_eq rfl) (hb hby at_160) (fun _ _ => ⟨rfl, e504, (by decide : 3 + 0 ≤ _), (by decide : 4 + 0 ≤ _)⟩)
        dsimp only [Pt.U, Pt.locs, Pt.cells, Pt.slots] at X505 l505 y505 z505 st505 hQ505
        subst l505 y505 z505
        obtain ⟨rfl, N505q, e505⟩ := hQ505
        have N505 := Fr.app N504 N505q
        obtain ⟨_, _, ⟨T506, L506, k506, n506⟩, -, X506, ⟨Lc506, hQ506, l506, y506, z506⟩, st506⟩ := Jvm.LawKit.callS X505 hx (y := (⟨"com/example/rollcall/rollcall/bench/MilenageXorPinLaw", "same", "([BII)Z"⟩ : MethodName)) hown (mvT hZ (hw _ (List.mem_of_getElem? (i := 15) rfl))) (mvT hZ (hw _ (List.mem_of_getElem? (i := 16) rfl))) (mvT hZ (hw _ (List.mem_of_getElem? (i := 2) rfl))) (mvT hZ (hw _ (List.mem_of_getElem? (i := 17) rfl))) (by decide) (backOf (W := 0) (rm5_2 l Z aw hw [] cx0493 p1 cy0493 h497 n0 Z497 f500) hZ (hw _ (List.mem_of_getElem? (i := 17) rfl)) (hw _ (List.mem_of_getElem? (i := 2) rfl)) (by decide) (by decide)) (g := (mkF m 171 #[.val (.int p0), .val (.int p1), .val (.int p2), .val (.int (1 : Int32)), .val (.int (2 : Int32)), .val (.ref cx0491), .val (.ref cx0493), .val (.ref cx0497), .val (.int (1 : Int32))] [(.int (2 : Int32)), (.int p1), (.ref cx0493)])) rfl (by rw [hml]; rfl) (argsL := [(.ref cx0493), (.int p1), (.int (2 : Int32))]) (rest := []) (lenOf pd_5 rfl) rfl (by show 2 * 0 + _ ≤ _; exact Nat.le_of_eq rfl) (hb hby at_171) (fun _ _ => ⟨rfl, e505, (by decide : 3 + 0 ≤ _), (by decide : 4 + 0 ≤ _)⟩)
        dsimp only [Pt.U, Pt.locs, Pt.cells, Pt.slots] at X506 l506 y506 z506 st506 hQ506
        subst l506 y506 z506
        obtain ⟨rfl, N506q, e506⟩ := hQ506
        have N506 := Fr.app N505 N506q
        obtain ⟨fs, hr, hrun, hended, hW, hsame⟩ := X506.leave (v := some (.int (1 : Int32))) (fun h => by rw [Bd.returns] at h; cases h)
        refine ⟨_, _, pre490 _ ?_, hrun, hended, _, _, rfl, ?_, ⟨_, rfl⟩, hW, hsame.mono (by decide) (by decide)⟩
        · skip
          show Steps p.tables e below (s₁.setTop (mkF m 10 #[.val (.int p0), .val (.int p1), .val (.int p2), .val (.int (1 : Int32)), .unset, .unset, .unset, .unset, .unset] [(.int (1 : Int32)), (.int (1 : Int32))])) _
          refine XS.iadd X0.here hx rfl (hb hby at_10) rfl ?_
          show Steps p.tables e below (s₁.setTop (mkF m 11 #[.val (.int p0), .val (.int p1), .val (.int p2), .val (.int (1 : Int32)), .unset, .unset, .unset, .unset, .unset] [(.int (2 : Int32))])) _
          refine XS.istore X0.here hx rfl (hb hby at_11) rfl (l' := #[.val (.int p0), .val (.int p1), .val (.int p2), .val (.int (1 : Int32)), .val (.int (2 : Int32)), .unset, .unset, .unset, .unset]) rfl ?_
          show Steps p.tables e below (s₁.setTop (mkF m 13 #[.val (.int p0), .val (.int p1), .val (.int p2), .val (.int (1 : Int32)), .val (.int (2 : Int32)), .unset, .unset, .unset, .unset] [])) _
          refine XS.iloadN X0.here hx rfl (hb hby at_13) rfl ?_
          show Steps p.tables e below (s₁.setTop (mkF m 14 #[.val (.int p0), .val (.int p1), .val (.int p2), .val (.int (1 : Int32)), .val (.int (2 : Int32)), .unset, .unset, .unset, .unset] [(.int p0)])) _
          refine XS.iloadN X0.here hx rfl (hb hby at_14) rfl ?_
          show Steps p.tables e below (s₁.setTop (mkF m 15 #[.val (.int p0), .val (.int p1), .val (.int p2), .val (.int (1 : Int32)), .val (.int (2 : Int32)), .unset, .unset, .unset, .unset] [(.int (1 : Int32)), (.int p0)])) _
          refine st491 _ ?_
          show Steps p.tables e below (T491.setTop (mkF m 18 #[.val (.int p0), .val (.int p1), .val (.int p2), .val (.int (1 : Int32)), .val (.int (2 : Int32)), .unset, .unset, .unset, .unset] [(.ref cx0491)])) _
          refine XS.astore X491.here hx rfl (hb hby at_18) rfl rfl (l' := #[.val (.int p0), .val (.int p1), .val (.int p2), .val (.int (1 : Int32)), .val (.int (2 : Int32)), .val (.ref cx0491), .unset, .unset, .unset]) rfl ?_
          show Steps p.tables e below (T491.setTop (mkF m 20 #[.val (.int p0), .val (.int p1), .val (.int p2), .val (.int (1 : Int32)), .val (.int (2 : Int32)), .val (.ref cx0491), .unset, .unset, .unset] [])) _
          refine XS.iloadN X491.here hx rfl (hb hby at_20) rfl ?_
          show Steps p.tables e below (T491.setTop (mkF m 21 #[.val (.int p0), .val (.int p1), .val (.int p2), .val (.int (1 : Int32)), .val (.int (2 : Int32)), .val (.ref cx0491), .unset, .unset, .unset] [(.int p1)])) _
          refine XS.iload X491.here hx rfl (hb hby at_21) rfl ?_
          show Steps p.tables e below (T491.setTop (mkF m 23 #[.val (.int p0), .val (.int p1), .val (.int p2), .val (.int (1 : Int32)), .val (.int (2 : Int32)), .val (.ref cx0491), .unset, .unset, .unset] [(.int (2 : Int32)), (.int p1)])) _
          refine st493 _ ?_
          show Steps p.tables e below (T493.setTop (mkF m 26 #[.val (.int p0), .val (.int p1), .val (.int p2), .val (.int (1 : Int32)), .val (.int (2 : Int32)), .val (.ref cx0491), .unset, .unset, .unset] [(.ref cx0493)])) _
          refine XS.astore X493.here hx rfl (hb hby at_26) rfl rfl (l' := #[.val (.int p0), .val (.int p1), .val (.int p2), .val (.int (1 : Int32)), .val (.int (2 : Int32)), .val (.ref cx0491), .val (.ref cx0493), .unset, .unset]) rfl ?_
          show Steps p.tables e below (T493.setTop (mkF m 28 #[.val (.int p0), .val (.int p1), .val (.int p2), .val (.int (1 : Int32)), .val (.int (2 : Int32)), .val (.ref cx0491), .val (.ref cx0493), .unset, .unset] [])) _
          refine XS.aload X493.here hx rfl (hb hby at_28) rfl rfl ?_
          show Steps p.tables e below (T493.setTop (mkF m 30 #[.val (.int p0), .val (.int p1), .val (.int p2), .val (.int (1 : Int32)), .val (.int (2 : Int32)), .val (.ref cx0491), .val (.ref cx0493), .unset, .unset] [(.ref cx0491)])) _
          refine XS.aload X493.here hx rfl (hb hby at_30) rfl rfl ?_
          show Steps p.tables e below (T493.setTop (mkF m 32 #[.val (.int p0), .val (.int p1), .val (.int p2), .val (.int (1 : Int32)), .val (.int (2 : Int32)), .val (.ref cx0491), .val (.ref cx0493), .unset, .unset] [(.ref cx0493), (.ref cx0491)])) _
          refine st497 _ ?_
          show Steps p.tables e below (T497.setTop (mkF m 35 #[.val (.int p0), .val (.int p1), .val (.int p2), .val (.int (1 : Int32)), .val (.int (2 : Int32)), .val (.ref cx0491), .val (.ref cx0493), .unset, .unset] [(.ref cx0497)])) _
          refine XS.astore X497.here hx rfl (hb hby at_35) rfl rfl (l' := #[.val (.int p0), .val (.int p1), .val (.int p2), .val (.int (1 : Int32)), .val (.int (2 : Int32)), .val (.ref cx0491), .val (.ref cx0493), .val (.ref cx0497), .unset]) rfl ?_
          show Steps p.tables e below (T497.setTop (mkF m 37 #[.val (.int p0), .val (.int p1), .val (.int p2), .val (.int (1 : Int32)), .val (.int (2 : Int32)), .val (.ref cx0491), .val (.ref cx0493), .val (.ref cx0497), .unset] [])) _
          refine XS.aload X497.here hx rfl (hb hby at_37) rfl rfl ?_
          show Steps p.tables e below (T497.setTop (mkF m 39 #[.val (.int p0), .val (.int p1), .val (.int p2), .val (.int (1 : Int32)), .val (.int (2 : Int32)), .val (.ref cx0491), .val (.ref cx0493), .val (.ref cx0497), .unset] [(.ref cx0497)])) _
          refine XS.ifnullNo X497.here hx rfl (hb hby at_39) rfl ?_
          show Steps p.tables e below (T497.setTop (mkF m 42 #[.val (.int p0), .val (.int p1), .val (.int p2), .val (.int (1 : Int32)), .val (.int (2 : Int32)), .val (.ref cx0491), .val (.ref cx0493), .val (.ref cx0497), .unset] [])) _
          refine XS.aload X497.here hx rfl (hb hby at_42) rfl rfl ?_
          show Steps p.tables e below (T497.setTop (mkF m 44 #[.val (.int p0), .val (.int p1), .val (.int p2), .val (.int (1 : Int32)), .val (.int (2 : Int32)), .val (.ref cx0491), .val (.ref cx0493), .val (.ref cx0497), .unset] [(.ref cx0497)])) _
          refine X497.arraylength hx (by rw [e497]; exact Ar503.1) (State.isArrayOf_alike hZ.alike Ar503.2.1) (g := (mkF m 44 #[.val (.int p0), .val (.int p1), .val (.int p2), .val (.int (1 : Int32)), .val (.int (2 : Int32)), .val (.ref cx0491), .val (.ref cx0493), .val (.ref cx0497), .unset] [(.ref cx0497)])) rfl rfl (hb hby at_44) _ ?_
          rw [len_of S503 M503]
          show Steps p.tables e below (T497.setTop (mkF m 45 #[.val (.int p0), .val (.int p1), .val (.int p2), .val (.int (1 : Int32)), .val (.int (2 : Int32)), .val (.ref cx0491), .val (.ref cx0493), .val (.ref cx0497), .unset] [(.int (1 : Int32))])) _
          refine XS.iloadN X497.here hx rfl (hb hby at_45) rfl ?_
          show Steps p.tables e below (T497.setTop (mkF m 46 #[.val (.int p0), .val (.int p1), .val (.int p2), .val (.int (1 : Int32)), .val (.int (2 : Int32)), .val (.ref cx0491), .val (.ref cx0493), .val (.ref cx0497), .unset] [(.int (1 : Int32)), (.int (1 : Int32))])) _
          refine XS.icmpNo X497.here hx rfl (hb hby at_46) rfl (teq (rfl : (1 : Int32) = (1 : Int32))).2 ?_
          show Steps p.tables e below (T497.setTop (mkF m 49 #[.val (.int p0), .val (.int p1), .val (.int p2), .val (.int (1 : Int32)), .val (.int (2 : Int32)), .val (.ref cx0491), .val (.ref cx0493), .val (.ref cx0497), .unset] [])) _
          refine XS.aload X497.here hx rfl (hb hby at_49) rfl rfl ?_
          show Steps p.tables e below (T497.setTop (mkF m 51 #[.val (.int p0), .val (.int p1), .val (.int p2), .val (.int (1 : Int32)), .val (.int (2 : Int32)), .val (.ref cx0491), .val (.ref cx0493), .val (.ref cx0497), .unset] [(.ref cx0497)])) _
          refine XS.aload X497.here hx rfl (hb hby at_51) rfl rfl ?_
          show Steps p.tables e below (T497.setTop (mkF m 53 #[.val (.int p0), .val (.int p1), .val (.int p2), .val (.int (1 : Int32)), .val (.int (2 : Int32)), .val (.ref cx0491), .val (.ref cx0493), .val (.ref cx0497), .unset] [(.ref cx0491), (.ref cx0497)])) _
          refine Jvm.RoadKit.acmp (g := (mkF m 53 #[.val (.int p0), .val (.int p1), .val (.int p2), .val (.int (1 : Int32)), .val (.int (2 : Int32)), .val (.ref cx0491), .val (.ref cx0493), .val (.ref cx0497), .unset] [(.ref cx0491), (.ref cx0497)])) X497 hx rfl rfl rfl (pc0 := 53) (pc' := 56) (same := false) rfl (hb hby at_53) rfl (decide_eq_false fun q => (Ne.symm ne501) (Value.ref.inj q)) (by decide) (by decide) ?_
          show Steps p.tables e below (T497.setTop (mkF m 56 #[.val (.int p0), .val (.int p1), .val (.int p2), .val (.int (1 : Int32)), .val (.int (2 : Int32)), .val (.ref cx0491), .val (.ref cx0493), .val (.ref cx0497), .unset] [])) _
          refine XS.aload X497.here hx rfl (hb hby at_56) rfl rfl ?_
          show Steps p.tables e below (T497.setTop (mkF m 58 #[.val (.int p0), .val (.int p1), .val (.int p2), .val (.int (1 : Int32)), .val (.int (2 : Int32)), .val (.ref cx0491), .val (.ref cx0493), .val (.ref cx0497), .unset] [(.ref cx0497)])) _
          refine XS.aload X497.here hx rfl (hb hby at_58) rfl rfl ?_
          show Steps p.tables e below (T497.setTop (mkF m 60 #[.val (.int p0), .val (.int p1), .val (.int p2), .val (.int (1 : Int32)), .val (.int (2 : Int32)), .val (.ref cx0491), .val (.ref cx0493), .val (.ref cx0497), .unset] [(.ref cx0493), (.ref cx0497)])) _
          refine Jvm.RoadKit.acmp (g := (mkF m 60 #[.val (.int p0), .val (.int p1), .val (.int p2), .val (.int (1 : Int32)), .val (.int (2 : Int32)), .val (.ref cx0491), .val (.ref cx0493), .val (.ref cx0497), .unset] [(.ref cx0493), (.ref cx0497)])) X497 hx rfl rfl rfl (pc0 := 60) (pc' := 65) (same := false) rfl (hb hby at_60) rfl (decide_eq_false fun q => (Ne.symm ne502) (Value.ref.inj q)) (by decide) (by decide) ?_
          show Steps p.tables e below (T497.setTop (mkF m 65 #[.val (.int p0), .val (.int p1), .val (.int p2), .val (.int (1 : Int32)), .val (.int (2 : Int32)), .val (.ref cx0491), .val (.ref cx0493), .val (.ref cx0497), .unset] [])) _
          refine XS.iconst X497.here hx rfl (hb hby at_65) ?_
          show Steps p.tables e below (T497.setTop (mkF m 66 #[.val (.int p0), .val (.int p1), .val (.int p2), .val (.int (1 : Int32)), .val (.int (2 : Int32)), .val (.ref cx0491), .val (.ref cx0493), .val (.ref cx0497), .unset] [(.int (1 : Int32))])) _
          refine XS.istore X497.here hx rfl (hb hby at_66) rfl (l' := #[.val (.int p0), .val (.int p1), .val (.int p2), .val (.int (1 : Int32)), .val (.int (2 : Int32)), .val (.ref cx0491), .val (.ref cx0493), .val (.ref cx0497), .val (.int (1 : Int32))]) rfl ?_
          show Steps p.tables e below (T497.setTop (mkF m 68 #[.val (.int p0), .val (.int p1), .val (.int p2), .val (.int (1 : Int32)), .val (.int (2 : Int32)), .val (.ref cx0491), .val (.ref cx0493), .val (.ref cx0497), .val (.int (1 : Int32))] [])) _
          refine XS.iloadN X497.here hx rfl (hb hby at_68) rfl ?_
          show Steps p.tables e below (T497.setTop (mkF m 69 #[.val (.int p0), .val (.int p1), .val (.int p2), .val (.int (1 : Int32)), .val (.int (2 : Int32)), .val (.ref cx0491), .val (.ref cx0493), .val (.ref cx0497), .val (.int (1 : Int32))] [(.int (1 : Int32))])) _
          refine XS.ifNo X497.here hx rfl (hb hby at_69) rfl ((if0 _ _).trans (tlt (by decide : (0 : Int32) < (1 : Int32))).2.2.2) ?_
          show Steps p.tables e below (T497.setTop (mkF m 72 #[.val (.int p0), .val (.int p1), .val (.int p2), .val (.int (1 : Int32)), .val (.int (2 : Int32)), .val (.ref cx0491), .val (.ref cx0493), .val (.ref cx0497), .val (.int (1 : Int32))] [])) _
          refine XS.iload X497.here hx rfl (hb hby at_72) rfl ?_
          show Steps p.tables e below (T497.setTop (mkF m 74 #[.val (.int p0), .val (.int p1), .val (.int p2), .val (.int (1 : Int32)), .val (.int (2 : Int32)), .val (.ref cx0491), .val (.ref cx0493), .val (.ref cx0497), .val (.int (1 : Int32))] [(.int (1 : Int32))])) _
          refine XS.ifNo X497.here hx rfl (hb hby at_74) rfl ((if0 _ _).trans (feq (by decide : ¬ ((1 : Int32) = (0 : Int32)))).1) ?_
          show Steps p.tables e below (T497.setTop (mkF m 77 #[.val (.int p0), .val (.int p1), .val (.int p2), .val (.int (1 : Int32)), .val (.int (2 : Int32)), .val (.ref cx0491), .val (.ref cx0493), .val (.ref cx0497), .val (.int (1 : Int32))] [])) _
          refine XS.aload X497.here hx rfl (hb hby at_77) rfl rfl ?_
          show Steps p.tables e below (T497.setTop (mkF m 79 #[.val (.int p0), .val (.int p1), .val (.int p2), .val (.int (1 : Int32)), .val (.int (2 : Int32)), .val (.ref cx0491), .val (.ref cx0493), .val (.ref cx0497), .val (.int (1 : Int32))] [(.ref cx0497)])) _
          refine XS.iconst X497.here hx rfl (hb hby at_79) ?_
          show Steps p.tables e below (T497.setTop (mkF m 80 #[.val (.int p0), .val (.int p1), .val (.int p2), .val (.int (1 : Int32)), .val (.int (2 : Int32)), .val (.ref cx0491), .val (.ref cx0493), .val (.ref cx0497), .val (.int (1 : Int32))] [(.int (0 : Int32)), (.ref cx0497)])) _
          refine XS.iloadN X497.here hx rfl (hb hby at_80) rfl ?_
          show Steps p.tables e below (T497.setTop (mkF m 81 #[.val (.int p0), .val (.int p1), .val (.int p2), .val (.int (1 : Int32)), .val (.int (2 : Int32)), .val (.ref cx0491), .val (.ref cx0493), .val (.ref cx0497), .val (.int (1 : Int32))] [(.int p0), (.int (0 : Int32)), (.ref cx0497)])) _
          refine XS.iloadN X497.here hx rfl (hb hby at_81) rfl ?_
          show Steps p.tables e below (T497.setTop (mkF m 82 #[.val (.int p0), .val (.int p1), .val (.int p2), .val (.int (1 : Int32)), .val (.int (2 : Int32)), .val (.ref cx0491), .val (.ref cx0493), .val (.ref cx0497), .val (.int (1 : Int32))] [(.int p1), (.int p0), (.int (0 : Int32)), (.ref cx0497)])) _
          refine st504 _ ?_
          show Steps p.tables e below (T504.setTop (mkF m 85 #[.val (.int p0), .val (.int p1), .val (.int p2), .val (.int (1 : Int32)), .val (.int (2 : Int32)), .val (.ref cx0491), .val (.ref cx0493), .val (.ref cx0497), .val (.int (1 : Int32))] [(.int (1 : Int32))])) _
          refine XS.ifNo X504.here hx rfl (hb hby at_85) rfl ((if0 _ _).trans (feq (by decide : ¬ ((1 : Int32) = (0 : Int32)))).1) ?_
          show Steps p.tables e below (T504.setTop (mkF m 88 #[.val (.int p0), .val (.int p1), .val (.int p2), .val (.int (1 : Int32)), .val (.int (2 : Int32)), .val (.ref cx0491), .val (.ref cx0493), .val (.ref cx0497), .val (.int (1 : Int32))] [])) _
          refine XS.iconst X504.here hx rfl (hb hby at_88) ?_
          show Steps p.tables e below (T504.setTop (mkF m 89 #[.val (.int p0), .val (.int p1), .val (.int p2), .val (.int (1 : Int32)), .val (.int (2 : Int32)), .val (.ref cx0491), .val (.ref cx0493), .val (.ref cx0497), .val (.int (1 : Int32))] [(.int (1 : Int32))])) _
          refine XS.goto X504.here hx rfl (pc0 := 89) (pc' := 93) rfl (hb hby at_89) (by decide) (by decide) ?_
          show Steps p.tables e below (T504.setTop (mkF m 93 #[.val (.int p0), .val (.int p1), .val (.int p2), .val (.int (1 : Int32)), .val (.int (2 : Int32)), .val (.ref cx0491), .val (.ref cx0493), .val (.ref cx0497), .val (.int (1 : Int32))] [(.int (1 : Int32))])) _
          refine XS.istore X504.here hx rfl (hb hby at_93) rfl (l' := #[.val (.int p0), .val (.int p1), .val (.int p2), .val (.int (1 : Int32)), .val (.int (2 : Int32)), .val (.ref cx0491), .val (.ref cx0493), .val (.ref cx0497), .val (.int (1 : Int32))]) rfl ?_
          show Steps p.tables e below (T504.setTop (mkF m 95 #[.val (.int p0), .val (.int p1), .val (.int p2), .val (.int (1 : Int32)), .val (.int (2 : Int32)), .val (.ref cx0491), .val (.ref cx0493), .val (.ref cx0497), .val (.int (1 : Int32))] [])) _
          refine XS.iloadN X504.here hx rfl (hb hby at_95) rfl ?_
          show Steps p.tables e below (T504.setTop (mkF m 96 #[.val (.int p0), .val (.int p1), .val (.int p2), .val (.int (1 : Int32)), .val (.int (2 : Int32)), .val (.ref cx0491), .val (.ref cx0493), .val (.ref cx0497), .val (.int (1 : Int32))] [(.int (1 : Int32))])) _
          refine XS.iconst X504.here hx rfl (hb hby at_96) ?_
          show Steps p.tables e below (T504.setTop (mkF m 97 #[.val (.int p0), .val (.int p1), .val (.int p2), .val (.int (1 : Int32)), .val (.int (2 : Int32)), .val (.ref cx0491), .val (.ref cx0493), .val (.ref cx0497), .val (.int (1 : Int32))] [(.int (1 : Int32)), (.int (1 : Int32))])) _
          refine XS.icmpYes X504.here hx rfl (pc0 := 97) (pc' := 123) rfl (hb hby at_97) rfl (flt (by decide : ¬ ((1 : Int32) < (1 : Int32)))).2.2.2 (by decide) (by decide) ?_
          show Steps p.tables e below (T504.setTop (mkF m 123 #[.val (.int p0), .val (.int p1), .val (.int p2), .val (.int (1 : Int32)), .val (.int (2 : Int32)), .val (.ref cx0491), .val (.ref cx0493), .val (.ref cx0497), .val (.int (1 : Int32))] [])) _
          refine XS.iloadN X504.here hx rfl (hb hby at_123) rfl ?_
          show Steps p.tables e below (T504.setTop (mkF m 124 #[.val (.int p0), .val (.int p1), .val (.int p2), .val (.int (1 : Int32)), .val (.int (2 : Int32)), .val (.ref cx0491), .val (.ref cx0493), .val (.ref cx0497), .val (.int (1 : Int32))] [(.int (1 : Int32))])) _
          refine XS.iconst X504.here hx rfl (hb hby at_124) ?_
          show Steps p.tables e below (T504.setTop (mkF m 125 #[.val (.int p0), .val (.int p1), .val (.int p2), .val (.int (1 : Int32)), .val (.int (2 : Int32)), .val (.ref cx0491), .val (.ref cx0493), .val (.ref cx0497), .val (.int (1 : Int32))] [(.int (2 : Int32)), (.int (1 : Int32))])) _
          refine XS.icmpYes X504.here hx rfl (pc0 := 125) (pc' := 151) rfl (hb hby at_125) rfl (flt (by decide : ¬ ((2 : Int32) < (1 : Int32)))).2.2.2 (by decide) (by decide) ?_
          show Steps p.tables e below (T504.setTop (mkF m 151 #[.val (.int p0), .val (.int p1), .val (.int p2), .val (.int (1 : Int32)), .val (.int (2 : Int32)), .val (.ref cx0491), .val (.ref cx0493), .val (.ref cx0497), .val (.int (1 : Int32))] [])) _
          refine XS.iload X504.here hx rfl (hb hby at_151) rfl ?_
          show Steps p.tables e below (T504.setTop (mkF m 153 #[.val (.int p0), .val (.int p1), .val (.int p2), .val (.int (1 : Int32)), .val (.int (2 : Int32)), .val (.ref cx0491), .val (.ref cx0493), .val (.ref cx0497), .val (.int (1 : Int32))] [(.int (1 : Int32))])) _
          refine XS.ifNo X504.here hx rfl (hb hby at_153) rfl ((if0 _ _).trans (feq (by decide : ¬ ((1 : Int32) = (0 : Int32)))).1) ?_
          show Steps p.tables e below (T504.setTop (mkF m 156 #[.val (.int p0), .val (.int p1), .val (.int p2), .val (.int (1 : Int32)), .val (.int (2 : Int32)), .val (.ref cx0491), .val (.ref cx0493), .val (.ref cx0497), .val (.int (1 : Int32))] [])) _
          refine XS.aload X504.here hx rfl (hb hby at_156) rfl rfl ?_
          show Steps p.tables e below (T504.setTop (mkF m 158 #[.val (.int p0), .val (.int p1), .val (.int p2), .val (.int (1 : Int32)), .val (.int (2 : Int32)), .val (.ref cx0491), .val (.ref cx0493), .val (.ref cx0497), .val (.int (1 : Int32))] [(.ref cx0491)])) _
          refine XS.iloadN X504.here hx rfl (hb hby at_158) rfl ?_
          show Steps p.tables e below (T504.setTop (mkF m 159 #[.val (.int p0), .val (.int p1), .val (.int p2), .val (.int (1 : Int32)), .val (.int (2 : Int32)), .val (.ref cx0491), .val (.ref cx0493), .val (.ref cx0497), .val (.int (1 : Int32))] [(.int p0), (.ref cx0491)])) _
          refine XS.iloadN X504.here hx rfl (hb hby at_159) rfl ?_
          show Steps p.tables e below (T504.setTop (mkF m 160 #[.val (.int p0), .val (.int p1), .val (.int p2), .val (.int (1 : Int32)), .val (.int (2 : Int32)), .val (.ref cx0491), .val (.ref cx0493), .val (.ref cx0497), .val (.int (1 : Int32))] [(.int (1 : Int32)), (.int p0), (.ref cx0491)])) _
          refine st505 _ ?_
          show Steps p.tables e below (T505.setTop (mkF m 163 #[.val (.int p0), .val (.int p1), .val (.int p2), .val (.int (1 : Int32)), .val (.int (2 : Int32)), .val (.ref cx0491), .val (.ref cx0493), .val (.ref cx0497), .val (.int (1 : Int32))] [(.int (1 : Int32))])) _
          refine XS.ifNo X505.here hx rfl (hb hby at_163) rfl ((if0 _ _).trans (feq (by decide : ¬ ((1 : Int32) = (0 : Int32)))).1) ?_
          show Steps p.tables e below (T505.setTop (mkF m 166 #[.val (.int p0), .val (.int p1), .val (.int p2), .val (.int (1 : Int32)), .val (.int (2 : Int32)), .val (.ref cx0491), .val (.ref cx0493), .val (.ref cx0497), .val (.int (1 : Int32))] [])) _
          refine XS.aload X505.here hx rfl (hb hby at_166) rfl rfl ?_
          show Steps p.tables e below (T505.setTop (mkF m 168 #[.val (.int p0), .val (.int p1), .val (.int p2), .val (.int (1 : Int32)), .val (.int (2 : Int32)), .val (.ref cx0491), .val (.ref cx0493), .val (.ref cx0497), .val (.int (1 : Int32))] [(.ref cx0493)])) _
          refine XS.iloadN X505.here hx rfl (hb hby at_168) rfl ?_
          show Steps p.tables e below (T505.setTop (mkF m 169 #[.val (.int p0), .val (.int p1), .val (.int p2), .val (.int (1 : Int32)), .val (.int (2 : Int32)), .val (.ref cx0491), .val (.ref cx0493), .val (.ref cx0497), .val (.int (1 : Int32))] [(.int p1), (.ref cx0493)])) _
          refine XS.iload X505.here hx rfl (hb hby at_169) rfl ?_
          show Steps p.tables e below (T505.setTop (mkF m 171 #[.val (.int p0), .val (.int p1), .val (.int p2), .val (.int (1 : Int32)), .val (.int (2 : Int32)), .val (.ref cx0491), .val (.ref cx0493), .val (.ref cx0497), .val (.int (1 : Int32))] [(.int (2 : Int32)), (.int p1), (.ref cx0493)])) _
          refine st506 _ ?_
          show Steps p.tables e below (T506.setTop (mkF m 174 #[.val (.int p0), .val (.int p1), .val (.int p2), .val (.int (1 : Int32)), .val (.int (2 : Int32)), .val (.ref cx0491), .val (.ref cx0493), .val (.ref cx0497), .val (.int (1 : Int32))] [(.int (1 : Int32))])) _
          refine XS.ifNo X506.here hx rfl (hb hby at_174) rfl ((if0 _ _).trans (feq (by decide : ¬ ((1 : Int32) = (0 : Int32)))).1) ?_
          show Steps p.tables e below (T506.setTop (mkF m 177 #[.val (.int p0), .val (.int p1), .val (.int p2), .val (.int (1 : Int32)), .val (.int (2 : Int32)), .val (.ref cx0491), .val (.ref cx0493), .val (.ref cx0497), .val (.int (1 : Int32))] [])) _
          refine XS.iconst X506.here hx rfl (hb hby at_177) ?_
          show Steps p.tables e below (T506.setTop (mkF m 178 #[.val (.int p0), .val (.int p1), .val (.int p2), .val (.int (1 : Int32)), .val (.int (2 : Int32)), .val (.ref cx0491), .val (.ref cx0493), .val (.ref cx0497), .val (.int (1 : Int32))] [(.int (1 : Int32))])) _
          refine XS.goto X506.here hx rfl (pc0 := 178) (pc' := 182) rfl (hb hby at_178) (by decide) (by decide) ?_
          show Steps p.tables e below (T506.setTop (mkF m 182 #[.val (.int p0), .val (.int p1), .val (.int p2), .val (.int (1 : Int32)), .val (.int (2 : Int32)), .val (.ref cx0491), .val (.ref cx0493), .val (.ref cx0497), .val (.int (1 : Int32))] [(.int (1 : Int32))])) _
          exact retN X506 hx (t := .boolean) Bd.returns (by simp) (hb hby at_182) hr
        · show Q0 Z p0 p1 p2 h0 n0 _ T506.heap _
          rw [e506]
          have hv : (1 : Int32) = (v0 p2) := by unfold v0; first | (rw [if_neg hs431, if_pos hs468, if_neg hs471]) | (simp only [if_neg hs431, if_pos hs468, if_neg hs471])
          exact ⟨(by rw [← hv]), N506⟩
    · skip
      by_cases hs507 : (p2 &&& (3 : Int32)) = (2 : Int32)
      · skip
        have pre508 := fun (t : State) (k : Steps p.tables e below (s₁.setTop (mkF m 4 #[.val (.int p0), .val (.int p1), .val (.int p2), .val (.int (2 : Int32)), .unset, .unset, .unset, .unset, .unset] [])) t) => pre430 t (by show Steps p.tables e below (s₁.setTop (mkF m 4 #[.val (.int p0), .val (.int p1), .val (.int p2), .val (.int (p2 &&& (3 : Int32))), .unset, .unset, .unset, .unset, .unset] [])) t; rw [hs507]; exact k)
        have pre509 := fun (t : State) (k : Steps p.tables e below (s₁.setTop (mkF m 10 #[.val (.int p0), .val (.int p1), .val (.int p2), .val (.int (2 : Int32)), .unset, .unset, .unset, .unset, .unset] [(.int (((p2.toUInt32 >>> ((2 : Int32) &&& 31).toUInt32).toInt32) &&& (1 : Int32))), (.int (2 : Int32))])) t) => pre508 t (by
          show Steps p.tables e below (s₁.setTop (mkF m 4 #[.val (.int p0), .val (.int p1), .val (.int p2), .val (.int (2 : Int32)), .unset, .unset, .unset, .unset, .unset] [])) _
          refine XS.iloadN X0.here hx rfl (hb hby at_4) rfl ?_
          show Steps p.tables e below (s₁.setTop (mkF m 5 #[.val (.int p0), .val (.int p1), .val (.int p2), .val (.int (2 : Int32)), .unset, .unset, .unset, .unset, .unset] [(.int (2 : Int32))])) _
          refine XS.iloadN X0.here hx rfl (hb hby at_5) rfl ?_
          show Steps p.tables e below (s₁.setTop (mkF m 6 #[.val (.int p0), .val (.int p1), .val (.int p2), .val (.int (2 : Int32)), .unset, .unset, .unset, .unset, .unset] [(.int p2), (.int (2 : Int32))])) _
          refine XS.iconst X0.here hx rfl (hb hby at_6) ?_
          show Steps p.tables e below (s₁.setTop (mkF m 7 #[.val (.int p0), .val (.int p1), .val (.int p2), .val (.int (2 : Int32)), .unset, .unset, .unset, .unset, .unset] [(.int (2 : Int32)), (.int p2), (.int (2 : Int32))])) _
          refine XS.iushr X0.here hx rfl (hb hby at_7) rfl ?_
          show Steps p.tables e below (s₁.setTop (mkF m 8 #[.val (.int p0), .val (.int p1), .val (.int p2), .val (.int (2 : Int32)), .unset, .unset, .unset, .unset, .unset] [(.int ((p2.toUInt32 >>> ((2 : Int32) &&& 31).toUInt32).toInt32)), (.int (2 : Int32))])) _
          refine XS.iconst X0.here hx rfl (hb hby at_8) ?_
          show Steps p.tables e below (s₁.setTop (mkF m 9 #[.val (.int p0), .val (.int p1), .val (.int p2), .val (.int (2 : Int32)), .unset, .unset, .unset, .unset, .unset] [(.int (1 : Int32)), (.int ((p2.toUInt32 >>> ((2 : Int32) &&& 31).toUInt32).toInt32)), (.int (2 : Int32))])) _
          refine XS.iand X0.here hx rfl (hb hby at_9) rfl ?_
          exact k)
        by_cases hs510 : (((p2.toUInt32 >>> ((2 : Int32) &&& 31).toUInt32).toInt32) &&& (1 : Int32)) = (0 : Int32)
        · skip
          have pre511 := fun (t : State) (k : Steps p.tables e below (s₁.setTop (mkF m 10 #[.val (.int p0), .val (.int p1), .val (.int p2), .val (.int (2 : Int32)), .unset, .unset, .unset, .unset, .unset] [(.int (0 : Int32)), (.int (2 : Int32))])) t) => pre509 t (by show Steps p.tables e below (s₁.setTop (mkF m 10 #[.val (.int p0), .val (.int p1), .val (.int p2), .val (.int (2 : Int32)), .unset, .unset, .unset, .unset, .unset] [(.int (((p2.toUInt32 >>> ((2 : Int32) &&& 31).toUInt32).toInt32) &&& (1 : Int32))), (.int (2 : Int32))])) t; rw [hs510]; exact k)
          obtain ⟨_, _, ⟨T512, L512, k512, n512⟩, -, X512, ⟨Lc512, hQ512, l512, y512, z512⟩, st512⟩ := Jvm.LawKit.callS X0 hx (y := (⟨"com/example/rollcall/rollcall/bench/MilenageXorPinLaw", "bytes", "(II)[B"⟩ : MethodName)) hown (mvT hZ (hw _ (List.mem_of_getElem? (i := 0) rfl))) (mvT hZ (hw _ (List.mem_of_getElem? (i := 1) rfl))) (mvT hZ (hw _ (List.mem_of_getElem? (i := 2) rfl))) (mvT hZ (hw _ (List.mem_of_getElem? (i := 3) rfl))) (by decide) (backOf (W := 0) (rm1_2 l Z aw hw [] p0 h0 n0 Z0 ) hZ (hw _ (List.mem_of_getElem? (i := 3) rfl)) (hw _ (List.mem_of_getElem? (i := 2) rfl)) (by decide) (by decide)) (g := (mkF m 15 #[.val (.int p0), .val (.int p1), .val (.int p2), .val (.int (2 : Int32)), .val (.int (2 : Int32)), .unset, .unset, .unset, .unset] [(.int (2 : Int32)), (.int p0)])) rfl (by rw [hml]; rfl) (argsL := [(.int p0), (.int (2 : Int32))]) (rest := []) (lenOf pd_3 rfl) rfl (by show 2 * 0 + _ ≤ _; exact Nat.le_of_eq rfl) (hb hby at_15) (fun _ _ => ⟨rfl, e0, (by decide : 0 + 1 ≤ _), (by decide : 0 + 2 ≤ _)⟩)
          dsimp only [Pt.U, Pt.locs, Pt.cells, Pt.slots] at X512 l512 y512 z512 st512 hQ512
          subst l512 y512 z512
          obtain ⟨h512, e512⟩ : ∃ z, T512.heap = z := ⟨_, rfl⟩
          rw [e512] at hQ512
          obtain ⟨cx0512, cy0512, rfl, N512q, K512q, g_cx0512, zz_cx0512, f513⟩ := hQ512
          have Z512 := Nat.le_trans Z0 K512q.1
          have N512 := Fr.app N0 N512q
          obtain ⟨_, _, ⟨T514, L514, k514, n514⟩, -, X514, ⟨Lc514, hQ514, l514, y514, z514⟩, st514⟩ := Jvm.LawKit.callS X512 hx (y := (⟨"com/example/rollcall/rollcall/bench/MilenageXorPinLaw", "bytes", "(II)[B"⟩ : MethodName)) hown (mvT hZ (hw _ (List.mem_of_getElem? (i := 0) rfl))) (mvT hZ (hw _ (List.mem_of_getElem? (i := 1) rfl))) (mvT hZ (hw _ (List.mem_of_getElem? (i := 2) rfl))) (mvT hZ (hw _ (List.mem_of_getElem? (i := 3) rfl))) (by decide) (backOf (W := 0) (rm1_2 l Z aw hw [] p1 h512 n0 Z512 ) hZ (hw _ (List.mem_of_getElem? (i := 3) rfl)) (hw _ (List.mem_of_getElem? (i := 2) rfl)) (by decide) (by decide)) (g := (mkF m 23 #[.val (.int p0), .val (.int p1), .val (.int p2), .val (.int (2 : Int32)), .val (.int (2 : Int32)), .val (.ref cx0512), .unset, .unset, .unset] [(.int (2 : Int32)), (.int p1)])) rfl (by rw [hml]; rfl) (argsL := [(.int p1), (.int (2 : Int32))]) (rest := []) (lenOf pd_3 rfl) rfl (by show 2 * 0 + _ ≤ _; exact Nat.le_of_eq rfl) (hb hby at_23) (fun _ _ => ⟨rfl, e512, (by decide : 1 + 1 ≤ _), (by decide : 2 + 2 ≤ _)⟩)
          dsimp only [Pt.U, Pt.locs, Pt.cells, Pt.slots] at X514 l514 y514 z514 st514 hQ514
          subst l514 y514 z514
          obtain ⟨h514, e514⟩ : ∃ z, T514.heap = z := ⟨_, rfl⟩
          rw [e514] at hQ514
          obtain ⟨cx0514, cy0514, rfl, N514q, K514q, g_cx0514, zz_cx0514, f515⟩ := hQ514
          have f516 := f513.keep K514q nin0
          have ne517 : cx0512 ≠ cx0514 := Nat.ne_of_lt (Nat.lt_of_lt_of_le f513.lt zz_cx0514)
          have Z514 := Nat.le_trans Z512 K514q.1
          have N514 := Fr.app N512 N514q
          obtain ⟨_, _, ⟨T518, L518, k518, n518⟩, -, X518, ⟨Lc518, hQ518, l518, y518, z518⟩, st518⟩ := Jvm.LawKit.callS X514 hx (y := (⟨"com/example/rollcall/rollcall/bench/Milenage", "xor", "([B[B)[B"⟩ : MethodName)) hown (mvT hZ (hw _ (List.mem_of_getElem? (i := 8) rfl))) (mvT hZ (hw _ (List.mem_of_getElem? (i := 9) rfl))) (mvT hZ (hw _ (List.mem_of_getElem? (i := 10) rfl))) (mvT hZ (hw _ (List.mem_of_getElem? (i := 11) rfl))) (by decide) (backOf (W := 0) (rm3_2_2 l Z aw hw [] cx0512 cx0514 ((nar .byte (nar .byte (((p0.toUInt32 >>> (((8 : Int32) * (0 : Int32)) &&& 31).toUInt32).toInt32).toInt8.toInt32)))) ((nar .byte (nar .byte (((p0.toUInt32 >>> (((8 : Int32) * (1 : Int32)) &&& 31).toUInt32).toInt32).toInt8.toInt32)))) ((nar .byte (nar .byte (((p1.toUInt32 >>> (((8 : Int32) * (0 : Int32)) &&& 31).toUInt32).toInt32).toInt8.toInt32)))) ((nar .byte (nar .byte (((p1.toUInt32 >>> (((8 : Int32) * (1 : Int32)) &&& 31).toUInt32).toInt32).toInt8.toInt32)))) cy0512 cy0514 h514 n0 Z514 f516 f515) hZ (hw _ (List.mem_of_getElem? (i := 11) rfl)) (hw _ (List.mem_of_getElem? (i := 10) rfl)) (by decide) (by decide)) (g := (mkF m 32 #[.val (.int p0), .val (.int p1), .val (.int p2), .val (.int (2 : Int32)), .val (.int (2 : Int32)), .val (.ref cx0512), .val (.ref cx0514), .unset, .unset] [(.ref cx0514), (.ref cx0512)])) rfl (by rw [hml]; rfl) (argsL := [(.ref cx0512), (.ref cx0514)]) (rest := []) (lenOf pd_4 rfl) rfl (by show 2 * 0 + _ ≤ _; exact Nat.le_of_eq rfl) (hb hby at_32) (fun _ _ => ⟨rfl, e514, (by decide : 2 + 1 ≤ _), (by decide : 4 + 2 ≤ _)⟩)
          dsimp only [Pt.U, Pt.locs, Pt.cells, Pt.slots] at X518 l518 y518 z518 st518 hQ518
          subst l518 y518 z518
          obtain ⟨h518, e518⟩ : ∃ z, T518.heap = z := ⟨_, rfl⟩
          rw [e518] at hQ518
          obtain ⟨cx0518, cy0518, rfl, N518q, K518q, g_cx0518, zz_cx0518, f519⟩ := hQ518
          have f520 := f516.keep K518q nin0
          have f521 := f515.keep K518q nin0
          have ne522 : cx0512 ≠ cx0518 := Nat.ne_of_lt (Nat.lt_of_lt_of_le f516.lt zz_cx0518)
          have ne523 : cx0514 ≠ cx0518 := Nat.ne_of_lt (Nat.lt_of_lt_of_le f515.lt zz_cx0518)
          have Z518 := Nat.le_trans Z514 K518q.1
          have N518 := Fr.app N514 N518q
          obtain ⟨cl524, Ar524, q524, S524, M524, H524, G524⟩ := id f519
          obtain ⟨_, _, ⟨T525, L525, k525, n525⟩, -, X525, ⟨Lc525, hQ525, l525, y525, z525⟩, st525⟩ := Jvm.LawKit.callS X518 hx (y := (⟨"com/example/rollcall/rollcall/bench/MilenageXorPinLaw", "at", "([BIII)Z"⟩ : MethodName)) hown (mvT hZ (hw _ (List.mem_of_getElem? (i := 12) rfl))) (mvT hZ (hw _ (List.mem_of_getElem? (i := 13) rfl))) (mvT hZ (hw _ (List.mem_of_getElem? (i := 2) rfl))) (mvT hZ (hw _ (List.mem_of_getElem? (i := 14) rfl))) (by decide) (backOf (W := 0) (rm4_2_0 l Z aw hw [] cx0518 p0 p1 cy0518 h518 n0 Z518 f519) hZ (hw _ (List.mem_of_getElem? (i := 14) rfl)) (hw _ (List.mem_of_getElem? (i := 2) rfl)) (by decide) (by decide)) (g := (mkF m 82 #[.val (.int p0), .val (.int p1), .val (.int p2), .val (.int (2 : Int32)), .val (.int (2 : Int32)), .val (.ref cx0512), .val (.ref cx0514), .val (.ref cx0518), .val (.int (1 : Int32))] [(.int p1), (.int p0), (.int (0 : Int32)), (.ref cx0518)])) rfl (by rw [hml]; rfl) (argsL := [(.ref cx0518), (.int (0 : Int32)), (.int p0), (.int p1)]) (rest := []) (lenOf pd_6 rfl) rfl (by show 2 * 0 + _ ≤ _; exact Nat.le_of_eq rfl) (hb hby at_82) (fun _ _ => ⟨rfl, e518, (by decide : 3 + 0 ≤ _), (by decide : 6 + 0 ≤ _)⟩)
          dsimp only [Pt.U, Pt.locs, Pt.cells, Pt.slots] at X525 l525 y525 z525 st525 hQ525
          subst l525 y525 z525
          obtain ⟨rfl, N525q, e525⟩ := hQ525
          have N525 := Fr.app N518 N525q
          obtain ⟨_, _, ⟨T526, L526, k526, n526⟩, -, X526, ⟨Lc526, hQ526, l526, y526, z526⟩, st526⟩ := Jvm.LawKit.callS X525 hx (y := (⟨"com/example/rollcall/rollcall/bench/MilenageXorPinLaw", "at", "([BIII)Z"⟩ : MethodName)) hown (mvT hZ (hw _ (List.mem_of_getElem? (i := 12) rfl))) (mvT hZ (hw _ (List.mem_of_getElem? (i := 13) rfl))) (mvT hZ (hw _ (List.mem_of_getElem? (i := 2) rfl))) (mvT hZ (hw _ (List.mem_of_getElem? (i := 14) rfl))) (by decide) (backOf (W := 0) (rm4_2_1 l Z aw hw [] cx0518 p0 p1 cy0518 h518 n0 Z518 f519) hZ (hw _ (List.mem_of_getElem? (i := 14) rfl)) (hw _ (List.mem_of_getElem? (i := 2) rfl)) (by decide) (by decide)) (g := (mkF m 110 #[.val (.int p0), .val (.int p1), .val (.int p2), .val (.int (2 : Int32)), .val (.int (2 : Int32)), .val (.ref cx0512), .val (.ref cx0514), .val (.ref cx0518), .val (.int (1 : Int32))] [(.int p1), (.int p0), (.int (1 : Int32)), (.ref cx0518)])) rfl (by rw [hml]; rfl) (argsL := [(.ref cx0518), (.int (1 : Int32)), (.int p0), (.int p1)]) (rest := []) (lenOf pd_6 rfl) rfl (by show 2 * 0 + _ ≤ _; exact Nat.le_of_eq rfl) (hb hby at_110) (fun _ _ => ⟨rfl, e525, (by decide : 3 + 0 ≤ _), (by decide : 6 + 0 ≤ _)⟩)
          dsimp only [Pt.U, Pt.locs, Pt.cells, Pt.slots] at X526 l526 y526 z526 st526 hQ526
          subst l526 y526 z526
          obtain ⟨rfl, N526q, e526⟩ := hQ526
          have N526 := Fr.app N525 N526q
          obtain ⟨_, _, ⟨T527, L527, k527, n527⟩, -, X527, ⟨Lc527, hQ527, l527, y527, z527⟩, st527⟩ := Jvm.LawKit.callS X526 hx (y := (⟨"com/example/rollcall/rollcall/bench/MilenageXorPinLaw", "same", "([BII)Z"⟩ : MethodName)) hown (mvT hZ (hw _ (List.mem_of_getElem? (i := 15) rfl))) (mvT hZ (hw _ (List.mem_of_getElem? (i := 16) rfl))) (mvT hZ (hw _ (List.mem_of_getElem? (i := 2) rfl))) (mvT hZ (hw _ (List.mem_of_getElem? (i := 17) rfl))) (by decide) (backOf (W := 0) (rm5_2 l Z aw hw [] cx0512 p0 cy0512 h518 n0 Z518 f520) hZ (hw _ (List.mem_of_getElem? (i := 17) rfl)) (hw _ (List.mem_of_getElem? (i := 2) rfl)) (by decide) (by decide)) (g := (mkF m 160 #[.val (.int p0), .val (.int p1), .val (.int p2), .val (.int (2 : Int32)), .val (.int (2 : Int32)), .val (.ref cx0512), .val (.ref cx0514), .val (.ref cx0518), .val (.int (1 : Int32))] [(.int (2 : Int32)), (.int p0), (.ref cx0512)])) rfl (by rw [hml]; rfl) (argsL := [(.ref cx0512), (.int p0), (.int (2 : Int32))]) (rest := []) (lenOf pd_5 rfl) rfl (by show 2 * 0 + _ ≤ _; exact Nat.le_of_eq rfl) (hb hby at_160) (fun _ _ => ⟨rfl, e526, (by decide : 3 + 0 ≤ _), (by decide : 6 + 0 ≤ _)⟩)
          dsimp only [Pt.U, Pt.locs, Pt.cells, Pt.slots] at X527 l527 y527 z527 st527 hQ527
          subst l527 y527 z527
          obtain ⟨rfl, N527q, e527⟩ := hQ527
          have N527 := Fr.app N526 N527q
          obtain ⟨_, _, ⟨T528, L528, k528, n528⟩, -, X528, ⟨Lc528, hQ528, l528, y528, z528⟩, st528⟩ := Jvm.LawKit.callS X527 hx (y := (⟨"com/example/rollcall/rollcall/bench/MilenageXorPinLaw", "same", "([BII)Z"⟩ : MethodName)) hown (mvT hZ (hw _ (List.mem_of_getElem? (i := 15) rfl))) (mvT hZ (hw _ (List.mem_of_getElem? (i := 16) rfl))) (mvT hZ (hw _ (List.mem_of_getElem? (i := 2) rfl))) (mvT hZ (hw _ (List.mem_of_getElem? (i := 17) rfl))) (by decide) (backOf (W := 0) (rm5_2 l Z aw hw [] cx0514 p1 cy0514 h518 n0 Z518 f521) hZ (hw _ (List.mem_of_getElem? (i := 17) rfl)) (hw _ (List.mem_of_getElem? (i := 2) rfl)) (by decide) (by decide)) (g := (mkF m 171 #[.val (.int p0), .val (.int p1), .val (.int p2), .val (.int (2 : Int32)), .val (.int (2 : Int32)), .val (.ref cx0512), .val (.ref cx0514), .val (.ref cx0518), .val (.int (1 : Int32))] [(.int (2 : Int32)), (.int p1), (.ref cx0514)])) rfl (by rw [hml]; rfl) (argsL := [(.ref cx0514), (.int p1), (.int (2 : Int32))]) (rest := []) (lenOf pd_5 rfl) rfl (by show 2 * 0 + _ ≤ _; exact Nat.le_of_eq rfl) (hb hby at_171) (fun _ _ => ⟨rfl, e527, (by decide : 3 + 0 ≤ _), (by decide : 6 + 0 ≤ _)⟩)
          dsimp only [Pt.U, Pt.locs, Pt.cells, Pt.slots] at X528 l528 y528 z528 st528 hQ528
          subst l528 y528 z528
          obtain ⟨rfl, N528q, e528⟩ := hQ528
          have N528 := Fr.app N527 N528q
          obtain ⟨fs, hr, hrun, hended, hW, hsame⟩ := X528.leave (v := some (.int (1 : Int32))) (fun h => by rw [Bd.returns] at h; cases h)
          refine ⟨_, _, pre511 _ ?_, hrun, hended, _, _, rfl, ?_, ⟨_, rfl⟩, hW, hsame.mono (by decide) (by decide)⟩
          · skip
            show Steps p.tables e below (s₁.setTop (mkF m 10 #[.val (.int p0), .val (.int p1), .val (.int p2), .val (.int (2 : Int32)), .unset, .unset, .unset, .unset, .unset] [(.int (0 : Int32)), (.int (2 : Int32))])) _
            refine XS.iadd X0.here hx rfl (hb hby at_10) rfl ?_
            show Steps p.tables e below (s₁.setTop (mkF m 11 #[.val (.int p0), .val (.int p1), .val (.int p2), .val (.int (2 : Int32)), .unset, .unset, .unset, .unset, .unset] [(.int (2 : Int32))])) _
            refine XS.istore X0.here hx rfl (hb hby at_11) rfl (l' := #[.val (.int p0), .val (.int p1), .val (.int p2), .val (.int (2 : Int32)), .val (.int (2 : Int32)), .unset, .unset, .unset, .unset]) rfl ?_
            show Steps p.tables e below (s₁.setTop (mkF m 13 #[.val (.int p0), .val (.int p1), .val (.int p2), .val (.int (2 : Int32)), .val (.int (2 : Int32)), .unset, .unset, .unset, .unset] [])) _
            refine XS.iloadN X0.here hx rfl (hb hby at_13) rfl ?_
            show Steps p.tables e below (s₁.setTop (mkF m 14 #[.val (.int p0), .val (.int p1), .val (.int p2), .val (.int (2 : Int32)), .val (.int (2 : Int32)), .unset, .unset, .unset, .unset] [(.int p0)])) _
            refine XS.iloadN X0.here hx rfl (hb hby at_14) rfl ?_
            show Steps p.tables e below (s₁.setTop (mkF m 15 #[.val (.int p0), .val (.int p1), .val (.int p2), .val (.int (2 : Int32)), .val (.int (2 : Int32)), .unset, .unset, .unset, .unset] [(.int (2 : Int32)), (.int p0)])) _
            refine st512 _ ?_
            show Steps p.tables e below (T512.setTop (mkF m 18 #[.val (.int p0), .val (.int p1), .val (.int p2), .val (.int (2 : Int32)), .val (.int (2 : Int32)), .unset, .unset, .unset, .unset] [(.ref cx0512)])) _
            refine XS.astore X512.here hx rfl (hb hby at_18) rfl rfl (l' := #[.val (.int p0), .val (.int p1), .val (.int p2), .val (.int (2 : Int32)), .val (.int (2 : Int32)), .val (.ref cx0512), .unset, .unset, .unset]) rfl ?_
            show Steps p.tables e below (T512.setTop (mkF m 20 #[.val (.int p0), .val (.int p1), .val (.int p2), .val (.int (2 : Int32)), .val (.int (2 : Int32)), .val (.ref cx0512), .unset, .unset, .unset] [])) _
            refine XS.iloadN X512.here hx rfl (hb hby at_20) rfl ?_
            show Steps p.tables e below (T512.setTop (mkF m 21 #[.val (.int p0), .val (.int p1), .val (.int p2), .val (.int (2 : Int32)), .val (.int (2 : Int32)), .val (.ref cx0512), .unset, .unset, .unset] [(.int p1)])) _
            refine XS.iload X512.here hx rfl (hb hby at_21) rfl ?_
            show Steps p.tables e below (T512.setTop (mkF m 23 #[.val (.int p0), .val (.int p1), .val (.int p2), .val (.int (2 : Int32)), .val (.int (2 : Int32)), .val (.ref cx0512), .unset, .unset, .unset] [(.int (2 : Int32)), (.int p1)])) _
            refine st514 _ ?_
            show Steps p.tables e below (T514.setTop (mkF m 26 #[.val (.int p0), .val (.int p1), .val (.int p2), .val (.int (2 : Int32)), .val (.int (2 : Int32)), .val (.ref cx0512), .unset, .unset, .unset] [(.ref cx0514)])) _
            refine XS.astore X514.here hx rfl (hb hby at_26) rfl rfl (l' := #[.val (.int p0), .val (.int p1), .val (.int p2), .val (.int (2 : Int32)), .val (.int (2 : Int32)), .val (.ref cx0512), .val (.ref cx0514), .unset, .unset]) rfl ?_
            show Steps p.tables e below (T514.setTop (mkF m 28 #[.val (.int p0), .val (.int p1), .val (.int p2), .val (.int (2 : Int32)), .val (.int (2 : Int32)), .val (.ref cx0512), .val (.ref cx0514), .unset, .unset] [])) _
            refine XS.aload X514.here hx rfl (hb hby at_28) rfl rfl ?_
            show Steps p.tables e below (T514.setTop (mkF m 30 #[.val (.int p0), .val (.int p1), .val (.int p2), .val (.int (2 : Int32)), .val (.int (2 : Int32)), .val (.ref cx0512), .val (.ref cx0514), .unset, .unset] [(.ref cx0512)])) _
            refine XS.aload X514.here hx rfl (hb hby at_30) rfl rfl ?_
            show Steps p.tables e below (T514.setTop (mkF m 32 #[.val (.int p0), .val (.int p1), .val (.int p2), .val (.int (2 : Int32)), .val (.int (2 : Int32)), .val (.ref cx0512), .val (.ref cx0514), .unset, .unset] [(.ref cx0514), (.ref cx0512)])) _
            refine st518 _ ?_
            show Steps p.tables e below (T518.setTop (mkF m 35 #[.val (.int p0), .val (.int p1), .val (.int p2), .val (.int (2 : Int32)), .val (.int (2 : Int32)), .val (.ref cx0512), .val (.ref cx0514), .unset, .unset] [(.ref cx0518)])) _
            refine XS.astore X518.here hx rfl (hb hby at_35) rfl rfl (l' := #[.val (.int p0), .val (.int p1), .val (.int p2), .val (.int (2 : Int32)), .val (.int (2 : Int32)), .val (.ref cx0512), .val (.ref cx0514), .val (.ref cx0518), .unset]) rfl ?_
            show Steps p.tables e below (T518.setTop (mkF m 37 #[.val (.int p0), .val (.int p1), .val (.int p2), .val (.int (2 : Int32)), .val (.int (2 : Int32)), .val (.ref cx0512), .val (.ref cx0514), .val (.ref cx0518), .unset] [])) _
            refine XS.aload X518.here hx rfl (hb hby at_37) rfl rfl ?_
            show Steps p.tables e below (T518.setTop (mkF m 39 #[.val (.int p0), .val (.int p1), .val (.int p2), .val (.int (2 : Int32)), .val (.int (2 : Int32)), .val (.ref cx0512), .val (.ref cx0514), .val (.ref cx0518), .unset] [(.ref cx0518)])) _
            refine XS.ifnullNo X518.here hx rfl (hb hby at_39) rfl ?_
            show Steps p.tables e below (T518.setTop (mkF m 42 #[.val (.int p0), .val (.int p1), .val (.int p2), .val (.int (2 : Int32)), .val (.int (2 : Int32)), .val (.ref cx0512), .val (.ref cx0514), .val (.ref cx0518), .unset] [])) _
            refine XS.aload X518.here hx rfl (hb hby at_42) rfl rfl ?_
            show Steps p.tables e below (T518.setTop (mkF m 44 #[.val (.int p0), .val (.int p1), .val (.int p2), .val (.int (2 : Int32)), .val (.int (2 : Int32)), .val (.ref cx0512), .val (.ref cx0514), .val (.ref cx0518), .unset] [(.ref cx0518)])) _
            refine X518.arraylength hx (by rw [e518]; exact Ar524.1) (State.isArrayOf_alike hZ.alike Ar524.2.1) (g := (mkF m 44 #[.val (.int p0), .val (.int p1), .val (.int p2), .val (.int (2 : Int32)), .val (.int (2 : Int32)), .val (.ref cx0512), .val (.ref cx0514), .val (.ref cx0518), .unset] [(.ref cx0518)])) rfl rfl (hb hby at_44) _ ?_
            rw [len_of S524 M524]
            show Steps p.tables e below (T518.setTop (mkF m 45 #[.val (.int p0), .val (.int p1), .val (.int p2), .val (.int (2 : Int32)), .val (.int (2 : Int32)), .val (.ref cx0512), .val (.ref cx0514), .val (.ref cx0518), .unset] [(.int (2 : Int32))])) _
            refine XS.iloadN X518.here hx rfl (hb hby at_45) rfl ?_
            show Steps p.tables e below (T518.setTop (mkF m 46 #[.val (.int p0), .val (.int p1), .val (.int p2), .val (.int (2 : Int32)), .val (.int (2 : Int32)), .val (.ref cx0512), .val (.ref cx0514), .val (.ref cx0518), .unset] [(.int (2 : Int32)), (.int (2 : Int32))])) _
            refine XS.icmpNo X518.here hx rfl (hb hby at_46) rfl (teq (rfl : (2 : Int32) = (2 : Int32))).2 ?_
            show Steps p.tables e below (T518.setTop (mkF m 49 #[.val (.int p0), .val (.int p1), .val (.int p2), .val (.int (2 : Int32)), .val (.int (2 : Int32)), .val (.ref cx0512), .val (.ref cx0514), .val (.ref cx0518), .unset] [])) _
            refine XS.aload X518.here hx rfl (hb hby at_49) rfl rfl ?_
            show Steps p.tables e below (T518.setTop (mkF m 51 #[.val (.int p0), .val (.int p1), .val (.int p2), .val (.int (2 : Int32)), .val (.int (2 : Int32)), .val (.ref cx0512), .val (.ref cx0514), .val (.ref cx0518), .unset] [(.ref cx0518)])) _
            refine XS.aload X518.here hx rfl (hb hby at_51) rfl rfl ?_
            show Steps p.tables e below (T518.setTop (mkF m 53 #[.val (.int p0), .val (.int p1), .val (.int p2), .val (.int (2 : Int32)), .val (.int (2 : Int32)), .val (.ref cx0512), .val (.ref cx0514), .val (.ref cx0518), .unset] [(.ref cx0512), (.ref cx0518)])) _
            refine Jvm.RoadKit.acmp (g := (mkF m 53 #[.val (.int p0), .val (.int p1), .val (.int p2), .val (.int (2 : Int32)), .val (.int (2 : Int32)), .val (.ref cx0512), .val (.ref cx0514), .val (.ref cx0518), .unset] [(.ref cx0512), (.ref cx0518)])) X518 hx rfl rfl rfl (pc0 := 53) (pc' := 56) (same := false) rfl (hb hby at_53) rfl (decide_eq_false fun q => (Ne.symm ne522) (Value.ref.inj q)) (by decide) (by decide) ?_
            show Steps p.tables e below (T518.setTop (mkF m 56 #[.val (.int p0), .val (.int p1), .val (.int p2), .val (.int (2 : Int32)), .val (.int (2 : Int32)), .val (.ref cx0512), .val (.ref cx0514), .val (.ref cx0518), .unset] [])) _
            refine XS.aload X518.here hx rfl (hb hby at_56) rfl rfl ?_
            show Steps p.tables e below (T518.setTop (mkF m 58 #[.val (.int p0), .val (.int p1), .val (.int p2), .val (.int (2 : Int32)), .val (.int (2 : Int32)), .val (.ref cx0512), .val (.ref cx0514), .val (.ref cx0518), .unset] [(.ref cx0518)])) _
            refine XS.aload X518.here hx rfl (hb hby at_58) rfl rfl ?_
            show Steps p.tables e below (T518.setTop (mkF m 60 #[.val (.int p0), .val (.int p1), .val (.int p2), .val (.int (2 : Int32)), .val (.int (2 : Int32)), .val (.ref cx0512), .val (.ref cx0514), .val (.ref cx0518), .unset] [(.ref cx0514), (.ref cx0518)])) _
            refine Jvm.RoadKit.acmp (g := (mkF m 60 #[.val (.int p0), .val (.int p1), .val (.int p2), .val (.int (2 : Int32)), .val (.int (2 : Int32)), .val (.ref cx0512), .val (.ref cx0514), .val (.ref cx0518), .unset] [(.ref cx0514), (.ref cx0518)])) X518 hx rfl rfl rfl (pc0 := 60) (pc' := 65) (same := false) rfl (hb hby at_60) rfl (decide_eq_false fun q => (Ne.symm ne523) (Value.ref.inj q)) (by decide) (by decide) ?_
            show Steps p.tables e below (T518.setTop (mkF m 65 #[.val (.int p0), .val (.int p1), .val (.int p2), .val (.int (2 : Int32)), .val (.int (2 : Int32)), .val (.ref cx0512), .val (.ref cx0514), .val (.ref cx0518), .unset] [])) _
            refine XS.iconst X518.here hx rfl (hb hby at_65) ?_
            show Steps p.tables e below (T518.setTop (mkF m 66 #[.val (.int p0), .val (.int p1), .val (.int p2), .val (.int (2 : Int32)), .val (.int (2 : Int32)), .val (.ref cx0512), .val (.ref cx0514), .val (.ref cx0518), .unset] [(.int (1 : Int32))])) _
            refine XS.istore X518.here hx rfl (hb hby at_66) rfl (l' := #[.val (.int p0), .val (.int p1), .val (.int p2), .val (.int (2 : Int32)), .val (.int (2 : Int32)), .val (.ref cx0512), .val (.ref cx0514), .val (.ref cx0518), .val (.int (1 : Int32))]) rfl ?_
            show Steps p.tables e below (T518.setTop (mkF m 68 #[.val (.int p0), .val (.int p1), .val (.int p2), .val (.int (2 : Int32)), .val (.int (2 : Int32)), .val (.ref cx0512), .val (.ref cx0514), .val (.ref cx0518), .val (.int (1 : Int32))] [])) _
            refine XS.iloadN X518.here hx rfl (hb hby at_68) rfl ?_
            show Steps p.tables e below (T518.setTop (mkF m 69 #[.val (.int p0), .val (.int p1), .val (.int p2), .val (.int (2 : Int32)), .val (.int (2 : Int32)), .val (.ref cx0512), .val (.ref cx0514), .val (.ref cx0518), .val (.int (1 : Int32))] [(.int (2 : Int32))])) _
            refine XS.ifNo X518.here hx rfl (hb hby at_69) rfl ((if0 _ _).trans (tlt (by decide : (0 : Int32) < (2 : Int32))).2.2.2) ?_
            show Steps p.tables e below (T518.setTop (mkF m 72 #[.val (.int p0), .val (.int p1), .val (.int p2), .val (.int (2 : Int32)), .val (.int (2 : Int32)), .val (.ref cx0512), .val (.ref cx0514), .val (.ref cx0518), .val (.int (1 : Int32))] [])) _
            refine XS.iload X518.here hx rfl (hb hby at_72) rfl ?_
            show Steps p.tables e below (T518.setTop (mkF m 74 #[.val (.int p0), .val (.int p1), .val (.int p2), .val (.int (2 : Int32)), .val (.int (2 : Int32)), .val (.ref cx0512), .val (.ref cx0514), .val (.ref cx0518), .val (.int (1 : Int32))] [(.int (1 : Int32))])) _
            refine XS.ifNo X518.here hx rfl (hb hby at_74) rfl ((if0 _ _).trans (feq (by decide : ¬ ((1 : Int32) = (0 : Int32)))).1) ?_
            show Steps p.tables e below (T518.setTop (mkF m 77 #[.val (.int p0), .val (.int p1), .val (.int p2), .val (.int (2 : Int32)), .val (.int (2 : Int32)), .val (.ref cx0512), .val (.ref cx0514), .val (.ref cx0518), .val (.int (1 : Int32))] [])) _
            refine XS.aload X518.here hx rfl (hb hby at_77) rfl rfl ?_
            show Steps p.tables e below (T518.setTop (mkF m 79 #[.val (.int p0), .val (.int p1), .val (.int p2), .val (.int (2 : Int32)), .val (.int (2 : Int32)), .val (.ref cx0512), .val (.ref cx0514), .val (.ref cx0518), .val (.int (1 : Int32))] [(.ref cx0518)])) _
            refine XS.iconst X518.here hx rfl (hb hby at_79) ?_
            show Steps p.tables e below (T518.setTop (mkF m 80 #[.val (.int p0), .val (.int p1), .val (.int p2), .val (.int (2 : Int32)), .val (.int (2 : Int32)), .val (.ref cx0512), .val (.ref cx0514), .val (.ref cx0518), .val (.int (1 : Int32))] [(.int (0 : Int32)), (.ref cx0518)])) _
            refine XS.iloadN X518.here hx rfl (hb hby at_80) rfl ?_
            show Steps p.tables e below (T518.setTop (mkF m 81 #[.val (.int p0), .val (.int p1), .val (.int p2), .val (.int (2 : Int32)), .val (.int (2 : Int32)), .val (.ref cx0512), .val (.ref cx0514), .val (.ref cx0518), .val (.int (1 : Int32))] [(.int p0), (.int (0 : Int32)), (.ref cx0518)])) _
            refine XS.iloadN X518.here hx rfl (hb hby at_81) rfl ?_
            show Steps p.tables e below (T518.setTop (mkF m 82 #[.val (.int p0), .val (.int p1), .val (.int p2), .val (.int (2 : Int32)), .val (.int (2 : Int32)), .val (.ref cx0512), .val (.ref cx0514), .val (.ref cx0518), .val (.int (1 : Int32))] [(.int p1), (.int p0), (.int (0 : Int32)), (.ref cx0518)])) _
            refine st525 _ ?_
            show Steps p.tables e below (T525.setTop (mkF m 85 #[.val (.int p0), .val (.int p1), .val (.int p2), .val (.int (2 : Int32)), .val (.int (2 : Int32)), .val (.ref cx0512), .val (.ref cx0514), .val (.ref cx0518), .val (.int (1 : Int32))] [(.int (1 : Int32))])) _
            refine XS.ifNo X525.here hx rfl (hb hby at_85) rfl ((if0 _ _).trans (feq (by decide : ¬ ((1 : Int32) = (0 : Int32)))).1) ?_
            show Steps p.tables e below (T525.setTop (mkF m 88 #[.val (.int p0), .val (.int p1), .val (.int p2), .val (.int (2 : Int32)), .val (.int (2 : Int32)), .val (.ref cx0512), .val (.ref cx0514), .val (.ref cx0518), .val (.int (1 : Int32))] [])) _
            refine XS.iconst X525.here hx rfl (hb hby at_88) ?_
            show Steps p.tables e below (T525.setTop (mkF m 89 #[.val (.int p0), .val (.int p1), .val (.int p2), .val (.int (2 : Int32)), .val (.int (2 : Int32)), .val (.ref cx0512), .val (.ref cx0514), .val (.ref cx0518), .val (.int (1 : Int32))] [(.int (1 : Int32))])) _
            refine XS.goto X525.here hx rfl (pc0 := 89) (pc' := 93) rfl (hb hby at_89) (by decide) (by decide) ?_
            show Steps p.tables e below (T525.setTop (mkF m 93 #[.val (.int p0), .val (.int p1), .val (.int p2), .val (.int (2 : Int32)), .val (.int (2 : Int32)), .val (.ref cx0512), .val (.ref cx0514), .val (.ref cx0518), .val (.int (1 : Int32))] [(.int (1 : Int32))])) _
            refine XS.istore X525.here hx rfl (hb hby at_93) rfl (l' := #[.val (.int p0), .val (.int p1), .val (.int p2), .val (.int (2 : Int32)), .val (.int (2 : Int32)), .val (.ref cx0512), .val (.ref cx0514), .val (.ref cx0518), .val (.int (1 : Int32))]) rfl ?_
            show Steps p.tables e below (T525.setTop (mkF m 95 #[.val (.int p0), .val (.int p1), .val (.int p2), .val (.int (2 : Int32)), .val (.int (2 : Int32)), .val (.ref cx0512), .val (.ref cx0514), .val (.ref cx0518), .val (.int (1 : Int32))] [])) _
            refine XS.iloadN X525.here hx rfl (hb hby at_95) rfl ?_
            show Steps p.tables e below (T525.setTop (mkF m 96 #[.val (.int p0), .val (.int p1), .val (.int p2), .val (.int (2 : Int32)), .val (.int (2 : Int32)), .val (.ref cx0512), .val (.ref cx0514), .val (.ref cx0518), .val (.int (1 : Int32))] [(.int (2 : Int32))])) _
            refine XS.iconst X525.here hx rfl (hb hby at_96) ?_
            show Steps p.tables e below (T525.setTop (mkF m 97 #[.val (.int p0), .val (.int p1), .val (.int p2), .val (.int (2 : Int32)), .val (.int (2 : Int32)), .val (.ref cx0512), .val (.ref cx0514), .val (.ref cx0518), .val (.int (1 : Int32))] [(.int (1 : Int32)), (.int (2 : Int32))])) _
            refine XS.icmpNo X525.here hx rfl (hb hby at_97) rfl (tlt (by decide : (1 : Int32) < (2 : Int32))).2.2.2 ?_
            show Steps p.tables e below (T525.setTop (mkF m 100 #[.val (.int p0), .val (.int p1), .val (.int p2), .val (.int (2 : Int32)), .val (.int (2 : Int32)), .val (.ref cx0512), .val (.ref cx0514), .val (.ref cx0518), .val (.int (1 : Int32))] [])) _
            refine XS.iload X525.here hx rfl (hb hby at_100) rfl ?_
            show Steps p.tables e below (T525.setTop (mkF m 102 #[.val (.int p0), .val (.int p1), .val (.int p2), .val (.int (2 : Int32)), .val (.int (2 : Int32)), .val (.ref cx0512), .val (.ref cx0514), .val (.ref cx0518), .val (.int (1 : Int32))] [(.int (1 : Int32))])) _
            refine XS.ifNo X525.here hx rfl (hb hby at_102) rfl ((if0 _ _).trans (feq (by decide : ¬ ((1 : Int32) = (0 : Int32)))).1) ?_
            show Steps p.tables e below (T525.setTop (mkF m 105 #[.val (.int p0), .val (.int p1), .val (.int p2), .val (.int (2 : Int32)), .val (.int (2 : Int32)), .val (.ref cx0512), .val (.ref cx0514), .val (.ref cx0518), .val (.int (1 : Int32))] [])) _
            refine XS.aload X525.here hx rfl (hb hby at_105) rfl rfl ?_
            show Steps p.tables e below (T525.setTop (mkF m 107 #[.val (.int p0), .val (.int p1), .val (.int p2), .val (.int (2 : Int32)), .val (.int (2 : Int32)), .val (.ref cx0512), .val (.ref cx0514), .val (.ref cx0518), .val (.int (1 : Int32))] [(.ref cx0518)])) _
            refine XS.iconst X525.here hx rfl (hb hby at_107) ?_
            show Steps p.tables e below (T525.setTop (mkF m 108 #[.val (.int p0), .val (.int p1), .val (.int p2), .val (.int (2 : Int32)), .val (.int (2 : Int32)), .val (.ref cx0512), .val (.ref cx0514), .val (.ref cx0518), .val (.int (1 : Int32))] [(.int (1 : Int32)), (.ref cx0518)])) _
            refine XS.iloadN X525.here hx rfl (hb hby at_108) rfl ?_
            show Steps p.tables e below (T525.setTop (mkF m 109 #[.val (.int p0), .val (.int p1), .val (.int p2), .val (.int (2 : Int32)), .val (.int (2 : Int32)), .val (.ref cx0512), .val (.ref cx0514), .val (.ref cx0518), .val (.int (1 : Int32))] [(.int p0), (.int (1 : Int32)), (.ref cx0518)])) _
            refine XS.iloadN X525.here hx rfl (hb hby at_109) rfl ?_
            show Steps p.tables e below (T525.setTop (mkF m 110 #[.val (.int p0), .val (.int p1), .val (.int p2), .val (.int (2 : Int32)), .val (.int (2 : Int32)), .val (.ref cx0512), .val (.ref cx0514), .val (.ref cx0518), .val (.int (1 : Int32))] [(.int p1), (.int p0), (.int (1 : Int32)), (.ref cx0518)])) _
            refine st526 _ ?_
            show Steps p.tables e below (T526.setTop (mkF m 113 #[.val (.int p0), .val (.int p1), .val (.int p2), .val (.int (2 : Int32)), .val (.int (2 : Int32)), .val (.ref cx0512), .val (.ref cx0514), .val (.ref cx0518), .val (.int (1 : Int32))] [(.int (1 : Int32))])) _
            refine XS.ifNo X526.here hx rfl (hb hby at_113) rfl ((if0 _ _).trans (feq (by decide : ¬ ((1 : Int32) = (0 : Int32)))).1) ?_
            show Steps p.tables e below (T526.setTop (mkF m 116 #[.val (.int p0), .val (.int p1), .val (.int p2), .val (.int (2 : Int32)), .val (.int (2 : Int32)), .val (.ref cx0512), .val (.ref cx0514), .val (.ref cx0518), .val (.int (1 : Int32))] [])) _
            refine XS.iconst X526.here hx rfl (hb hby at_116) ?_
            show Steps p.tables e below (T526.setTop (mkF m 117 #[.val (.int p0), .val (.int p1), .val (.int p2), .val (.int (2 : Int32)), .val (.int (2 : Int32)), .val (.ref cx0512), .val (.ref cx0514), .val (.ref cx0518), .val (.int (1 : Int32))] [(.int (1 : Int32))])) _
            refine XS.goto X526.here hx rfl (pc0 := 117) (pc' := 121) rfl (hb hby at_117) (by decide) (by decide) ?_
            show Steps p.tables e below (T526.setTop (mkF m 121 #[.val (.int p0), .val (.int p1), .val (.int p2), .val (.int (2 : Int32)), .val (.int (2 : Int32)), .val (.ref cx0512), .val (.ref cx0514), .val (.ref cx0518), .val (.int (1 : Int32))] [(.int (1 : Int32))])) _
            refine XS.istore X526.here hx rfl (hb hby at_121) rfl (l' := #[.val (.int p0), .val (.int p1), .val (.int p2), .val (.int (2 : Int32)), .val (.int (2 : Int32)), .val (.ref cx0512), .val (.ref cx0514), .val (.ref cx0518), .val (.int (1 : Int32))]) rfl ?_
            show Steps p.tables e below (T526.setTop (mkF m 123 #[.val (.int p0), .val (.int p1), .val (.int p2), .val (.int (2 : Int32)), .val (.int (2 : Int32)), .val (.ref cx0512), .val (.ref cx0514), .val (.ref cx0518), .val (.int (1 : Int32))] [])) _
            refine XS.iloadN X526.here hx rfl (hb hby at_123) rfl ?_
            show Steps p.tables e below (T526.setTop (mkF m 124 #[.val (.int p0), .val (.int p1), .val (.int p2), .val (.int (2 : Int32)), .val (.int (2 : Int32)), .val (.ref cx0512), .val (.ref cx0514), .val (.ref cx0518), .val (.int (1 : Int32))] [(.int (2 : Int32))])) _
            refine XS.iconst X526.here hx rfl (hb hby at_124) ?_
            show Steps p.tables e below (T526.setTop (mkF m 125 #[.val (.int p0), .val (.int p1), .val (.int p2), .val (.int (2 : Int32)), .val (.int (2 : Int32)), .val (.ref cx0512), .val (.ref cx0514), .val (.ref cx0518), .val (.int (1 : Int32))] [(.int (2 : Int32)), (.int (2 : Int32))])) _
            refine XS.icmpYes X526.here hx rfl (pc0 := 125) (pc' := 151) rfl (hb hby at_125) rfl (flt (by decide : ¬ ((2 : Int32) < (2 : Int32)))).2.2.2 (by decide) (by decide) ?_
            show Steps p.tables e below (T526.setTop (mkF m 151 #[.val (.int p0), .val (.int p1), .val (.int p2), .val (.int (2 : Int32)), .val (.int (2 : Int32)), .val (.ref cx0512), .val (.ref cx0514), .val (.ref cx0518), .val (.int (1 : Int32))] [])) _
            refine XS.iload X526.here hx rfl (hb hby at_151) rfl ?_
            show Steps p.tables e below (T526.setTop (mkF m 153 #[.val (.int p0), .val (.int p1), .val (.int p2), .val (.int (2 : Int32)), .val (.int (2 : Int32)), .val (.ref cx0512), .val (.ref cx0514), .val (.ref cx0518), .val (.int (1 : Int32))] [(.int (1 : Int32))])) _
            refine XS.ifNo X526.here hx rfl (hb hby at_153) rfl ((if0 _ _).trans (feq (by decide : ¬ ((1 : Int32) = (0 : Int32)))).1) ?_
            show Steps p.tables e below (T526.setTop (mkF m 156 #[.val (.int p0), .val (.int p1), .val (.int p2), .val (.int (2 : Int32)), .val (.int (2 : Int32)), .val (.ref cx0512), .val (.ref cx0514), .val (.ref cx0518), .val (.int (1 : Int32))] [])) _
            refine XS.aload X526.here hx rfl (hb hby at_156) rfl rfl ?_
            show Steps p.tables e below (T526.setTop (mkF m 158 #[.val (.int p0), .val (.int p1), .val (.int p2), .val (.int (2 : Int32)), .val (.int (2 : Int32)), .val (.ref cx0512), .val (.ref cx0514), .val (.ref cx0518), .val (.int (1 : Int32))] [(.ref cx0512)])) _
            refine XS.iloadN X526.here hx rfl (hb hby at_158) rfl ?_
            show Steps p.tables e below (T526.setTop (mkF m 159 #[.val (.int p0), .val (.int p1), .val (.int p2), .val (.int (2 : Int32)), .val (.int (2 : Int32)), .val (.ref cx0512), .val (.ref cx0514), .val (.ref cx0518), .val (.int (1 : Int32))] [(.int p0), (.ref cx0512)])) _
            refine XS.iloadN X526.here hx rfl (hb hby at_159) rfl ?_
            show Steps p.tables e below (T526.setTop (mkF m 160 #[.val (.int p0), .val (.int p1), .val (.int p2), .val (.int (2 : Int32)), .val (.int (2 : Int32)), .val (.ref cx0512), .val (.ref cx0514), .val (.ref cx0518), .val (.int (1 : Int32))] [(.int (2 : Int32)), (.int p0), (.ref cx0512)])) _
            refine st527 _ ?_
            show Steps p.tables e below (T527.setTop (mkF m 163 #[.val (.int p0), .val (.int p1), .val (.int p2), .val (.int (2 : Int32)), .val (.int (2 : Int32)), .val (.ref cx0512), .val (.ref cx0514), .val (.ref cx0518), .val (.int (1 : Int32))] [(.int (1 : Int32))])) _
            refine XS.ifNo X527.here hx rfl (hb hby at_163) rfl ((if0 _ _).trans (feq (by decide : ¬ ((1 : Int32) = (0 : Int32)))).1) ?_
            show Steps p.tables e below (T527.setTop (mkF m 166 #[.val (.int p0), .val (.int p1), .val (.int p2), .val (.int (2 : Int32)), .val (.int (2 : Int32)), .val (.ref cx0512), .val (.ref cx0514), .val (.ref cx0518), .val (.int (1 : Int32))] [])) _
            refine XS.aload X527.here hx rfl (hb hby at_166) rfl rfl ?_
            show Steps p.tables e below (T527.setTop (mkF m 168 #[.val (.int p0), .val (.int p1), .val (.int p2), .val (.int (2 : Int32)), .val (.int (2 : Int32)), .val (.ref cx0512), .val (.ref cx0514), .val (.ref cx0518), .val (.int (1 : Int32))] [(.ref cx0514)])) _
            refine XS.iloadN X527.here hx rfl (hb hby at_168) rfl ?_
            show Steps p.tables e below (T527.setTop (mkF m 169 #[.val (.int p0), .val (.int p1), .val (.int p2), .val (.int (2 : Int32)), .val (.int (2 : Int32)), .val (.ref cx0512), .val (.ref cx0514), .val (.ref cx0518), .val (.int (1 : Int32))] [(.int p1), (.ref cx0514)])) _
            refine XS.iload X527.here hx rfl (hb hby at_169) rfl ?_
            show Steps p.tables e below (T527.setTop (mkF m 171 #[.val (.int p0), .val (.int p1), .val (.int p2), .val (.int (2 : Int32)), .val (.int (2 : Int32)), .val (.ref cx0512), .val (.ref cx0514), .val (.ref cx0518), .val (.int (1 : Int32))] [(.int (2 : Int32)), (.int p1), (.ref cx0514)])) _
            refine st528 _ ?_
            show Steps p.tables e below (T528.setTop (mkF m 174 #[.val (.int p0), .val (.int p1), .val (.int p2), .val (.int (2 : Int32)), .val (.int (2 : Int32)), .val (.ref cx0512), .val (.ref cx0514), .val (.ref cx0518), .val (.int (1 : Int32))] [(.int (1 : Int32))])) _
            refine XS.ifNo X528.here hx rfl (hb hby at_174) rfl ((if0 _ _).trans (feq (by decide : ¬ ((1 : Int32) = (0 : Int32)))).1) ?_
            show Steps p.tables e below (T528.setTop (mkF m 177 #[.val (.int p0), .val (.int p1), .val (.int p2), .val (.int (2 : Int32)), .val (.int (2 : Int32)), .val (.ref cx0512), .val (.ref cx0514), .val (.ref cx0518), .val (.int (1 : Int32))] [])) _
            refine XS.iconst X528.here hx rfl (hb hby at_177) ?_
            show Steps p.tables e below (T528.setTop (mkF m 178 #[.val (.int p0), .val (.int p1), .val (.int p2), .val (.int (2 : Int32)), .val (.int (2 : Int32)), .val (.ref cx0512), .val (.ref cx0514), .val (.ref cx0518), .val (.int (1 : Int32))] [(.int (1 : Int32))])) _
            refine XS.goto X528.here hx rfl (pc0 := 178) (pc' := 182) rfl (hb hby at_178) (by decide) (by decide) ?_
            show Steps p.tables e below (T528.setTop (mkF m 182 #[.val (.int p0), .val (.int p1), .val (.int p2), .val (.int (2 : Int32)), .val (.int (2 : Int32)), .val (.ref cx0512), .val (.ref cx0514), .val (.ref cx0518), .val (.int (1 : Int32))] [(.int (1 : Int32))])) _
            exact retN X528 hx (t := .boolean) Bd.returns (by simp) (hb hby at_182) hr
          · show Q0 Z p0 p1 p2 h0 n0 _ T528.heap _
            rw [e528]
            have hv : (1 : Int32) = (v0 p2) := by unfold v0; first | (rw [if_neg hs431, if_neg hs468, if_pos hs507, if_pos hs510]) | (simp only [if_neg hs431, if_neg hs468, if_pos hs507, if_pos hs510])
            exact ⟨(by rw [← hv]), N528⟩
        · skip
          have hs529 : (((p2.toUInt32 >>> ((2 : Int32) &&& 31).toUInt32).toInt32) &&& (1 : Int32)) = (1 : Int32) := own_1 _ hs510
          have pre530 := fun (t : State) (k : Steps p.tables e below (s₁.setTop (mkF m 10 #[.val (.int p0), .val (.int p1), .val (.int p2), .val (.int (2 : Int32)), .unset, .unset, .unset, .unset, .unset] [(.int (1 : Int32)), (.int (2 : Int32))])) t) => pre509 t (by show Steps p.tables e below (s₁.setTop (mkF m 10 #[.val (.int p0), .val (.int p1), .val (.int p2), .val (.int (2 : Int32)), .unset, .unset, .unset, .unset, .unset] [(.int (((p2.toUInt32 >>> ((2 : Int32) &&& 31).toUInt32).toInt32) &&& (1 : Int32))), (.int (2 : Int32))])) t; rw [hs529]; exact k)
          obtain ⟨_, _, ⟨T531, L531, k531, n531⟩, -, X531, ⟨Lc531, hQ531, l531, y531, z531⟩, st531⟩ := Jvm.LawKit.callS X0 hx (y := (⟨"com/example/rollcall/rollcall/bench/MilenageXorPinLaw", "bytes", "(II)[B"⟩ : MethodName)) hown (mvT hZ (hw _ (List.mem_of_getElem? (i := 0) rfl))) (mvT hZ (hw _ (List.mem_of_getElem? (i := 1) rfl))) (mvT hZ (hw _ (List.mem_of_getElem? (i := 2) rfl))) (mvT hZ (hw _ (List.mem_of_getElem? (i := 3) rfl))) (by decide) (backOf (W := 0) (rm1_2 l Z aw hw [] p0 h0 n0 Z0 ) hZ (hw _ (List.mem_of_getElem? (i := 3) rfl)) (hw _ (List.mem_of_getElem? (i := 2) rfl)) (by decide) (by decide)) (g := (mkF m 15 #[.val (.int p0), .val (.int p1), .val (.int p2), .val (.int (2 : Int32)), .val (.int (3 : Int32)), .unset, .unset, .unset, .unset] [(.int (2 : Int32)), (.int p0)])) rfl (by rw [hml]; rfl) (argsL := [(.int p0), (.int (2 : Int32))]) (rest := []) (lenOf pd_3 rfl) rfl (by show 2 * 0 + _ ≤ _; exact Nat.le_of_eq rfl) (hb hby at_15) (fun _ _ => ⟨rfl, e0, (by decide : 0 + 1 ≤ _), (by decide : 0 + 2 ≤ _)⟩)
          dsimp only [Pt.U, Pt.locs, Pt.cells, Pt.slots] at X531 l531 y531 z531 st531 hQ531
          subst l531 y531 z531
          obtain ⟨h531, e531⟩ : ∃ z, T531.heap = z := ⟨_, rfl⟩
          rw [e531] at hQ531
          obtain ⟨cx0531, cy0531, rfl, N531q, K531q, g_cx0531, zz_cx0531, f532⟩ := hQ531
          have Z531 := Nat.le_trans Z0 K531q.1
          have N531 := Fr.app N0 N531q
          obtain ⟨_, _, ⟨T533, L533, k533, n533⟩, -, X533, ⟨Lc533, hQ533, l533, y533, z533⟩, st533⟩ := Jvm.LawKit.callS X531 hx (y := (⟨"com/example/rollcall/rollcall/bench/MilenageXorPinLaw", "bytes", "(II)[B"⟩ : MethodName)) hown (mvT hZ (hw _ (List.mem_of_getElem? (i := 0) rfl))) (mvT hZ (hw _ (List.mem_of_getElem? (i := 1) rfl))) (mvT hZ (hw _ (List.mem_of_getElem? (i := 2) rfl))) (mvT hZ (hw _ (List.mem_of_getElem? (i := 3) rfl))) (by decide) (backOf (W := 0) (rm1_3 l Z aw hw [] p1 h531 n0 Z531 ) hZ (hw _ (List.mem_of_getElem? (i := 3) rfl)) (hw _ (List.mem_of_getElem? (i := 2) rfl)) (by decide) (by decide)) (g := (mkF m 23 #[.val (.int p0), .val (.int p1), .val (.int p2), .val (.int (2 : Int32)), .val (.int (3 : Int32)), .val (.ref cx0531), .unset, .unset, .unset] [(.int (3 : Int32)), (.int p1)])) rfl (by rw [hml]; rfl) (argsL := [(.int p1), (.int (3 : Int32))]) (rest := []) (lenOf pd_3 rfl) rfl (by show 2 * 0 + _ ≤ _; exact Nat.le_of_eq rfl) (hb hby at_23) (fun _ _ => ⟨rfl, e531, (by decide : 1 + 1 ≤ _), (by decide : 2 + 3 ≤ _)⟩)
          dsimp only [Pt.U, Pt.locs, Pt.cells, Pt.slots] at X533 l533 y533 z533 st533 hQ533
          subst l533 y533 z533
          obtain ⟨h533, e533⟩ : ∃ z, T533.heap = z := ⟨_, rfl⟩
          rw [e533] at hQ533
          obtain ⟨cx0533, cy0533, rfl, N533q, K533q, g_cx0533, zz_cx0533, f534⟩ := hQ533
          have f535 := f532.keep K533q nin0
          have ne536 : cx0531 ≠ cx0533 := Nat.ne_of_lt (Nat.lt_of_lt_of_le f532.lt zz_cx0533)
          have Z533 := Nat.le_trans Z531 K533q.1
          have N533 := Fr.app N531 N533q
          obtain ⟨_, _, ⟨T537, L537, k537, n537⟩, -, X537, ⟨Lc537, hQ537, l537, y537, z537⟩, st537⟩ := Jvm.LawKit.callS X533 hx (y := (⟨"com/example/rollcall/rollcall/bench/Milenage", "xor", "([B[B)[B"⟩ : MethodName)) hown (mvT hZ (hw _ (List.mem_of_getElem? (i := 8) rfl))) (mvT hZ (hw _ (List.mem_of_getElem? (i := 9) rfl))) (mvT hZ (hw _ (List.mem_of_getElem? (i := 10) rfl))) (mvT hZ (hw _ (List.mem_of_getElem? (i := 11) rfl))) (by decide) (backOf (W := 0) (rm3_2_3 l Z aw hw [] cx0531 cx0533 ((nar .byte (nar .byte (((p0.toUInt32 >>> (((8 : Int32) * (0 : Int32)) &&& 31).toUInt32).toInt32).toInt8.toInt32)))) ((nar .byte (nar .byte (((p0.toUInt32 >>> (((8 : Int32) * (1 : Int32)) &&& 31).toUInt32).toInt32).toInt8.toInt32)))) ((nar .byte (nar .byte (((p1.toUInt32 >>> (((8 : Int32) * (0 : Int32)) &&& 31).toUInt32).toInt32).toInt8.toInt32)))) ((nar .byte (nar .byte (((p1.toUInt32 >>> (((8 : Int32) * (1 : Int32)) &&& 31).toUInt32).toInt32).toInt8.toInt32)))) ((nar .byte (nar .byte (((p1.toUInt32 >>> (((8 : Int32) * (2 : Int32)) &&& 31).toUInt32).toInt32).toInt8.toInt32)))) cy0531 cy0533 h533 n0 Z533 f535 f534) hZ (hw _ (List.mem_of_getElem? (i := 11) rfl)) (hw _ (List.mem_of_getElem? (i := 10) rfl)) (by decide) (by decide)) (g := (mkF m 32 #[.val (.int p0), .val (.int p1), .val (.int p2), .val (.int (2 : Int32)), .val (.int (3 : Int32)), .val (.ref cx0531), .val (.ref cx0533), .unset, .unset] [(.ref cx0533), (.ref cx0531)])) rfl (by rw [hml]; rfl) (argsL := [(.ref cx0531), (.ref cx0533)]) (rest := []) (lenOf pd_4 rfl) rfl (by show 2 * 0 + _ ≤ _; exact Nat.le_of_eq rfl) (hb hby at_32) (fun _ _ => ⟨rfl, e533, (by decide : 2 + 1 ≤ _), (by decide : 5 + 2 ≤ _)⟩)
          dsimp only [Pt.U, Pt.locs, Pt.cells, Pt.slots] at X537 l537 y537 z537 st537 hQ537
          subst l537 y537 z537
          obtain ⟨h537, e537⟩ : ∃ z, T537.heap = z := ⟨_, rfl⟩
          rw [e537] at hQ537
          obtain ⟨cx0537, cy0537, rfl, N537q, K537q, g_cx0537, zz_cx0537, f538⟩ := hQ537
          have f539 := f535.keep K537q nin0
          have f540 := f534.keep K537q nin0
          have ne541 : cx0531 ≠ cx0537 := Nat.ne_of_lt (Nat.lt_of_lt_of_le f535.lt zz_cx0537)
          have ne542 : cx0533 ≠ cx0537 := Nat.ne_of_lt (Nat.lt_of_lt_of_le f534.lt zz_cx0537)
          have Z537 := Nat.le_trans Z533 K537q.1
          have N537 := Fr.app N533 N537q
          obtain ⟨cl543, Ar543, q543, S543, M543, H543, G543⟩ := id f538
          obtain ⟨_, _, ⟨T544, L544, k544, n544⟩, -, X544, ⟨Lc544, hQ544, l544, y544, z544⟩, st544⟩ := Jvm.LawKit.callS X537 hx (y := (⟨"com/example/rollcall/rollcall/bench/MilenageXorPinLaw", "at", "([BIII)Z"⟩ : MethodName)) hown (mvT hZ (hw _ (List.mem_of_getElem? (i := 12) rfl))) (mvT hZ (hw _ (List.mem_of_getElem? (i := 13) rfl))) (mvT hZ (hw _ (List.mem_of_getElem? (i := 2) rfl))) (mvT hZ (hw _ (List.mem_of_getElem? (i := 14) rfl))) (by decide) (backOf (W := 0) (rm4_2_0 l Z aw hw [] cx0537 p0 p1 cy0537 h537 n0 Z537 f538) hZ (hw _ (List.mem_of_getElem? (i := 14) rfl)) (hw _ (List.mem_of_getElem? (i := 2) rfl)) (by decide) (by decide)) (g := (mkF m 82 #[.val (.int p0), .val (.int p1), .val (.int p2), .val (.int (2 : Int32)), .val (.int (3 : Int32)), .val (.ref cx0531), .val (.ref cx0533), .val (.ref cx0537), .val (.int (1 : Int32))] [(.int p1), (.int p0), (.int (0 : Int32)), (.ref cx0537)])) rfl (by rw [hml]; rfl) (argsL := [(.ref cx0537), (.int (0 : Int32)), (.int p0), (.int p1)]) (rest := []) (lenOf pd_6 rfl) rfl (by show 2 * 0 + _ ≤ _; exact Nat.le_of_eq rfl) (hb hby at_82) (fun _ _ => ⟨rfl, e537, (by decide : 3 + 0 ≤ _), (by decide : 7 + 0 ≤ _)⟩)
          dsimp only [Pt.U, Pt.locs, Pt.cells, Pt.slots] at X544 l544 y544 z544 st544 hQ544
          subst l544 y544 z544
          obtain ⟨rfl, N544q, e544⟩ := hQ544
          have N544 := Fr.app N537 N544q
          obtain ⟨_, _, ⟨T545, L545, k545, n545⟩, -, X545, ⟨Lc545, hQ545, l545, y545, z545⟩, st545⟩ := Jvm.LawKit.callS X544 hx (y := (⟨"com/example/rollcall/rollcall/bench/MilenageXorPinLaw", "at", "([BIII)Z"⟩ : MethodName)) hown (mvT hZ (hw _ (List.mem_of_getElem? (i := 12) rfl))) (mvT hZ (hw _ (List.mem_of_getElem? (i := 13) rfl))) (mvT hZ (hw _ (List.mem_of_getElem? (i := 2) rfl))) (mvT hZ (hw _ (List.mem_of_getElem? (i := 14) rfl))) (by decide) (backOf (W := 0) (rm4_2_1 l Z aw hw [] cx0537 p0 p1 cy0537 h537 n0 Z537 f538) hZ (hw _ (List.mem_of_getElem? (i := 14) rfl)) (hw _ (List.mem_of_getElem? (i := 2) rfl)) (by decide) (by decide)) (g := (mkF m 110 #[.val (.int p0), .val (.int p1), .val (.int p2), .val (.int (2 : Int32)), .val (.int (3 : Int32)), .val (.ref cx0531), .val (.ref cx0533), .val (.ref cx0537), .val (.int (1 : Int32))] [(.int p1), (.int p0), (.int (1 : Int32)), (.ref cx0537)])) rfl (by rw [hml]; rfl) (argsL := [(.ref cx0537), (.int (1 : Int32)), (.int p0), (.int p1)]) (rest := []) (lenOf pd_6 rfl) rfl (by show 2 * 0 + _ ≤ _; exact Nat.le_of_eq rfl) (hb hby at_110) (fun _ _ => ⟨rfl, e544, (by decide : 3 + 0 ≤ _), (by decide : 7 + 0 ≤ _)⟩)
          dsimp only [Pt.U, Pt.locs, Pt.cells, Pt.slots] at X545 l545 y545 z545 st545 hQ545
          subst l545 y545 z545
          obtain ⟨rfl, N545q, e545⟩ := hQ545
          have N545 := Fr.app N544 N545q
          obtain ⟨_, _, ⟨T546, L546, k546, n546⟩, -, X546, ⟨Lc546, hQ546, l546, y546, z546⟩, st546⟩ := Jvm.LawKit.callS X545 hx (y := (⟨"com/example/rollcall/rollcall/bench/MilenageXorPinLaw", "same", "([BII)Z"⟩ : MethodName)) hown (mvT hZ (hw _ (List.mem_of_getElem? (i := 15) rfl))) (mvT hZ (hw _ (List.mem_of_getElem? (i := 16) rfl))) (mvT hZ (hw _ (List.mem_of_getElem? (i := 2) rfl))) (mvT hZ (hw _ (List.mem_of_getElem? (i := 17) rfl))) (by decide) (backOf (W := 0) (rm5_2 l Z aw hw [] cx0531 p0 cy0531 h537 n0 Z537 f539) hZ (hw _ (List.mem_of_getElem? (i := 17) rfl)) (hw _ (List.mem_of_getElem? (i := 2) rfl)) (by decide) (by decide)) (g := (mkF m 160 #[.val (.int p0), .val (.int p1), .val (.int p2), .val (.int (2 : Int32)), .val (.int (3 : Int32)), .val (.ref cx0531), .val (.ref cx0533), .val (.ref cx0537), .val (.int (1 : Int32))] [(.int (2 : Int32)), (.int p0), (.ref cx0531)])) rfl (by rw [hml]; rfl) (argsL := [(.ref cx0531), (.int p0), (.int (2 : Int32))]) (rest := []) (lenOf pd_5 rfl) rfl (by show 2 * 0 + _ ≤ _; exact Nat.le_of_eq rfl) (hb hby at_160) (fun _ _ => ⟨rfl, e545, (by decide : 3 + 0 ≤ _), (by decide : 7 + 0 ≤ _)⟩)
          dsimp only [Pt.U, Pt.locs, Pt.cells, Pt.slots] at X546 l546 y546 z546 st546 hQ546
          subst l546 y546 z546
          obtain ⟨rfl, N546q, e546⟩ := hQ546
          have N546 := Fr.app N545 N546q
          obtain ⟨_, _, ⟨T547, L547, k547, n547⟩, -, X547, ⟨Lc547, hQ547, l547, y547, z547⟩, st547⟩ := Jvm.LawKit.callS X546 hx (y := (⟨"com/example/rollcall/rollcall/bench/MilenageXorPinLaw", "same", "([BII)Z"⟩ : MethodName)) hown (mvT hZ (hw _ (List.mem_of_getElem? (i := 15) rfl))) (mvT hZ (hw _ (List.mem_of_getElem? (i := 16) rfl))) (mvT hZ (hw _ (List.mem_of_getElem? (i := 2) rfl))) (mvT hZ (hw _ (List.mem_of_getElem? (i := 17) rfl))) (by decide) (backOf (W := 0) (rm5_3 l Z aw hw [] cx0533 p1 cy0533 h537 n0 Z537 f540) hZ (hw _ (List.mem_of_getElem? (i := 17) rfl)) (hw _ (List.mem_of_getElem? (i := 2) rfl)) (by decide) (by decide)) (g := (mkF m 171 #[.val (.int p0), .val (.int p1), .val (.int p2), .val (.int (2 : Int32)), .val (.int (3 : Int32)), .val (.ref cx0531), .val (.ref cx0533), .val (.ref cx0537), .val (.int (1 : Int32))] [(.int (3 : Int32)), (.int p1), (.ref cx0533)])) rfl (by rw [hml]; rfl) (argsL := [(.ref cx0533), (.int p1), (.int (3 : Int32))]) (rest := []) (lenOf pd_5 rfl) rfl (by show 2 * 0 + _ ≤ _; exact Nat.le_of_eq rfl) (hb hby at_171) (fun _ _ => ⟨rfl, e546, (by decide : 3 + 0 ≤ _), (by decide : 7 + 0 ≤ _)⟩)
          dsimp only [Pt.U, Pt.locs, Pt.cells, Pt.slots] at X547 l547 y547 z547 st547 hQ547
          subst l547 y547 z547
          obtain ⟨rfl, N547q, e547⟩ := hQ547
          have N547 := Fr.app N546 N547q
          obtain ⟨fs, hr, hrun, hended, hW, hsame⟩ := X547.leave (v := some (.int (1 : Int32))) (fun h => by rw [Bd.returns] at h; cases h)
          refine ⟨_, _, pre530 _ ?_, hrun, hended, _, _, rfl, ?_, ⟨_, rfl⟩, hW, hsame.mono (by decide) (by decide)⟩
          · skip
            show Steps p.tables e below (s₁.setTop (mkF m 10 #[.val (.int p0), .val (.int p1), .val (.int p2), .val (.int (2 : Int32)), .unset, .unset, .unset, .unset, .unset] [(.int (1 : Int32)), (.int (2 : Int32))])) _
            refine XS.iadd X0.here hx rfl (hb hby at_10) rfl ?_
            show Steps p.tables e below (s₁.setTop (mkF m 11 #[.val (.int p0), .val (.int p1), .val (.int p2), .val (.int (2 : Int32)), .unset, .unset, .unset, .unset, .unset] [(.int (3 : Int32))])) _
            refine XS.istore X0.here hx rfl (hb hby at_11) rfl (l' := #[.val (.int p0), .val (.int p1), .val (.int p2), .val (.int (2 : Int32)), .val (.int (3 : Int32)), .unset, .unset, .unset, .unset]) rfl ?_
            show Steps p.tables e below (s₁.setTop (mkF m 13 #[.val (.int p0), .val (.int p1), .val (.int p2), .val (.int (2 : Int32)), .val (.int (3 : Int32)), .unset, .unset, .unset, .unset] [])) _
            refine XS.iloadN X0.here hx rfl (hb hby at_13) rfl ?_
            show Steps p.tables e below (s₁.setTop (mkF m 14 #[.val (.int p0), .val (.int p1), .val (.int p2), .val (.int (2 : Int32)), .val (.int (3 : Int32)), .unset, .unset, .unset, .unset] [(.int p0)])) _
            refine XS.iloadN X0.here hx rfl (hb hby at_14) rfl ?_
            show Steps p.tables e below (s₁.setTop (mkF m 15 #[.val (.int p0), .val (.int p1), .val (.int p2), .val (.int (2 : Int32)), .val (.int (3 : Int32)), .unset, .unset, .unset, .unset] [(.int (2 : Int32)), (.int p0)])) _
            refine st531 _ ?_
            show Steps p.tables e below (T531.setTop (mkF m 18 #[.val (.int p0), .val (.int p1), .val (.int p2), .val (.int (2 : Int32)), .val (.int (3 : Int32)), .unset, .unset, .unset, .unset] [(.ref cx0531)])) _
            refine XS.astore X531.here hx rfl (hb hby at_18) rfl rfl (l' := #[.val (.int p0), .val (.int p1), .val (.int p2), .val (.int (2 : Int32)), .val (.int (3 : Int32)), .val (.ref cx0531), .unset, .unset, .unset]) rfl ?_
            show Steps p.tables e below (T531.setTop (mkF m 20 #[.val (.int p0), .val (.int p1), .val (.int p2), .val (.int (2 : Int32)), .val (.int (3 : Int32)), .val (.ref cx0531), .unset, .unset, .unset] [])) _
            refine XS.iloadN X531.here hx rfl (hb hby at_20) rfl ?_
            show Steps p.tables e below (T531.setTop (mkF m 21 #[.val (.int p0), .val (.int p1), .val (.int p2), .val (.int (2 : Int32)), .val (.int (3 : Int32)), .val (.ref cx0531), .unset, .unset, .unset] [(.int p1)])) _
            refine XS.iload X531.here hx rfl (hb hby at_21) rfl ?_
            show Steps p.tables e below (T531.setTop (mkF m 23 #[.val (.int p0), .val (.int p1), .val (.int p2), .val (.int (2 : Int32)), .val (.int (3 : Int32)), .val (.ref cx0531), .unset, .unset, .unset] [(.int (3 : Int32)), (.int p1)])) _
            refine st533 _ ?_
            show Steps p.tables e below (T533.setTop (mkF m 26 #[.val (.int p0), .val (.int p1), .val (.int p2), .val (.int (2 : Int32)), .val (.int (3 : Int32)), .val (.ref cx0531), .unset, .unset, .unset] [(.ref cx0533)])) _
            refine XS.astore X533.here hx rfl (hb hby at_26) rfl rfl (l' := #[.val (.int p0), .val (.int p1), .val (.int p2), .val (.int (2 : Int32)), .val (.int (3 : Int32)), .val (.ref cx0531), .val (.ref cx0533), .unset, .unset]) rfl ?_
            show Steps p.tables e below (T533.setTop (mkF m 28 #[.val (.int p0), .val (.int p1), .val (.int p2), .val (.int (2 : Int32)), .val (.int (3 : Int32)), .val (.ref cx0531), .val (.ref cx0533), .unset, .unset] [])) _
            refine XS.aload X533.here hx rfl (hb hby at_28) rfl rfl ?_
            show Steps p.tables e below (T533.setTop (mkF m 30 #[.val (.int p0), .val (.int p1), .val (.int p2), .val (.int (2 : Int32)), .val (.int (3 : Int32)), .val (.ref cx0531), .val (.ref cx0533), .unset, .unset] [(.ref cx0531)])) _
            refine XS.aload X533.here hx rfl (hb hby at_30) rfl rfl ?_
            show Steps p.tables e below (T533.setTop (mkF m 32 #[.val (.int p0), .val (.int p1), .val (.int p2), .val (.int (2 : Int32)), .val (.int (3 : Int32)), .val (.ref cx0531), .val (.ref cx0533), .unset, .unset] [(.ref cx0533), (.ref cx0531)])) _
            refine st537 _ ?_
            show Steps p.tables e below (T537.setTop (mkF m 35 #[.val (.int p0), .val (.int p1), .val (.int p2), .val (.int (2 : Int32)), .val (.int (3 : Int32)), .val (.ref cx0531), .val (.ref cx0533), .unset, .unset] [(.ref cx0537)])) _
            refine XS.astore X537.here hx rfl (hb hby at_35) rfl rfl (l' := #[.val (.int p0), .val (.int p1), .val (.int p2), .val (.int (2 : Int32)), .val (.int (3 : Int32)), .val (.ref cx0531), .val (.ref cx0533), .val (.ref cx0537), .unset]) rfl ?_
            show Steps p.tables e below (T537.setTop (mkF m 37 #[.val (.int p0), .val (.int p1), .val (.int p2), .val (.int (2 : Int32)), .val (.int (3 : Int32)), .val (.ref cx0531), .val (.ref cx0533), .val (.ref cx0537), .unset] [])) _
            refine XS.aload X537.here hx rfl (hb hby at_37) rfl rfl ?_
            show Steps p.tables e below (T537.setTop (mkF m 39 #[.val (.int p0), .val (.int p1), .val (.int p2), .val (.int (2 : Int32)), .val (.int (3 : Int32)), .val (.ref cx0531), .val (.ref cx0533), .val (.ref cx0537), .unset] [(.ref cx0537)])) _
            refine XS.ifnullNo X537.here hx rfl (hb hby at_39) rfl ?_
            show Steps p.tables e below (T537.setTop (mkF m 42 #[.val (.int p0), .val (.int p1), .val (.int p2), .val (.int (2 : Int32)), .val (.int (3 : Int32)), .val (.ref cx0531), .val (.ref cx0533), .val (.ref cx0537), .unset] [])) _
            refine XS.aload X537.here hx rfl (hb hby at_42) rfl rfl ?_
            show Steps p.tables e below (T537.setTop (mkF m 44 #[.val (.int p0), .val (.int p1), .val (.int p2), .val (.int (2 : Int32)), .val (.int (3 : Int32)), .val (.ref cx0531), .val (.ref cx0533), .val (.ref cx0537), .unset] [(.ref cx0537)])) _
            refine X537.arraylength hx (by rw [e537]; exact Ar543.1) (State.isArrayOf_alike hZ.alike Ar543.2.1) (g := (mkF m 44 #[.val (.int p0), .val (.int p1), .val (.int p2), .val (.int (2 : Int32)), .val (.int (3 : Int32)), .val (.ref cx0531), .val (.ref cx0533), .val (.ref cx0537), .unset] [(.ref cx0537)])) rfl rfl (hb hby at_44) _ ?_
            rw [len_of S543 M543]
            show Steps p.tables e below (T537.setTop (mkF m 45 #[.val (.int p0), .val (.int p1), .val (.int p2), .val (.int (2 : Int32)), .val (.int (3 : Int32)), .val (.ref cx0531), .val (.ref cx0533), .val (.ref cx0537), .unset] [(.int (2 : Int32))])) _
            refine XS.iloadN X537.here hx rfl (hb hby at_45) rfl ?_
            show Steps p.tables e below (T537.setTop (mkF m 46 #[.val (.int p0), .val (.int p1), .val (.int p2), .val (.int (2 : Int32)), .val (.int (3 : Int32)), .val (.ref cx0531), .val (.ref cx0533), .val (.ref cx0537), .unset] [(.int (2 : Int32)), (.int (2 : Int32))])) _
            refine XS.icmpNo X537.here hx rfl (hb hby at_46) rfl (teq (rfl : (2 : Int32) = (2 : Int32))).2 ?_
            show Steps p.tables e below (T537.setTop (mkF m 49 #[.val (.int p0), .val (.int p1), .val (.int p2), .val (.int (2 : Int32)), .val (.int (3 : Int32)), .val (.ref cx0531), .val (.ref cx0533), .val (.ref cx0537), .unset] [])) _
            refine XS.aload X537.here hx rfl (hb hby at_49) rfl rfl ?_
            show Steps p.tables e below (T537.setTop (mkF m 51 #[.val (.int p0), .val (.int p1), .val (.int p2), .val (.int (2 : Int32)), .val (.int (3 : Int32)), .val (.ref cx0531), .val (.ref cx0533), .val (.ref cx0537), .unset] [(.ref cx0537)])) _
            refine XS.aload X537.here hx rfl (hb hby at_51) rfl rfl ?_
            show Steps p.tables e below (T537.setTop (mkF m 53 #[.val (.int p0), .val (.int p1), .val (.int p2), .val (.int (2 : Int32)), .val (.int (3 : Int32)), .val (.ref cx0531), .val (.ref cx0533), .val (.ref cx0537), .unset] [(.ref cx0531), (.ref cx0537)])) _
            refine Jvm.RoadKit.acmp (g := (mkF m 53 #[.val (.int p0), .val (.int p1), .val (.int p2), .val (.int (2 : Int32)), .val (.int (3 : Int32)), .val (.ref cx0531), .val (.ref cx0533), .val (.ref cx0537), .unset] [(.ref cx0531), (.ref cx0537)])) X537 hx rfl rfl rfl (pc0 := 53) (pc' := 56) (same := false) rfl (hb hby at_53) rfl (decide_eq_false fun q => (Ne.symm ne541) (Value.ref.inj q)) (by decide) (by decide) ?_
            show Steps p.tables e below (T537.setTop (mkF m 56 #[.val (.int p0), .val (.int p1), .val (.int p2), .val (.int (2 : Int32)), .val (.int (3 : Int32)), .val (.ref cx0531), .val (.ref cx0533), .val (.ref cx0537), .unset] [])) _
            refine XS.aload X537.here hx rfl (hb hby at_56) rfl rfl ?_
            show Steps p.tables e below (T537.setTop (mkF m 58 #[.val (.int p0), .val (.int p1), .val (.int p2), .val (.int (2 : Int32)), .val (.int (3 : Int32)), .val (.ref cx0531), .val (.ref cx0533), .val (.ref cx0537), .unset] [(.ref cx0537)])) _
            refine XS.aload X537.here hx rfl (hb hby at_58) rfl rfl ?_
            show Steps p.tables e below (T537.setTop (mkF m 60 #[.val (.int p0), .val (.int p1), .val (.int p2), .val (.int (2 : Int32)), .val (.int (3 : Int32)), .val (.ref cx0531), .val (.ref cx0533), .val (.ref cx0537), .unset] [(.ref cx0533), (.ref cx0537)])) _
            refine Jvm.RoadKit.acmp (g := (mkF m 60 #[.val (.int p0), .val (.int p1), .val (.int p2), .val (.int (2 : Int32)), .val (.int (3 : Int32)), .val (.ref cx0531), .val (.ref cx0533), .val (.ref cx0537), .unset] [(.ref cx0533), (.ref cx0537)])) X537 hx rfl rfl rfl (pc0 := 60) (pc' := 65) (same := false) rfl (hb hby at_60) rfl (decide_eq_false fun q => (Ne.symm ne542) (Value.ref.inj q)) (by decide) (by decide) ?_
            show Steps p.tables e below (T537.setTop (mkF m 65 #[.val (.int p0), .val (.int p1), .val (.int p2), .val (.int (2 : Int32)), .val (.int (3 : Int32)), .val (.ref cx0531), .val (.ref cx0533), .val (.ref cx0537), .unset] [])) _
            refine XS.iconst X537.here hx rfl (hb hby at_65) ?_
            show Steps p.tables e below (T537.setTop (mkF m 66 #[.val (.int p0), .val (.int p1), .val (.int p2), .val (.int (2 : Int32)), .val (.int (3 : Int32)), .val (.ref cx0531), .val (.ref cx0533), .val (.ref cx0537), .unset] [(.int (1 : Int32))])) _
            refine XS.istore X537.here hx rfl (hb hby at_66) rfl (l' := #[.val (.int p0), .val (.int p1), .val (.int p2), .val (.int (2 : Int32)), .val (.int (3 : Int32)), .val (.ref cx0531), .val (.ref cx0533), .val (.ref cx0537), .val (.int (1 : Int32))]) rfl ?_
            show Steps p.tables e below (T537.setTop (mkF m 68 #[.val (.int p0), .val (.int p1), .val (.int p2), .val (.int (2 : Int32)), .val (.int (3 : Int32)), .val (.ref cx0531), .val (.ref cx0533), .val (.ref cx0537), .val (.int (1 : Int32))] [])) _
            refine XS.iloadN X537.here hx rfl (hb hby at_68) rfl ?_
            show Steps p.tables e below (T537.setTop (mkF m 69 #[.val (.int p0), .val (.int p1), .val (.int p2), .val (.int (2 : Int32)), .val (.int (3 : Int32)), .val (.ref cx0531), .val (.ref cx0533), .val (.ref cx0537), .val (.int (1 : Int32))] [(.int (2 : Int32))])) _
            refine XS.ifNo X537.here hx rfl (hb hby at_69) rfl ((if0 _ _).trans (tlt (by decide : (0 : Int32) < (2 : Int32))).2.2.2) ?_
            show Steps p.tables e below (T537.setTop (mkF m 72 #[.val (.int p0), .val (.int p1), .val (.int p2), .val (.int (2 : Int32)), .val (.int (3 : Int32)), .val (.ref cx0531), .val (.ref cx0533), .val (.ref cx0537), .val (.int (1 : Int32))] [])) _
            refine XS.iload X537.here hx rfl (hb hby at_72) rfl ?_
            show Steps p.tables e below (T537.setTop (mkF m 74 #[.val (.int p0), .val (.int p1), .val (.int p2), .val (.int (2 : Int32)), .val (.int (3 : Int32)), .val (.ref cx0531), .val (.ref cx0533), .val (.ref cx0537), .val (.int (1 : Int32))] [(.int (1 : Int32))])) _
            refine XS.ifNo X537.here hx rfl (hb hby at_74) rfl ((if0 _ _).trans (feq (by decide : ¬ ((1 : Int32) = (0 : Int32)))).1) ?_
            show Steps p.tables e below (T537.setTop (mkF m 77 #[.val (.int p0), .val (.int p1), .val (.int p2), .val (.int (2 : Int32)), .val (.int (3 : Int32)), .val (.ref cx0531), .val (.ref cx0533), .val (.ref cx0537), .val (.int (1 : Int32))] [])) _
            refine XS.aload X537.here hx rfl (hb hby at_77) rfl rfl ?_
            show Steps p.tables e below (T537.setTop (mkF m 79 #[.val (.int p0), .val (.int p1), .val (.int p2), .val (.int (2 : Int32)), .val (.int (3 : Int32)), .val (.ref cx0531), .val (.ref cx0533), .val (.ref cx0537), .val (.int (1 : Int32))] [(.ref cx0537)])) _
            refine XS.iconst X537.here hx rfl (hb hby at_79) ?_
            show Steps p.tables e below (T537.setTop (mkF m 80 #[.val (.int p0), .val (.int p1), .val (.int p2), .val (.int (2 : Int32)), .val (.int (3 : Int32)), .val (.ref cx0531), .val (.ref cx0533), .val (.ref cx0537), .val (.int (1 : Int32))] [(.int (0 : Int32)), (.ref cx0537)])) _
            refine XS.iloadN X537.here hx rfl (hb hby at_80) rfl ?_
            show Steps p.tables e below (T537.setTop (mkF m 81 #[.val (.int p0), .val (.int p1), .val (.int p2), .val (.int (2 : Int32)), .val (.int (3 : Int32)), .val (.ref cx0531), .val (.ref cx0533), .val (.ref cx0537), .val (.int (1 : Int32))] [(.int p0), (.int (0 : Int32)), (.ref cx0537)])) _
            refine XS.iloadN X537.here hx rfl (hb hby at_81) rfl ?_
            show Steps p.tables e below (T537.setTop (mkF m 82 #[.val (.int p0), .val (.int p1), .val (.int p2), .val (.int (2 : Int32)), .val (.int (3 : Int32)), .val (.ref cx0531), .val (.ref cx0533), .val (.ref cx0537), .val (.int (1 : Int32))] [(.int p1), (.int p0), (.int (0 : Int32)), (.ref cx0537)])) _
            refine st544 _ ?_
            show Steps p.tables e below (T544.setTop (mkF m 85 #[.val (.int p0), .val (.int p1), .val (.int p2), .val (.int (2 : Int32)), .val (.int (3 : Int32)), .val (.ref cx0531), .val (.ref cx0533), .val (.ref cx0537), .val (.int (1 : Int32))] [(.int (1 : Int32))])) _
            refine XS.ifNo X544.here hx rfl (hb hby at_85) rfl ((if0 _ _).trans (feq (by decide : ¬ ((1 : Int32) = (0 : Int32)))).1) ?_
            show Steps p.tables e below (T544.setTop (mkF m 88 #[.val (.int p0), .val (.int p1), .val (.int p2), .val (.int (2 : Int32)), .val (.int (3 : Int32)), .val (.ref cx0531), .val (.ref cx0533), .val (.ref cx0537), .val (.int (1 : Int32))] [])) _
            refine XS.iconst X544.here hx rfl (hb hby at_88) ?_
            show Steps p.tables e below (T544.setTop (mkF m 89 #[.val (.int p0), .val (.int p1), .val (.int p2), .val (.int (2 : Int32)), .val (.int (3 : Int32)), .val (.ref cx0531), .val (.ref cx0533), .val (.ref cx0537), .val (.int (1 : Int32))] [(.int (1 : Int32))])) _
            refine XS.goto X544.here hx rfl (pc0 := 89) (pc' := 93) rfl (hb hby at_89) (by decide) (by decide) ?_
            show Steps p.tables e below (T544.setTop (mkF m 93 #[.val (.int p0), .val (.int p1), .val (.int p2), .val (.int (2 : Int32)), .val (.int (3 : Int32)), .val (.ref cx0531), .val (.ref cx0533), .val (.ref cx0537), .val (.int (1 : Int32))] [(.int (1 : Int32))])) _
            refine XS.istore X544.here hx rfl (hb hby at_93) rfl (l' := #[.val (.int p0), .val (.int p1), .val (.int p2), .val (.int (2 : Int32)), .val (.int (3 : Int32)), .val (.ref cx0531), .val (.ref cx0533), .val (.ref cx0537), .val (.int (1 : Int32))]) rfl ?_
            show Steps p.tables e below (T544.setTop (mkF m 95 #[.val (.int p0), .val (.int p1), .val (.int p2), .val (.int (2 : Int32)), .val (.int (3 : Int32)), .val (.ref cx0531), .val (.ref cx0533), .val (.ref cx0537), .val (.int (1 : Int32))] [])) _
            refine XS.iloadN X544.here hx rfl (hb hby at_95) rfl ?_
            show Steps p.tables e below (T544.setTop (mkF m 96 #[.val (.int p0), .val (.int p1), .val (.int p2), .val (.int (2 : Int32)), .val (.int (3 : Int32)), .val (.ref cx0531), .val (.ref cx0533), .val (.ref cx0537), .val (.int (1 : Int32))] [(.int (2 : Int32))])) _
            refine XS.iconst X544.here hx rfl (hb hby at_96) ?_
            show Steps p.tables e below (T544.setTop (mkF m 97 #[.val (.int p0), .val (.int p1), .val (.int p2), .val (.int (2 : Int32)), .val (.int (3 : Int32)), .val (.ref cx0531), .val (.ref cx0533), .val (.ref cx0537), .val (.int (1 : Int32))] [(.int (1 : Int32)), (.int (2 : Int32))])) _
            refine XS.icmpNo X544.here hx rfl (hb hby at_97) rfl (tlt (by decide : (1 : Int32) < (2 : Int32))).2.2.2 ?_
            show Steps p.tables e below (T544.setTop (mkF m 100 #[.val (.int p0), .val (.int p1), .val (.int p2), .val (.int (2 : Int32)), .val (.int (3 : Int32)), .val (.ref cx0531), .val (.ref cx0533), .val (.ref cx0537), .val (.int (1 : Int32))] [])) _
            refine XS.iload X544.here hx rfl (hb hby at_100) rfl ?_
            show Steps p.tables e below (T544.setTop (mkF m 102 #[.val (.int p0), .val (.int p1), .val (.int p2), .val (.int (2 : Int32)), .val (.int (3 : Int32)), .val (.ref cx0531), .val (.ref cx0533), .val (.ref cx0537), .val (.int (1 : Int32))] [(.int (1 : Int32))])) _
            refine XS.ifNo X544.here hx rfl (hb hby at_102) rfl ((if0 _ _).trans (feq (by decide : ¬ ((1 : Int32) = (0 : Int32)))).1) ?_
            show Steps p.tables e below (T544.setTop (mkF m 105 #[.val (.int p0), .val (.int p1), .val (.int p2), .val (.int (2 : Int32)), .val (.int (3 : Int32)), .val (.ref cx0531), .val (.ref cx0533), .val (.ref cx0537), .val (.int (1 : Int32))] [])) _
            refine XS.aload X544.here hx rfl (hb hby at_105) rfl rfl ?_
            show Steps p.tables e below (T544.setTop (mkF m 107 #[.val (.int p0), .val (.int p1), .val (.int p2), .val (.int (2 : Int32)), .val (.int (3 : Int32)), .val (.ref cx0531), .val (.ref cx0533), .val (.ref cx0537), .val (.int (1 : Int32))] [(.ref cx0537)])) _
            refine XS.iconst X544.here hx rfl (hb hby at_107) ?_
            show Steps p.tables e below (T544.setTop (mkF m 108 #[.val (.int p0), .val (.int p1), .val (.int p2), .val (.int (2 : Int32)), .val (.int (3 : Int32)), .val (.ref cx0531), .val (.ref cx0533), .val (.ref cx0537), .val (.int (1 : Int32))] [(.int (1 : Int32)), (.ref cx0537)])) _
            refine XS.iloadN X544.here hx rfl (hb hby at_108) rfl ?_
            show Steps p.tables e below (T544.setTop (mkF m 109 #[.val (.int p0), .val (.int p1), .val (.int p2), .val (.int (2 : Int32)), .val (.int (3 : Int32)), .val (.ref cx0531), .val (.ref cx0533), .val (.ref cx0537), .val (.int (1 : Int32))] [(.int p0), (.int (1 : Int32)), (.ref cx0537)])) _
            refine XS.iloadN X544.here hx rfl (hb hby at_109) rfl ?_
            show Steps p.tables e below (T544.setTop (mkF m 110 #[.val (.int p0), .val (.int p1), .val (.int p2), .val (.int (2 : Int32)), .val (.int (3 : Int32)), .val (.ref cx0531), .val (.ref cx0533), .val (.ref cx0537), .val (.int (1 : Int32))] [(.int p1), (.int p0), (.int (1 : Int32)), (.ref cx0537)])) _
            refine st545 _ ?_
            show Steps p.tables e below (T545.setTop (mkF m 113 #[.val (.int p0), .val (.int p1), .val (.int p2), .val (.int (2 : Int32)), .val (.int (3 : Int32)), .val (.ref cx0531), .val (.ref cx0533), .val (.ref cx0537), .val (.int (1 : Int32))] [(.int (1 : Int32))])) _
            refine XS.ifNo X545.here hx rfl (hb hby at_113) rfl ((if0 _ _).trans (feq (by decide : ¬ ((1 : Int32) = (0 : Int32)))).1) ?_
            show Steps p.tables e below (T545.setTop (mkF m 116 #[.val (.int p0), .val (.int p1), .val (.int p2), .val (.int (2 : Int32)), .val (.int (3 : Int32)), .val (.ref cx0531), .val (.ref cx0533), .val (.ref cx0537), .val (.int (1 : Int32))] [])) _
            refine XS.iconst X545.here hx rfl (hb hby at_116) ?_
            show Steps p.tables e below (T545.setTop (mkF m 117 #[.val (.int p0), .val (.int p1), .val (.int p2), .val (.int (2 : Int32)), .val (.int (3 : Int32)), .val (.ref cx0531), .val (.ref cx0533), .val (.ref cx0537), .val (.int (1 : Int32))] [(.int (1 : Int32))])) _
            refine XS.goto X545.here hx rfl (pc0 := 117) (pc' := 121) rfl (hb hby at_117) (by decide) (by decide) ?_
            show Steps p.tables e below (T545.setTop (mkF m 121 #[.val (.int p0), .val (.int p1), .val (.int p2), .val (.int (2 : Int32)), .val (.int (3 : Int32)), .val (.ref cx0531), .val (.ref cx0533), .val (.ref cx0537), .val (.int (1 : Int32))] [(.int (1 : Int32))])) _
            refine XS.istore X545.here hx rfl (hb hby at_121) rfl (l' := #[.val (.int p0), .val (.int p1), .val (.int p2), .val (.int (2 : Int32)), .val (.int (3 : Int32)), .val (.ref cx0531), .val (.ref cx0533), .val (.ref cx0537), .val (.int (1 : Int32))]) rfl ?_
            show Steps p.tables e below (T545.setTop (mkF m 123 #[.val (.int p0), .val (.int p1), .val (.int p2), .val (.int (2 : Int32)), .val (.int (3 : Int32)), .val (.ref cx0531), .val (.ref cx0533), .val (.ref cx0537), .val (.int (1 : Int32))] [])) _
            refine XS.iloadN X545.here hx rfl (hb hby at_123) rfl ?_
            show Steps p.tables e below (T545.setTop (mkF m 124 #[.val (.int p0), .val (.int p1), .val (.int p2), .val (.int (2 : Int32)), .val (.int (3 : Int32)), .val (.ref cx0531), .val (.ref cx0533), .val (.ref cx0537), .val (.int (1 : Int32))] [(.int (2 : Int32))])) _
            refine XS.iconst X545.here hx rfl (hb hby at_124) ?_
            show Steps p.tables e below (T545.setTop (mkF m 125 #[.val (.int p0), .val (.int p1), .val (.int p2), .val (.int (2 : Int32)), .val (.int (3 : Int32)), .val (.ref cx0531), .val (.ref cx0533), .val (.ref cx0537), .val (.int (1 : Int32))] [(.int (2 : Int32)), (.int (2 : Int32))])) _
            refine XS.icmpYes X545.here hx rfl (pc0 := 125) (pc' := 151) rfl (hb hby at_125) rfl (flt (by decide : ¬ ((2 : Int32) < (2 : Int32)))).2.2.2 (by decide) (by decide) ?_
            show Steps p.tables e below (T545.setTop (mkF m 151 #[.val (.int p0), .val (.int p1), .val (.int p2), .val (.int (2 : Int32)), .val (.int (3 : Int32)), .val (.ref cx0531), .val (.ref cx0533), .val (.ref cx0537), .val (.int (1 : Int32))] [])) _
            refine XS.iload X545.here hx rfl (hb hby at_151) rfl ?_
            show Steps p.tables e below (T545.setTop (mkF m 153 #[.val (.int p0), .val (.int p1), .val (.int p2), .val (.int (2 : Int32)), .val (.int (3 : Int32)), .val (.ref cx0531), .val (.ref cx0533), .val (.ref cx0537), .val (.int (1 : Int32))] [(.int (1 : Int32))])) _
            refine XS.ifNo X545.here hx rfl (hb hby at_153) rfl ((if0 _ _).trans (feq (by decide : ¬ ((1 : Int32) = (0 : Int32)))).1) ?_
            show Steps p.tables e below (T545.setTop (mkF m 156 #[.val (.int p0), .val (.int p1), .val (.int p2), .val (.int (2 : Int32)), .val (.int (3 : Int32)), .val (.ref cx0531), .val (.ref cx0533), .val (.ref cx0537), .val (.int (1 : Int32))] [])) _
            refine XS.aload X545.here hx rfl (hb hby at_156) rfl rfl ?_
            show Steps p.tables e below (T545.setTop (mkF m 158 #[.val (.int p0), .val (.int p1), .val (.int p2), .val (.int (2 : Int32)), .val (.int (3 : Int32)), .val (.ref cx0531), .val (.ref cx0533), .val (.ref cx0537), .val (.int (1 : Int32))] [(.ref cx0531)])) _
            refine XS.iloadN X545.here hx rfl (hb hby at_158) rfl ?_
            show Steps p.tables e below (T545.setTop (mkF m 159 #[.val (.int p0), .val (.int p1), .val (.int p2), .val (.int (2 : Int32)), .val (.int (3 : Int32)), .val (.ref cx0531), .val (.ref cx0533), .val (.ref cx0537), .val (.int (1 : Int32))] [(.int p0), (.ref cx0531)])) _
            refine XS.iloadN X545.here hx rfl (hb hby at_159) rfl ?_
            show Steps p.tables e below (T545.setTop (mkF m 160 #[.val (.int p0), .val (.int p1), .val (.int p2), .val (.int (2 : Int32)), .val (.int (3 : Int32)), .val (.ref cx0531), .val (.ref cx0533), .val (.ref cx0537), .val (.int (1 : Int32))] [(.int (2 : Int32)), (.int p0), (.ref cx0531)])) _
            refine st546 _ ?_
            show Steps p.tables e below (T546.setTop (mkF m 163 #[.val (.int p0), .val (.int p1), .val (.int p2), .val (.int (2 : Int32)), .val (.int (3 : Int32)), .val (.ref cx0531), .val (.ref cx0533), .val (.ref cx0537), .val (.int (1 : Int32))] [(.int (1 : Int32))])) _
            refine XS.ifNo X546.here hx rfl (hb hby at_163) rfl ((if0 _ _).trans (feq (by decide : ¬ ((1 : Int32) = (0 : Int32)))).1) ?_
            show Steps p.tables e below (T546.setTop (mkF m 166 #[.val (.int p0), .val (.int p1), .val (.int p2), .val (.int (2 : Int32)), .val (.int (3 : Int32)), .val (.ref cx0531), .val (.ref cx0533), .val (.ref cx0537), .val (.int (1 : Int32))] [])) _
            refine XS.aload X546.here hx rfl (hb hby at_166) rfl rfl ?_
            show Steps p.tables e below (T546.setTop (mkF m 168 #[.val (.int p0), .val (.int p1), .val (.int p2), .val (.int (2 : Int32)), .val (.int (3 : Int32)), .val (.ref cx0531), .val (.ref cx0533), .val (.ref cx0537), .val (.int (1 : Int32))] [(.ref cx0533)])) _
            refine XS.iloadN X546.here hx rfl (hb hby at_168) rfl ?_
            show Steps p.tables e below (T546.setTop (mkF m 169 #[.val (.int p0), .val (.int p1), .val (.int p2), .val (.int (2 : Int32)), .val (.int (3 : Int32)), .val (.ref cx0531), .val (.ref cx0533), .val (.ref cx0537), .val (.int (1 : Int32))] [(.int p1), (.ref cx0533)])) _
            refine XS.iload X546.here hx rfl (hb hby at_169) rfl ?_
            show Steps p.tables e below (T546.setTop (mkF m 171 #[.val (.int p0), .val (.int p1), .val (.int p2), .val (.int (2 : Int32)), .val (.int (3 : Int32)), .val (.ref cx0531), .val (.ref cx0533), .val (.ref cx0537), .val (.int (1 : Int32))] [(.int (3 : Int32)), (.int p1), (.ref cx0533)])) _
            refine st547 _ ?_
            show Steps p.tables e below (T547.setTop (mkF m 174 #[.val (.int p0), .val (.int p1), .val (.int p2), .val (.int (2 : Int32)), .val (.int (3 : Int32)), .val (.ref cx0531), .val (.ref cx0533), .val (.ref cx0537), .val (.int (1 : Int32))] [(.int (1 : Int32))])) _
            refine XS.ifNo X547.here hx rfl (hb hby at_174) rfl ((if0 _ _).trans (feq (by decide : ¬ ((1 : Int32) = (0 : Int32)))).1) ?_
            show Steps p.tables e below (T547.setTop (mkF m 177 #[.val (.int p0), .val (.int p1), .val (.int p2), .val (.int (2 : Int32)), .val (.int (3 : Int32)), .val (.ref cx0531), .val (.ref cx0533), .val (.ref cx0537), .val (.int (1 : Int32))] [])) _
            refine XS.iconst X547.here hx rfl (hb hby at_177) ?_
            show Steps p.tables e below (T547.setTop (mkF m 178 #[.val (.int p0), .val (.int p1), .val (.int p2), .val (.int (2 : Int32)), .val (.int (3 : Int32)), .val (.ref cx0531), .val (.ref cx0533), .val (.ref cx0537), .val (.int (1 : Int32))] [(.int (1 : Int32))])) _
            refine XS.goto X547.here hx rfl (pc0 := 178) (pc' := 182) rfl (hb hby at_178) (by decide) (by decide) ?_
            show Steps p.tables e below (T547.setTop (mkF m 182 #[.val (.int p0), .val (.int p1), .val (.int p2), .val (.int (2 : Int32)), .val (.int (3 : Int32)), .val (.ref cx0531), .val (.ref cx0533), .val (.ref cx0537), .val (.int (1 : Int32))] [(.int (1 : Int32))])) _
            exact retN X547 hx (t := .boolean) Bd.returns (by simp) (hb hby at_182) hr
          · show Q0 Z p0 p1 p2 h0 n0 _ T547.heap _
            rw [e547]
            have hv : (1 : Int32) = (v0 p2) := by unfold v0; first | (rw [if_neg hs431, if_neg hs468, if_pos hs507, if_neg hs510]) | (simp only [if_neg hs431, if_neg hs468, if_pos hs507, if_neg hs510])
            exact ⟨(by rw [← hv]), N547⟩
      · skip
        have hs548 : (p2 &&& (3 : Int32)) = (3 : Int32) := own_3 p2 hs431 hs468 hs507
        have pre549 := fun (t : State) (k : Steps p.tables e below (s₁.setTop (mkF m 4 #[.val (.int p0), .val (.int p1), .val (.int p2), .val (.int (3 : Int32)), .unset, .unset, .unset, .unset, .unset] [])) t) => pre430 t (by show Steps p.tables e below (s₁.setTop (mkF m 4 #[.val (.int p0), .val (.int p1), .val (.int p2), .val (.int (p2 &&& (3 : Int32))), .unset, .unset, .unset, .unset, .unset] [])) t; rw [hs548]; exact k)
        have pre550 := fun (t : State) (k : Steps p.tables e below (s₁.setTop (mkF m 10 #[.val (.int p0), .val (.int p1), .val (.int p2), .val (.int (3 : Int32)), .unset, .unset, .unset, .unset, .unset] [(.int (((p2.toUInt32 >>> ((2 : Int32) &&& 31).toUInt32).toInt32) &&& (1 : Int32))), (.int (3 : Int32))])) t) => pre549 t (by
          show Steps p.tables e below (s₁.setTop (mkF m 4 #[.val (.int p0), .val (.int p1), .val (.int p2), .val (.int (3 : Int32)), .unset, .unset, .unset, .unset, .unset] [])) _
          refine XS.iloadN X0.here hx rfl (hb hby at_4) rfl ?_
          show Steps p.tables e below (s₁.setTop (mkF m 5 #[.val (.int p0), .val (.int p1), .val (.int p2), .val (.int (3 : Int32)), .unset, .unset, .unset, .unset, .unset] [(.int (3 : Int32))])) _
          refine XS.iloadN X0.here hx rfl (hb hby at_5) rfl ?_
          show Steps p.tables e below (s₁.setTop (mkF m 6 #[.val (.int p0), .val (.int p1), .val (.int p2), .val (.int (3 : Int32)), .unset, .unset, .unset, .unset, .unset] [(.int p2), (.int (3 : Int32))])) _
          refine XS.iconst X0.here hx rfl (hb hby at_6) ?_
          show Steps p.tables e below (s₁.setTop (mkF m 7 #[.val (.int p0), .val (.int p1), .val (.int p2), .val (.int (3 : Int32)), .unset, .unset, .unset, .unset, .unset] [(.int (2 : Int32)), (.int p2), (.int (3 : Int32))])) _
          refine XS.iushr X0.here hx rfl (hb hby at_7) rfl ?_
          show Steps p.tables e below (s₁.setTop (mkF m 8 #[.val (.int p0), .val (.int p1), .val (.int p2), .val (.int (3 : Int32)), .unset, .unset, .unset, .unset, .unset] [(.int ((p2.toUInt32 >>> ((2 : Int32) &&& 31).toUInt32).toInt32)), (.int (3 : Int32))])) _
          refine XS.iconst X0.here hx rfl (hb hby at_8) ?_
          show Steps p.tables e below (s₁.setTop (mkF m 9 #[.val (.int p0), .val (.int p1), .val (.int p2), .val (.int (3 : Int32)), .unset, .unset, .unset, .unset, .unset] [(.int (1 : Int32)), (.int ((p2.toUInt32 >>> ((2 : Int32) &&& 31).toUInt32).toInt32)), (.int (3 : Int32))])) _
          refine XS.iand X0.here hx rfl (hb hby at_9) rfl ?_
          exact k)
        by_cases hs551 : (((p2.toUInt32 >>> ((2 : Int32) &&& 31).toUInt32).toInt32) &&& (1 : Int32)) = (0 : Int32)
        · skip
          have pre552 := fun (t : State) (k : Steps p.tables e below (s₁.setTop (mkF m 10 #[.val (.int p0), .val (.int p1), .val (.int p2), .val (.int (3 : Int32)), .unset, .unset, .unset, .unset, .unset] [(.int (0 : Int32)), (.int (3 : Int32))])) t) => pre550 t (by show Steps p.tables e below (s₁.setTop (mkF m 10 #[.val (.int p0), .val (.int p1), .val (.int p2), .val (.int (3 : Int32)), .unset, .unset, .unset, .unset, .unset] [(.int (((p2.toUInt32 >>> ((2 : Int32) &&& 31).toUInt32).toInt32) &&& (1 : Int32))), (.int (3 : Int32))])) t; rw [hs551]; exact k)
          obtain ⟨_, _, ⟨T553, L553, k553, n553⟩, -, X553, ⟨Lc553, hQ553, l553, y553, z553⟩, st553⟩ := Jvm.LawKit.callS X0 hx (y := (⟨"com/example/rollcall/rollcall/bench/MilenageXorPinLaw", "bytes", "(II)[B"⟩ : MethodName)) hown (mvT hZ (hw _ (List.mem_of_getElem? (i := 0) rfl))) (mvT hZ (hw _ (List.mem_of_getElem? (i := 1) rfl))) (mvT hZ (hw _ (List.mem_of_getElem? (i := 2) rfl))) (mvT hZ (hw _ (List.mem_of_getElem? (i := 3) rfl))) (by decide) (backOf (W := 0) (rm1_3 l Z aw hw [] p0 h0 n0 Z0 ) hZ (hw _ (List.mem_of_getElem? (i := 3) rfl)) (hw _ (List.mem_of_getElem? (i := 2) rfl)) (by decide) (by decide)) (g := (mkF m 15 #[.val (.int p0), .val (.int p1), .val (.int p2), .val (.int (3 : Int32)), .val (.int (3 : Int32)), .unset, .unset, .unset, .unset] [(.int (3 : Int32)), (.int p0)])) rfl (by rw [hml]; rfl) (argsL := [(.int p0), (.int (3 : Int32))]) (rest := []) (lenOf pd_3 rfl) rfl (by show 2 * 0 + _ ≤ _; exact Nat.le_of_eq rfl) (hb hby at_15) (fun _ _ => ⟨rfl, e0, (by decide : 0 + 1 ≤ _), (by decide : 0 + 3 ≤ _)⟩)
          dsimp only [Pt.U, Pt.locs, Pt.cells, Pt.slots] at X553 l553 y553 z553 st553 hQ553
          subst l553 y553 z553
          obtain ⟨h553, e553⟩ : ∃ z, T553.heap = z := ⟨_, rfl⟩
          rw [e553] at hQ553
          obtain ⟨cx0553, cy0553, rfl, N553q, K553q, g_cx0553, zz_cx0553, f554⟩ := hQ553
          have Z553 := Nat.le_trans Z0 K553q.1
          have N553 := Fr.app N0 N553q
          obtain ⟨_, _, ⟨T555, L555, k555, n555⟩, -, X555, ⟨Lc555, hQ555, l555, y555, z555⟩, st555⟩ := Jvm.LawKit.callS X553 hx (y := (⟨"com/example/rollcall/rollcall/bench/MilenageXorPinLaw", "bytes", "(II)[B"⟩ : MethodName)) hown (mvT hZ (hw _ (List.mem_of_getElem? (i := 0) rfl))) (mvT hZ (hw _ (List.mem_of_getElem? (i := 1) rfl))) (mvT hZ (hw _ (List.mem_of_getElem? (i := 2) rfl))) (mvT hZ (hw _ (List.mem_of_getElem? (i := 3) rfl))) (by decide) (backOf (W := 0) (rm1_3 l Z aw hw [] p1 h553 n0 Z553 ) hZ (hw _ (List.mem_of_getElem? (i := 3) rfl)) (hw _ (List.mem_of_getElem? (i := 2) rfl)) (by decide) (by decide)) (g := (mkF m 23 #[.val (.int p0), .val (.int p1), .val (.int p2), .val (.int (3 : Int32)), .val (.int (3 : Int32)), .val (.ref cx0553), .unset, .unset, .unset] [(.int (3 : Int32)), (.int p1)])) rfl (by rw [hml]; rfl) (argsL := [(.int p1), (.int (3 : Int32))]) (rest := []) (lenOf pd_3 rfl) rfl (by show 2 * 0 + _ ≤ _; exact Nat.le_of_eq rfl) (hb hby at_23) (fun _ _ => ⟨rfl, e553, (by decide : 1 + 1 ≤ _), (by decide : 3 + 3 ≤ _)⟩)
          dsimp only [Pt.U, Pt.locs, Pt.cells, Pt.slots] at X555 l555 y555 z555 st555 hQ555
          subst l555 y555 z555
          obtain ⟨h555, e555⟩ : ∃ z, T555.heap = z := ⟨_, rfl⟩
          rw [e555] at hQ555
          obtain ⟨cx0555, cy0555, rfl, N555q, K555q, g_cx0555, zz_cx0555, f556⟩ := hQ555
          have f557 := f554.keep K555q nin0
          have ne558 : cx0553 ≠ cx0555 := Nat.ne_of_lt (Nat.lt_of_lt_of_le f554.lt zz_cx0555)
          have Z555 := Nat.le_trans Z553 K555q.1
          have N555 := Fr.app N553 N555q
          obtain ⟨_, _, ⟨T559, L559, k559, n559⟩, -, X559, ⟨Lc559, hQ559, l559, y559, z559⟩, st559⟩ := Jvm.LawKit.callS X555 hx (y := (⟨"com/example/rollcall/rollcall/bench/Milenage", "xor", "([B[B)[B"⟩ : MethodName)) hown (mvT hZ (hw _ (List.mem_of_getElem? (i := 8) rfl))) (mvT hZ (hw _ (List.mem_of_getElem? (i := 9) rfl))) (mvT hZ (hw _ (List.mem_of_getElem? (i := 10) rfl))) (mvT hZ (hw _ (List.mem_of_getElem? (i := 11) rfl))) (by decide) (backOf (W := 0) (rm3_3_3 l Z aw hw [] cx0553 cx0555 ((nar .byte (nar .byte (((p0.toUInt32 >>> (((8 : Int32) * (0 : Int32)) &&& 31).toUInt32).toInt32).toInt8.toInt32)))) ((nar .byte (nar .byte (((p0.toUInt32 >>> (((8 : Int32) * (1 : Int32)) &&& 31).toUInt32).toInt32).toInt8.toInt32)))) ((nar .byte (nar .byte (((p0.toUInt32 >>> (((8 : Int32) * (2 : Int32)) &&& 31).toUInt32).toInt32).toInt8.toInt32)))) ((nar .byte (nar .byte (((p1.toUInt32 >>> (((8 : Int32) * (0 : Int32)) &&& 31).toUInt32).toInt32).toInt8.toInt32)))) ((nar .byte (nar .byte (((p1.toUInt32 >>> (((8 : Int32) * (1 : Int32)) &&& 31).toUInt32).toInt32).toInt8.toInt32)))) ((nar .byte (nar .byte (((p1.toUInt32 >>> (((8 : Int32) * (2 : Int32)) &&& 31).toUInt32).toInt32).toInt8.toInt32)))) cy0553 cy0555 h555 n0 Z555 f557 f556) hZ (hw _ (List.mem_of_getElem? (i := 11) rfl)) (hw _ (List.mem_of_getElem? (i := 10) rfl)) (by decide) (by decide)) (g := (mkF m 32 #[.val (.int p0), .val (.int p1), .val (.int p2), .val (.int (3 : Int32)), .val (.int (3 : Int32)), .val (.ref cx0553), .val (.ref cx0555), .unset, .unset] [(.ref cx0555), (.ref cx0553)])) rfl (by rw [hml]; rfl) (argsL := [(.ref cx0553), (.ref cx0555)]) (rest := []) (lenOf pd_4 rfl) rfl (by show 2 * 0 + _ ≤ _; exact Nat.le_of_eq rfl) (hb hby at_32) (fun _ _ => ⟨rfl, e555, (by decide : 2 + 1 ≤ _), (by decide : 6 + 3 ≤ _)⟩)
          dsimp only [Pt.U, Pt.locs, Pt.cells, Pt.slots] at X559 l559 y559 z559 st559 hQ559
          subst l559 y559 z559
          obtain ⟨h559, e559⟩ : ∃ z, T559.heap = z := ⟨_, rfl⟩
          rw [e559] at hQ559
          obtain ⟨cx0559, cy0559, rfl, N559q, K559q, g_cx0559, zz_cx0559, f560⟩ := hQ559
          have f561 := f557.keep K559q nin0
          have f562 := f556.keep K559q nin0
          have ne563 : cx0553 ≠ cx0559 := Nat.ne_of_lt (Nat.lt_of_lt_of_le f557.lt zz_cx0559)
          have ne564 : cx0555 ≠ cx0559 := Nat.ne_of_lt (Nat.lt_of_lt_of_le f556.lt zz_cx0559)
          have Z559 := Nat.le_trans Z555 K559q.1
          have N559 := Fr.app N555 N559q
          obtain ⟨cl565, Ar565, q565, S565, M565, H565, G565⟩ := id f560
          obtain ⟨_, _, ⟨T566, L566, k566, n566⟩, -, X566, ⟨Lc566, hQ566, l566, y566, z566⟩, st566⟩ := Jvm.LawKit.callS X559 hx (y := (⟨"com/example/rollcall/rollcall/bench/MilenageXorPinLaw", "at", "([BIII)Z"⟩ : MethodName)) hown (mvT hZ (hw _ (List.mem_of_getElem? (i := 12) rfl))) (mvT hZ (hw _ (List.mem_of_getElem? (i := 13) rfl))) (mvT hZ (hw _ (List.mem_of_getElem? (i := 2) rfl))) (mvT hZ (hw _ (List.mem_of_getElem? (i := 14) rfl))) (by decide) (backOf (W := 0) (rm4_3_0 l Z aw hw [] cx0559 p0 p1 cy0559 h559 n0 Z559 f560) hZ (hw _ (List.mem_of_getElem? (i := 14) rfl)) (hw _ (List.mem_of_getElem? (i := 2) rfl)) (by decide) (by decide)) (g := (mkF m 82 #[.val (.int p0), .val (.int p1), .val (.int p2), .val (.int (3 : Int32)), .val (.int (3 : Int32)), .val (.ref cx0553), .val (.ref cx0555), .val (.ref cx0559), .val (.int (1 : Int32))] [(.int p1), (.int p0), (.int (0 : Int32)), (.ref cx0559)])) rfl (by rw [hml]; rfl) (argsL := [(.ref cx0559), (.int (0 : Int32)), (.int p0), (.int p1)]) (rest := []) (lenOf pd_6 rfl) rfl (by show 2 * 0 + _ ≤ _; exact Nat.le_of_eq rfl) (hb hby at_82) (fun _ _ => ⟨rfl, e559, (by decide : 3 + 0 ≤ _), (by decide : 9 + 0 ≤ _)⟩)
          dsimp only [Pt.U, Pt.locs, Pt.cells, Pt.slots] at X566 l566 y566 z566 st566 hQ566
          subst l566 y566 z566
          obtain ⟨rfl, N566q, e566⟩ := hQ566
          have N566 := Fr.app N559 N566q
          obtain ⟨_, _, ⟨T567, L567, k567, n567⟩, -, X567, ⟨Lc567, hQ567, l567, y567, z567⟩, st567⟩ := Jvm.LawKit.callS X566 hx (y := (⟨"com/example/rollcall/rollcall/bench/MilenageXorPinLaw", "at", "([BIII)Z"⟩ : MethodName)) hown (mvT hZ (hw _ (List.mem_of_getElem? (i := 12) rfl))) (mvT hZ (hw _ (List.mem_of_getElem? (i := 13) rfl))) (mvT hZ (hw _ (List.mem_of_getElem? (i := 2) rfl))) (mvT hZ (hw _ (List.mem_of_getElem? (i := 14) rfl))) (by decide) (backOf (W := 0) (rm4_3_1 l Z aw hw [] cx0559 p0 p1 cy0559 h559 n0 Z559 f560) hZ (hw _ (List.mem_of_getElem? (i := 14) rfl)) (hw _ (List.mem_of_getElem? (i := 2) rfl)) (by decide) (by decide)) (g := (mkF m 110 #[.val (.int p0), .val (.int p1), .val (.int p2), .val (.int (3 : Int32)), .val (.int (3 : Int32)), .val (.ref cx0553), .val (.ref cx0555), .val (.ref cx0559), .val (.int (1 : Int32))] [(.int p1), (.int p0), (.int (1 : Int32)), (.ref cx0559)])) rfl (by rw [hml]; rfl) (argsL := [(.ref cx0559), (.int (1 : Int32)), (.int p0), (.int p1)]) (rest := []) (lenOf pd_6 rfl) rfl (by show 2 * 0 + _ ≤ _; exact Nat.le_of_eq rfl) (hb hby at_110) (fun _ _ => ⟨rfl, e566, (by decide : 3 + 0 ≤ _), (by decide : 9 + 0 ≤ _)⟩)
          dsimp only [Pt.U, Pt.locs, Pt.cells, Pt.slots] at X567 l567 y567 z567 st567 hQ567
          subst l567 y567 z567
          obtain ⟨rfl, N567q, e567⟩ := hQ567
          have N567 := Fr.app N566 N567q
          obtain ⟨_, _, ⟨T568, L568, k568, n568⟩, -, X568, ⟨Lc568, hQ568, l568, y568, z568⟩, st568⟩ := Jvm.LawKit.callS X567 hx (y := (⟨"com/example/rollcall/rollcall/bench/MilenageXorPinLaw", "at", "([BIII)Z"⟩ : MethodName)) hown (mvT hZ (hw _ (List.mem_of_getElem? (i := 12) rfl))) (mvT hZ (hw _ (List.mem_of_getElem? (i := 13) rfl))) (mvT hZ (hw _ (List.mem_of_getElem? (i := 2) rfl))) (mvT hZ (hw _ (List.mem_of_getElem? (i := 14) rfl))) (by decide) (backOf (W := 0) (rm4_3_2 l Z aw hw [] cx0559 p0 p1 cy0559 h559 n0 Z559 f560) hZ (hw _ (List.mem_of_getElem? (i := 14) rfl)) (hw _ (List.mem_of_getElem? (i := 2) rfl)) (by decide) (by decide)) (g := (mkF m 138 #[.val (.int p0), .val (.int p1), .val (.int p2), .val (.int (3 : Int32)), .val (.int (3 : Int32)), .val (.ref cx0553), .val (.ref cx0555), .val (.ref cx0559), .val (.int (1 : Int32))] [(.int p1), (.int p0), (.int (2 : Int32)), (.ref cx0559)])) rfl (by rw [hml]; rfl) (argsL := [(.ref cx0559), (.int (2 : Int32)), (.int p0), (.int p1)]) (rest := []) (lenOf pd_6 rfl) rfl (by show 2 * 0 + _ ≤ _; exact Nat.le_of_eq rfl) (hb hby at_138) (fun _ _ => ⟨rfl, e567, (by decide : 3 + 0 ≤ _), (by decide : 9 + 0 ≤ _)⟩)
          dsimp only [Pt.U, Pt.locs, Pt.cells, Pt.slots] at X568 l568 y568 z568 st568 hQ568
          subst l568 y568 z568
          obtain ⟨rfl, N568q, e568⟩ := hQ568
          have N568 := Fr.app N567 N568q
          obtain ⟨_, _, ⟨T569, L569, k569, n569⟩, -, X569, ⟨Lc569, hQ569, l569, y569, z569⟩, st569⟩ := Jvm.LawKit.callS X568 hx (y := (⟨"com/example/rollcall/rollcall/bench/MilenageXorPinLaw", "same", "([BII)Z"⟩ : MethodName)) hown (mvT hZ (hw _ (List.mem_of_getElem? (i := 15) rfl))) (mvT hZ (hw _ (List.mem_of_getElem? (i := 16) rfl))) (mvT hZ (hw _ (List.mem_of_getElem? (i := 2) rfl))) (mvT hZ (hw _ (List.mem_of_getElem? (i := 17) rfl))) (by decide) (backOf (W := 0) (rm5_3 l Z aw hw [] cx0553 p0 cy0553 h559 n0 Z559 f561) hZ (hw _ (List.mem_of_getElem? (i := 17) rfl)) (hw _ (List.mem_of_getElem? (i := 2) rfl)) (by decide) (by decide)) (g := (mkF m 160 #[.val (.int p0), .val (.int p1), .val (.int p2), .val (.int (3 : Int32)), .val (.int (3 : Int32)), .val (.ref cx0553), .val (.ref cx0555), .val (.ref cx0559), .val (.int (1 : Int32))] [(.int (3 : Int32)), (.int p0), (.ref cx0553)])) rfl (by rw [hml]; rfl) (argsL := [(.ref cx0553), (.int p0), (.int (3 : Int32))]) (rest := []) (lenOf pd_5 rfl) rfl (by show 2 * 0 + _ ≤ _; exact Nat.le_of_eq rfl) (hb hby at_160) (fun _ _ => ⟨rfl, e568, (by decide : 3 + 0 ≤ _), (by decide : 9 + 0 ≤ _)⟩)
          dsimp only [Pt.U, Pt.locs, Pt.cells, Pt.slots] at X569 l569 y569 z569 st569 hQ569
          subst l569 y569 z569
          obtain ⟨rfl, N569q, e569⟩ := hQ569
          have N569 := Fr.app N568 N569q
          obtain ⟨_, _, ⟨T570, L570, k570, n570⟩, -, X570, ⟨Lc570, hQ570, l570, y570, z570⟩, st570⟩ := Jvm.LawKit.callS X569 hx (y := (⟨"com/example/rollcall/rollcall/bench/MilenageXorPinLaw", "same", "([BII)Z"⟩ : MethodName)) hown (mvT hZ (hw _ (List.mem_of_getElem? (i := 15) rfl))) (mvT hZ (hw _ (List.mem_of_getElem? (i := 16) rfl))) (mvT hZ (hw _ (List.mem_of_getElem? (i := 2) rfl))) (mvT hZ (hw _ (List.mem_of_getElem? (i := 17) rfl))) (by decide) (backOf (W := 0) (rm5_3 l Z aw hw [] cx0555 p1 cy0555 h559 n0 Z559 f562) hZ (hw _ (List.mem_of_getElem? (i := 17) rfl)) (hw _ (List.mem_of_getElem? (i := 2) rfl)) (by decide) (by decide)) (g := (mkF m 171 #[.val (.int p0), .val (.int p1), .val (.int p2), .val (.int (3 : Int32)), .val (.int (3 : Int32)), .val (.ref cx0553), .val (.ref cx0555), .val (.ref cx0559), .val (.int (1 : Int32))] [(.int (3 : Int32)), (.int p1), (.ref cx0555)])) rfl (by rw [hml]; rfl) (argsL := [(.ref cx0555), (.int p1), (.int (3 : Int32))]) (rest := []) (lenOf pd_5 rfl) rfl (by show 2 * 0 + _ ≤ _; exact Nat.le_of_eq rfl) (hb hby at_171) (fun _ _ => ⟨rfl, e569, (by decide : 3 + 0 ≤ _), (by decide : 9 + 0 ≤ _)⟩)
          dsimp only [Pt.U, Pt.locs, Pt.cells, Pt.slots] at X570 l570 y570 z570 st570 hQ570
          subst l570 y570 z570
          obtain ⟨rfl, N570q, e570⟩ := hQ570
          have N570 := Fr.app N569 N570q
          obtain ⟨fs, hr, hrun, hended, hW, hsame⟩ := X570.leave (v := some (.int (1 : Int32))) (fun h => by rw [Bd.returns] at h; cases h)
          refine ⟨_, _, pre552 _ ?_, hrun, hended, _, _, rfl, ?_, ⟨_, rfl⟩, hW, hsame.mono (by decide) (by decide)⟩
          · skip
            show Steps p.tables e below (s₁.setTop (mkF m 10 #[.val (.int p0), .val (.int p1), .val (.int p2), .val (.int (3 : Int32)), .unset, .unset, .unset, .unset, .unset] [(.int (0 : Int32)), (.int (3 : Int32))])) _
            refine XS.iadd X0.here hx rfl (hb hby at_10) rfl ?_
            show Steps p.tables e below (s₁.setTop (mkF m 11 #[.val (.int p0), .val (.int p1), .val (.int p2), .val (.int (3 : Int32)), .unset, .unset, .unset, .unset, .unset] [(.int (3 : Int32))])) _
            refine XS.istore X0.here hx rfl (hb hby at_11) rfl (l' := #[.val (.int p0), .val (.int p1), .val (.int p2), .val (.int (3 : Int32)), .val (.int (3 : Int32)), .unset, .unset, .unset, .unset]) rfl ?_
            show Steps p.tables e below (s₁.setTop (mkF m 13 #[.val (.int p0), .val (.int p1), .val (.int p2), .val (.int (3 : Int32)), .val (.int (3 : Int32)), .unset, .unset, .unset, .unset] [])) _
            refine XS.iloadN X0.here hx rfl (hb hby at_13) rfl ?_
            show Steps p.tables e below (s₁.setTop (mkF m 14 #[.val (.int p0), .val (.int p1), .val (.int p2), .val (.int (3 : Int32)), .val (.int (3 : Int32)), .unset, .unset, .unset, .unset] [(.int p0)])) _
            refine XS.iloadN X0.here hx rfl (hb hby at_14) rfl ?_
            show Steps p.tables e below (s₁.setTop (mkF m 15 #[.val (.int p0), .val (.int p1), .val (.int p2), .val (.int (3 : Int32)), .val (.int (3 : Int32)), .unset, .unset, .unset, .unset] [(.int (3 : Int32)), (.int p0)])) _
            refine st553 _ ?_
            show Steps p.tables e below (T553.setTop (mkF m 18 #[.val (.int p0), .val (.int p1), .val (.int p2), .val (.int (3 : Int32)), .val (.int (3 : Int32)), .unset, .unset, .unset, .unset] [(.ref cx0553)])) _
            refine XS.astore X553.here hx rfl (hb hby at_18) rfl rfl (l' := #[.val (.int p0), .val (.int p1), .val (.int p2), .val (.int (3 : Int32)), .val (.int (3 : Int32)), .val (.ref cx0553), .unset, .unset, .unset]) rfl ?_
            show Steps p.tables e below (T553.setTop (mkF m 20 #[.val (.int p0), .val (.int p1), .val (.int p2), .val (.int (3 : Int32)), .val (.int (3 : Int32)), .val (.ref cx0553), .unset, .unset, .unset] [])) _
            refine XS.iloadN X553.here hx rfl (hb hby at_20) rfl ?_
            show Steps p.tables e below (T553.setTop (mkF m 21 #[.val (.int p0), .val (.int p1), .val (.int p2), .val (.int (3 : Int32)), .val (.int (3 : Int32)), .val (.ref cx0553), .unset, .unset, .unset] [(.int p1)])) _
            refine XS.iload X553.here hx rfl (hb hby at_21) rfl ?_
            show Steps p.tables e below (T553.setTop (mkF m 23 #[.val (.int p0), .val (.int p1), .val (.int p2), .val (.int (3 : Int32)), .val (.int (3 : Int32)), .val (.ref cx0553), .unset, .unset, .unset] [(.int (3 : Int32)), (.int p1)])) _
            refine st555 _ ?_
            show Steps p.tables e below (T555.setTop (mkF m 26 #[.val (.int p0), .val (.int p1), .val (.int p2), .val (.int (3 : Int32)), .val (.int (3 : Int32)), .val (.ref cx0553), .unset, .unset, .unset] [(.ref cx0555)])) _
            refine XS.astore X555.here hx rfl (hb hby at_26) rfl rfl (l' := #[.val (.int p0), .val (.int p1), .val (.int p2), .val (.int (3 : Int32)), .val (.int (3 : Int32)), .val (.ref cx0553), .val (.ref cx0555), .unset, .unset]) rfl ?_
            show Steps p.tables e below (T555.setTop (mkF m 28 #[.val (.int p0), .val (.int p1), .val (.int p2), .val (.int (3 : Int32)), .val (.int (3 : Int32)), .val (.ref cx0553), .val (.ref cx0555), .unset, .unset] [])) _
            refine XS.aload X555.here hx rfl (hb hby at_28) rfl rfl ?_
            show Steps p.tables e below (T555.setTop (mkF m 30 #[.val (.int p0), .val (.int p1), .val (.int p2), .val (.int (3 : Int32)), .val (.int (3 : Int32)), .val (.ref cx0553), .val (.ref cx0555), .unset, .unset] [(.ref cx0553)])) _
            refine XS.aload X555.here hx rfl (hb hby at_30) rfl rfl ?_
            show Steps p.tables e below (T555.setTop (mkF m 32 #[.val (.int p0), .val (.int p1), .val (.int p2), .val (.int (3 : Int32)), .val (.int (3 : Int32)), .val (.ref cx0553), .val (.ref cx0555), .unset, .unset] [(.ref cx0555), (.ref cx0553)])) _
            refine st559 _ ?_
            show Steps p.tables e below (T559.setTop (mkF m 35 #[.val (.int p0), .val (.int p1), .val (.int p2), .val (.int (3 : Int32)), .val (.int (3 : Int32)), .val (.ref cx0553), .val (.ref cx0555), .unset, .unset] [(.ref cx0559)])) _
            refine XS.astore X559.here hx rfl (hb hby at_35) rfl rfl (l' := #[.val (.int p0), .val (.int p1), .val (.int p2), .val (.int (3 : Int32)), .val (.int (3 : Int32)), .val (.ref cx0553), .val (.ref cx0555), .val (.ref cx0559), .unset]) rfl ?_
            show Steps p.tables e below (T559.setTop (mkF m 37 #[.val (.int p0), .val (.int p1), .val (.int p2), .val (.int (3 : Int32)), .val (.int (3 : Int32)), .val (.ref cx0553), .val (.ref cx0555), .val (.ref cx0559), .unset] [])) _
            refine XS.aload X559.here hx rfl (hb hby at_37) rfl rfl ?_
            show Steps p.tables e below (T559.setTop (mkF m 39 #[.val (.int p0), .val (.int p1), .val (.int p2), .val (.int (3 : Int32)), .val (.int (3 : Int32)), .val (.ref cx0553), .val (.ref cx0555), .val (.ref cx0559), .unset] [(.ref cx0559)])) _
            refine XS.ifnullNo X559.here hx rfl (hb hby at_39) rfl ?_
            show Steps p.tables e below (T559.setTop (mkF m 42 #[.val (.int p0), .val (.int p1), .val (.int p2), .val (.int (3 : Int32)), .val (.int (3 : Int32)), .val (.ref cx0553), .val (.ref cx0555), .val (.ref cx0559), .unset] [])) _
            refine XS.aload X559.here hx rfl (hb hby at_42) rfl rfl ?_
            show Steps p.tables e below (T559.setTop (mkF m 44 #[.val (.int p0), .val (.int p1), .val (.int p2), .val (.int (3 : Int32)), .val (.int (3 : Int32)), .val (.ref cx0553), .val (.ref cx0555), .val (.ref cx0559), .unset] [(.ref cx0559)])) _
            refine X559.arraylength hx (by rw [e559]; exact Ar565.1) (State.isArrayOf_alike hZ.alike Ar565.2.1) (g := (mkF m 44 #[.val (.int p0), .val (.int p1), .val (.int p2), .val (.int (3 : Int32)), .val (.int (3 : Int32)), .val (.ref cx0553), .val (.ref cx0555), .val (.ref cx0559), .unset] [(.ref cx0559)])) rfl rfl (hb hby at_44) _ ?_
            rw [len_of S565 M565]
            show Steps p.tables e below (T559.setTop (mkF m 45 #[.val (.int p0), .val (.int p1), .val (.int p2), .val (.int (3 : Int32)), .val (.int (3 : Int32)), .val (.ref cx0553), .val (.ref cx0555), .val (.ref cx0559), .unset] [(.int (3 : Int32))])) _
            refine XS.iloadN X559.here hx rfl (hb hby at_45) rfl ?_
            show Steps p.tables e below (T559.setTop (mkF m 46 #[.val (.int p0), .val (.int p1), .val (.int p2), .val (.int (3 : Int32)), .val (.int (3 : Int32)), .val (.ref cx0553), .val (.ref cx0555), .val (.ref cx0559), .unset] [(.int (3 : Int32)), (.int (3 : Int32))])) _
            refine XS.icmpNo X559.here hx rfl (hb hby at_46) rfl (teq (rfl : (3 : Int32) = (3 : Int32))).2 ?_
            show Steps p.tables e below (T559.setTop (mkF m 49 #[.val (.int p0), .val (.int p1), .val (.int p2), .val (.int (3 : Int32)), .val (.int (3 : Int32)), .val (.ref cx0553), .val (.ref cx0555), .val (.ref cx0559), .unset] [])) _
            refine XS.aload X559.here hx rfl (hb hby at_49) rfl rfl ?_
            show Steps p.tables e below (T559.setTop (mkF m 51 #[.val (.int p0), .val (.int p1), .val (.int p2), .val (.int (3 : Int32)), .val (.int (3 : Int32)), .val (.ref cx0553), .val (.ref cx0555), .val (.ref cx0559), .unset] [(.ref cx0559)])) _
            refine XS.aload X559.here hx rfl (hb hby at_51) rfl rfl ?_
            show Steps p.tables e below (T559.setTop (mkF m 53 #[.val (.int p0), .val (.int p1), .val (.int p2), .val (.int (3 : Int32)), .val (.int (3 : Int32)), .val (.ref cx0553), .val (.ref cx0555), .val (.ref cx0559), .unset] [(.ref cx0553), (.ref cx0559)])) _
            refine Jvm.RoadKit.acmp (g := (mkF m 53 #[.val (.int p0), .val (.int p1), .val (.int p2), .val (.int (3 : Int32)), .val (.int (3 : Int32)), .val (.ref cx0553), .val (.ref cx0555), .val (.ref cx0559), .unset] [(.ref cx0553), (.ref cx0559)])) X559 hx rfl rfl rfl (pc0 := 53) (pc' := 56) (same := false) rfl (hb hby at_53) rfl (decide_eq_false fun q => (Ne.symm ne563) (Value.ref.inj q)) (by decide) (by decide) ?_
            show Steps p.tables e below (T559.setTop (mkF m 56 #[.val (.int p0), .val (.int p1), .val (.int p2), .val (.int (3 : Int32)), .val (.int (3 : Int32)), .val (.ref cx0553), .val (.ref cx0555), .val (.ref cx0559), .unset] [])) _
            refine XS.aload X559.here hx rfl (hb hby at_56) rfl rfl ?_
            show Steps p.tables e below (T559.setTop (mkF m 58 #[.val (.int p0), .val (.int p1), .val (.int p2), .val (.int (3 : Int32)), .val (.int (3 : Int32)), .val (.ref cx0553), .val (.ref cx0555), .val (.ref cx0559), .unset] [(.ref cx0559)])) _
            refine XS.aload X559.here hx rfl (hb hby at_58) rfl rfl ?_
            show Steps p.tables e below (T559.setTop (mkF m 60 #[.val (.int p0), .val (.int p1), .val (.int p2), .val (.int (3 : Int32)), .val (.int (3 : Int32)), .val (.ref cx0553), .val (.ref cx0555), .val (.ref cx0559), .unset] [(.ref cx0555), (.ref cx0559)])) _
            refine Jvm.RoadKit.acmp (g := (mkF m 60 #[.val (.int p0), .val (.int p1), .val (.int p2), .val (.int (3 : Int32)), .val (.int (3 : Int32)), .val (.ref cx0553), .val (.ref cx0555), .val (.ref cx0559), .unset] [(.ref cx0555), (.ref cx0559)])) X559 hx rfl rfl rfl (pc0 := 60) (pc' := 65) (same := false) rfl (hb hby at_60) rfl (decide_eq_false fun q => (Ne.symm ne564) (Value.ref.inj q)) (by decide) (by decide) ?_
            show Steps p.tables e below (T559.setTop (mkF m 65 #[.val (.int p0), .val (.int p1), .val (.int p2), .val (.int (3 : Int32)), .val (.int (3 : Int32)), .val (.ref cx0553), .val (.ref cx0555), .val (.ref cx0559), .unset] [])) _
            refine XS.iconst X559.here hx rfl (hb hby at_65) ?_
            show Steps p.tables e below (T559.setTop (mkF m 66 #[.val (.int p0), .val (.int p1), .val (.int p2), .val (.int (3 : Int32)), .val (.int (3 : Int32)), .val (.ref cx0553), .val (.ref cx0555), .val (.ref cx0559), .unset] [(.int (1 : Int32))])) _
            refine XS.istore X559.here hx rfl (hb hby at_66) rfl (l' := #[.val (.int p0), .val (.int p1), .val (.int p2), .val (.int (3 : Int32)), .val (.int (3 : Int32)), .val (.ref cx0553), .val (.ref cx0555), .val (.ref cx0559), .val (.int (1 : Int32))]) rfl ?_
            show Steps p.tables e below (T559.setTop (mkF m 68 #[.val (.int p0), .val (.int p1), .val (.int p2), .val (.int (3 : Int32)), .val (.int (3 : Int32)), .val (.ref cx0553), .val (.ref cx0555), .val (.ref cx0559), .val (.int (1 : Int32))] [])) _
            refine XS.iloadN X559.here hx rfl (hb hby at_68) rfl ?_
            show Steps p.tables e below (T559.setTop (mkF m 69 #[.val (.int p0), .val (.int p1), .val (.int p2), .val (.int (3 : Int32)), .val (.int (3 : Int32)), .val (.ref cx0553), .val (.ref cx0555), .val (.ref cx0559), .val (.int (1 : Int32))] [(.int (3 : Int32))])) _
            refine XS.ifNo X559.here hx rfl (hb hby at_69) rfl ((if0 _ _).trans (tlt (by decide : (0 : Int32) < (3 : Int32))).2.2.2) ?_
            show Steps p.tables e below (T559.setTop (mkF m 72 #[.val (.int p0), .val (.int p1), .val (.int p2), .val (.int (3 : Int32)), .val (.int (3 : Int32)), .val (.ref cx0553), .val (.ref cx0555), .val (.ref cx0559), .val (.int (1 : Int32))] [])) _
            refine XS.iload X559.here hx rfl (hb hby at_72) rfl ?_
            show Steps p.tables e below (T559.setTop (mkF m 74 #[.val (.int p0), .val (.int p1), .val (.int p2), .val (.int (3 : Int32)), .val (.int (3 : Int32)), .val (.ref cx0553), .val (.ref cx0555), .val (.ref cx0559), .val (.int (1 : Int32))] [(.int (1 : Int32))])) _
            refine XS.ifNo X559.here hx rfl (hb hby at_74) rfl ((if0 _ _).trans (feq (by decide : ¬ ((1 : Int32) = (0 : Int32)))).1) ?_
            show Steps p.tables e below (T559.setTop (mkF m 77 #[.val (.int p0), .val (.int p1), .val (.int p2), .val (.int (3 : Int32)), .val (.int (3 : Int32)), .val (.ref cx0553), .val (.ref cx0555), .val (.ref cx0559), .val (.int (1 : Int32))] [])) _
            refine XS.aload X559.here hx rfl (hb hby at_77) rfl rfl ?_
            show Steps p.tables e below (T559.setTop (mkF m 79 #[.val (.int p0), .val (.int p1), .val (.int p2), .val (.int (3 : Int32)), .val (.int (3 : Int32)), .val (.ref cx0553), .val (.ref cx0555), .val (.ref cx0559), .val (.int (1 : Int32))] [(.ref cx0559)])) _
            refine XS.iconst X559.here hx rfl (hb hby at_79) ?_
            show Steps p.tables e below (T559.setTop (mkF m 80 #[.val (.int p0), .val (.int p1), .val (.int p2), .val (.int (3 : Int32)), .val (.int (3 : Int32)), .val (.ref cx0553), .val (.ref cx0555), .val (.ref cx0559), .val (.int (1 : Int32))] [(.int (0 : Int32)), (.ref cx0559)])) _
            refine XS.iloadN X559.here hx rfl (hb hby at_80) rfl ?_
            show Steps p.tables e below (T559.setTop (mkF m 81 #[.val (.int p0), .val (.int p1), .val (.int p2), .val (.int (3 : Int32)), .val (.int (3 : Int32)), .val (.ref cx0553), .val (.ref cx0555), .val (.ref cx0559), .val (.int (1 : Int32))] [(.int p0), (.int (0 : Int32)), (.ref cx0559)])) _
            refine XS.iloadN X559.here hx rfl (hb hby at_81) rfl ?_
            show Steps p.tables e below (T559.setTop (mkF m 82 #[.val (.int p0), .val (.int p1), .val (.int p2), .val (.int (3 : Int32)), .val (.int (3 : Int32)), .val (.ref cx0553), .val (.ref cx0555), .val (.ref cx0559), .val (.int (1 : Int32))] [(.int p1), (.int p0), (.int (0 : Int32)), (.ref cx0559)])) _
            refine st566 _ ?_
            show Steps p.tables e below (T566.setTop (mkF m 85 #[.val (.int p0), .val (.int p1), .val (.int p2), .val (.int (3 : Int32)), .val (.int (3 : Int32)), .val (.ref cx0553), .val (.ref cx0555), .val (.ref cx0559), .val (.int (1 : Int32))] [(.int (1 : Int32))])) _
            refine XS.ifNo X566.here hx rfl (hb hby at_85) rfl ((if0 _ _).trans (feq (by decide : ¬ ((1 : Int32) = (0 : Int32)))).1) ?_
            show Steps p.tables e below (T566.setTop (mkF m 88 #[.val (.int p0), .val (.int p1), .val (.int p2), .val (.int (3 : Int32)), .val (.int (3 : Int32)), .val (.ref cx0553), .val (.ref cx0555), .val (.ref cx0559), .val (.int (1 : Int32))] [])) _
            refine XS.iconst X566.here hx rfl (hb hby at_88) ?_
            show Steps p.tables e below (T566.setTop (mkF m 89 #[.val (.int p0), .val (.int p1), .val (.int p2), .val (.int (3 : Int32)), .val (.int (3 : Int32)), .val (.ref cx0553), .val (.ref cx0555), .val (.ref cx0559), .val (.int (1 : Int32))] [(.int (1 : Int32))])) _
            refine XS.goto X566.here hx rfl (pc0 := 89) (pc' := 93) rfl (hb hby at_89) (by decide) (by decide) ?_
            show Steps p.tables e below (T566.setTop (mkF m 93 #[.val (.int p0), .val (.int p1), .val (.int p2), .val (.int (3 : Int32)), .val (.int (3 : Int32)), .val (.ref cx0553), .val (.ref cx0555), .val (.ref cx0559), .val (.int (1 : Int32))] [(.int (1 : Int32))])) _
            refine XS.istore X566.here hx rfl (hb hby at_93) rfl (l' := #[.val (.int p0), .val (.int p1), .val (.int p2), .val (.int (3 : Int32)), .val (.int (3 : Int32)), .val (.ref cx0553), .val (.ref cx0555), .val (.ref cx0559), .val (.int (1 : Int32))]) rfl ?_
            show Steps p.tables e below (T566.setTop (mkF m 95 #[.val (.int p0), .val (.int p1), .val (.int p2), .val (.int (3 : Int32)), .val (.int (3 : Int32)), .val (.ref cx0553), .val (.ref cx0555), .val (.ref cx0559), .val (.int (1 : Int32))] [])) _
            refine XS.iloadN X566.here hx rfl (hb hby at_95) rfl ?_
            show Steps p.tables e below (T566.setTop (mkF m 96 #[.val (.int p0), .val (.int p1), .val (.int p2), .val (.int (3 : Int32)), .val (.int (3 : Int32)), .val (.ref cx0553), .val (.ref cx0555), .val (.ref cx0559), .val (.int (1 : Int32))] [(.int (3 : Int32))])) _
            refine XS.iconst X566.here hx rfl (hb hby at_96) ?_
            show Steps p.tables e below (T566.setTop (mkF m 97 #[.val (.int p0), .val (.int p1), .val (.int p2), .val (.int (3 : Int32)), .val (.int (3 : Int32)), .val (.ref cx0553), .val (.ref cx0555), .val (.ref cx0559), .val (.int (1 : Int32))] [(.int (1 : Int32)), (.int (3 : Int32))])) _
            refine XS.icmpNo X566.here hx rfl (hb hby at_97) rfl (tlt (by decide : (1 : Int32) < (3 : Int32))).2.2.2 ?_
            show Steps p.tables e below (T566.setTop (mkF m 100 #[.val (.int p0), .val (.int p1), .val (.int p2), .val (.int (3 : Int32)), .val (.int (3 : Int32)), .val (.ref cx0553), .val (.ref cx0555), .val (.ref cx0559), .val (.int (1 : Int32))] [])) _
            refine XS.iload X566.here hx rfl (hb hby at_100) rfl ?_
            show Steps p.tables e below (T566.setTop (mkF m 102 #[.val (.int p0), .val (.int p1), .val (.int p2), .val (.int (3 : Int32)), .val (.int (3 : Int32)), .val (.ref cx0553), .val (.ref cx0555), .val (.ref cx0559), .val (.int (1 : Int32))] [(.int (1 : Int32))])) _
            refine XS.ifNo X566.here hx rfl (hb hby at_102) rfl ((if0 _ _).trans (feq (by decide : ¬ ((1 : Int32) = (0 : Int32)))).1) ?_
            show Steps p.tables e below (T566.setTop (mkF m 105 #[.val (.int p0), .val (.int p1), .val (.int p2), .val (.int (3 : Int32)), .val (.int (3 : Int32)), .val (.ref cx0553), .val (.ref cx0555), .val (.ref cx0559), .val (.int (1 : Int32))] [])) _
            refine XS.aload X566.here hx rfl (hb hby at_105) rfl rfl ?_
            show Steps p.tables e below (T566.setTop (mkF m 107 #[.val (.int p0), .val (.int p1), .val (.int p2), .val (.int (3 : Int32)), .val (.int (3 : Int32)), .val (.ref cx0553), .val (.ref cx0555), .val (.ref cx0559), .val (.int (1 : Int32))] [(.ref cx0559)])) _
            refine XS.iconst X566.here hx rfl (hb hby at_107) ?_
            show Steps p.tables e below (T566.setTop (mkF m 108 #[.val (.int p0), .val (.int p1), .val (.int p2), .val (.int (3 : Int32)), .val (.int (3 : Int32)), .val (.ref cx0553), .val (.ref cx0555), .val (.ref cx0559), .val (.int (1 : Int32))] [(.int (1 : Int32)), (.ref cx0559)])) _
            refine XS.iloadN X566.here hx rfl (hb hby at_108) rfl ?_
            show Steps p.tables e below (T566.setTop (mkF m 109 #[.val (.int p0), .val (.int p1), .val (.int p2), .val (.int (3 : Int32)), .val (.int (3 : Int32)), .val (.ref cx0553), .val (.ref cx0555), .val (.ref cx0559), .val (.int (1 : Int32))] [(.int p0), (.int (1 : Int32)), (.ref cx0559)])) _
            refine XS.iloadN X566.here hx rfl (hb hby at_109) rfl ?_
            show Steps p.tables e below (T566.setTop (mkF m 110 #[.val (.int p0), .val (.int p1), .val (.int p2), .val (.int (3 : Int32)), .val (.int (3 : Int32)), .val (.ref cx0553), .val (.ref cx0555), .val (.ref cx0559), .val (.int (1 : Int32))] [(.int p1), (.int p0), (.int (1 : Int32)), (.ref cx0559)])) _
            refine st567 _ ?_
            show Steps p.tables e below (T567.setTop (mkF m 113 #[.val (.int p0), .val (.int p1), .val (.int p2), .val (.int (3 : Int32)), .val (.int (3 : Int32)), .val (.ref cx0553), .val (.ref cx0555), .val (.ref cx0559), .val (.int (1 : Int32))] [(.int (1 : Int32))])) _
            refine XS.ifNo X567.here hx rfl (hb hby at_113) rfl ((if0 _ _).trans (feq (by decide : ¬ ((1 : Int32) = (0 : Int32)))).1) ?_
            show Steps p.tables e below (T567.setTop (mkF m 116 #[.val (.int p0), .val (.int p1), .val (.int p2), .val (.int (3 : Int32)), .val (.int (3 : Int32)), .val (.ref cx0553), .val (.ref cx0555), .val (.ref cx0559), .val (.int (1 : Int32))] [])) _
            refine XS.iconst X567.here hx rfl (hb hby at_116) ?_
            show Steps p.tables e below (T567.setTop (mkF m 117 #[.val (.int p0), .val (.int p1), .val (.int p2), .val (.int (3 : Int32)), .val (.int (3 : Int32)), .val (.ref cx0553), .val (.ref cx0555), .val (.ref cx0559), .val (.int (1 : Int32))] [(.int (1 : Int32))])) _
            refine XS.goto X567.here hx rfl (pc0 := 117) (pc' := 121) rfl (hb hby at_117) (by decide) (by decide) ?_
            show Steps p.tables e below (T567.setTop (mkF m 121 #[.val (.int p0), .val (.int p1), .val (.int p2), .val (.int (3 : Int32)), .val (.int (3 : Int32)), .val (.ref cx0553), .val (.ref cx0555), .val (.ref cx0559), .val (.int (1 : Int32))] [(.int (1 : Int32))])) _
            refine XS.istore X567.here hx rfl (hb hby at_121) rfl (l' := #[.val (.int p0), .val (.int p1), .val (.int p2), .val (.int (3 : Int32)), .val (.int (3 : Int32)), .val (.ref cx0553), .val (.ref cx0555), .val (.ref cx0559), .val (.int (1 : Int32))]) rfl ?_
            show Steps p.tables e below (T567.setTop (mkF m 123 #[.val (.int p0), .val (.int p1), .val (.int p2), .val (.int (3 : Int32)), .val (.int (3 : Int32)), .val (.ref cx0553), .val (.ref cx0555), .val (.ref cx0559), .val (.int (1 : Int32))] [])) _
            refine XS.iloadN X567.here hx rfl (hb hby at_123) rfl ?_
            show Steps p.tables e below (T567.setTop (mkF m 124 #[.val (.int p0), .val (.int p1), .val (.int p2), .val (.int (3 : Int32)), .val (.int (3 : Int32)), .val (.ref cx0553), .val (.ref cx0555), .val (.ref cx0559), .val (.int (1 : Int32))] [(.int (3 : Int32))])) _
            refine XS.iconst X567.here hx rfl (hb hby at_124) ?_
            show Steps p.tables e below (T567.setTop (mkF m 125 #[.val (.int p0), .val (.int p1), .val (.int p2), .val (.int (3 : Int32)), .val (.int (3 : Int32)), .val (.ref cx0553), .val (.ref cx0555), .val (.ref cx0559), .val (.int (1 : Int32))] [(.int (2 : Int32)), (.int (3 : Int32))])) _
            refine XS.icmpNo X567.here hx rfl (hb hby at_125) rfl (tlt (by decide : (2 : Int32) < (3 : Int32))).2.2.2 ?_
            show Steps p.tables e below (T567.setTop (mkF m 128 #[.val (.int p0), .val (.int p1), .val (.int p2), .val (.int (3 : Int32)), .val (.int (3 : Int32)), .val (.ref cx0553), .val (.ref cx0555), .val (.ref cx0559), .val (.int (1 : Int32))] [])) _
            refine XS.iload X567.here hx rfl (hb hby at_128) rfl ?_
            show Steps p.tables e below (T567.setTop (mkF m 130 #[.val (.int p0), .val (.int p1), .val (.int p2), .val (.int (3 : Int32)), .val (.int (3 : Int32)), .val (.ref cx0553), .val (.ref cx0555), .val (.ref cx0559), .val (.int (1 : Int32))] [(.int (1 : Int32))])) _
            refine XS.ifNo X567.here hx rfl (hb hby at_130) rfl ((if0 _ _).trans (feq (by decide : ¬ ((1 : Int32) = (0 : Int32)))).1) ?_
            show Steps p.tables e below (T567.setTop (mkF m 133 #[.val (.int p0), .val (.int p1), .val (.int p2), .val (.int (3 : Int32)), .val (.int (3 : Int32)), .val (.ref cx0553), .val (.ref cx0555), .val (.ref cx0559), .val (.int (1 : Int32))] [])) _
            refine XS.aload X567.here hx rfl (hb hby at_133) rfl rfl ?_
            show Steps p.tables e below (T567.setTop (mkF m 135 #[.val (.int p0), .val (.int p1), .val (.int p2), .val (.int (3 : Int32)), .val (.int (3 : Int32)), .val (.ref cx0553), .val (.ref cx0555), .val (.ref cx0559), .val (.int (1 : Int32))] [(.ref cx0559)])) _
            refine XS.iconst X567.here hx rfl (hb hby at_135) ?_
            show Steps p.tables e below (T567.setTop (mkF m 136 #[.val (.int p0), .val (.int p1), .val (.int p2), .val (.int (3 : Int32)), .val (.int (3 : Int32)), .val (.ref cx0553), .val (.ref cx0555), .val (.ref cx0559), .val (.int (1 : Int32))] [(.int (2 : Int32)), (.ref cx0559)])) _
            refine XS.iloadN X567.here hx rfl (hb hby at_136) rfl ?_
            show Steps p.tables e below (T567.setTop (mkF m 137 #[.val (.int p0), .val (.int p1), .val (.int p2), .val (.int (3 : Int32)), .val (.int (3 : Int32)), .val (.ref cx0553), .val (.ref cx0555), .val (.ref cx0559), .val (.int (1 : Int32))] [(.int p0), (.int (2 : Int32)), (.ref cx0559)])) _
            refine XS.iloadN X567.here hx rfl (hb hby at_137) rfl ?_
            show Steps p.tables e below (T567.setTop (mkF m 138 #[.val (.int p0), .val (.int p1), .val (.int p2), .val (.int (3 : Int32)), .val (.int (3 : Int32)), .val (.ref cx0553), .val (.ref cx0555), .val (.ref cx0559), .val (.int (1 : Int32))] [(.int p1), (.int p0), (.int (2 : Int32)), (.ref cx0559)])) _
            refine st568 _ ?_
            show Steps p.tables e below (T568.setTop (mkF m 141 #[.val (.int p0), .val (.int p1), .val (.int p2), .val (.int (3 : Int32)), .val (.int (3 : Int32)), .val (.ref cx0553), .val (.ref cx0555), .val (.ref cx0559), .val (.int (1 : Int32))] [(.int (1 : Int32))])) _
            refine XS.ifNo X568.here hx rfl (hb hby at_141) rfl ((if0 _ _).trans (feq (by decide : ¬ ((1 : Int32) = (0 : Int32)))).1) ?_
            show Steps p.tables e below (T568.setTop (mkF m 144 #[.val (.int p0), .val (.int p1), .val (.int p2), .val (.int (3 : Int32)), .val (.int (3 : Int32)), .val (.ref cx0553), .val (.ref cx0555), .val (.ref cx0559), .val (.int (1 : Int32))] [])) _
            refine XS.iconst X568.here hx rfl (hb hby at_144) ?_
            show Steps p.tables e below (T568.setTop (mkF m 145 #[.val (.int p0), .val (.int p1), .val (.int p2), .val (.int (3 : Int32)), .val (.int (3 : Int32)), .val (.ref cx0553), .val (.ref cx0555), .val (.ref cx0559), .val (.int (1 : Int32))] [(.int (1 : Int32))])) _
            refine XS.goto X568.here hx rfl (pc0 := 145) (pc' := 149) rfl (hb hby at_145) (by decide) (by decide) ?_
            show Steps p.tables e below (T568.setTop (mkF m 149 #[.val (.int p0), .val (.int p1), .val (.int p2), .val (.int (3 : Int32)), .val (.int (3 : Int32)), .val (.ref cx0553), .val (.ref cx0555), .val (.ref cx0559), .val (.int (1 : Int32))] [(.int (1 : Int32))])) _
            refine XS.istore X568.here hx rfl (hb hby at_149) rfl (l' := #[.val (.int p0), .val (.int p1), .val (.int p2), .val (.int (3 : Int32)), .val (.int (3 : Int32)), .val (.ref cx0553), .val (.ref cx0555), .val (.ref cx0559), .val (.int (1 : Int32))]) rfl ?_
            show Steps p.tables e below (T568.setTop (mkF m 151 #[.val (.int p0), .val (.int p1), .val (.int p2), .val (.int (3 : Int32)), .val (.int (3 : Int32)), .val (.ref cx0553), .val (.ref cx0555), .val (.ref cx0559), .val (.int (1 : Int32))] [])) _
            refine XS.iload X568.here hx rfl (hb hby at_151) rfl ?_
            show Steps p.tables e below (T568.setTop (mkF m 153 #[.val (.int p0), .val (.int p1), .val (.int p2), .val (.int (3 : Int32)), .val (.int (3 : Int32)), .val (.ref cx0553), .val (.ref cx0555), .val (.ref cx0559), .val (.int (1 : Int32))] [(.int (1 : Int32))])) _
            refine XS.ifNo X568.here hx rfl (hb hby at_153) rfl ((if0 _ _).trans (feq (by decide : ¬ ((1 : Int32) = (0 : Int32)))).1) ?_
            show Steps p.tables e below (T568.setTop (mkF m 156 #[.val (.int p0), .val (.int p1), .val (.int p2), .val (.int (3 : Int32)), .val (.int (3 : Int32)), .val (.ref cx0553), .val (.ref cx0555), .val (.ref cx0559), .val (.int (1 : Int32))] [])) _
            refine XS.aload X568.here hx rfl (hb hby at_156) rfl rfl ?_
            show Steps p.tables e below (T568.setTop (mkF m 158 #[.val (.int p0), .val (.int p1), .val (.int p2), .val (.int (3 : Int32)), .val (.int (3 : Int32)), .val (.ref cx0553), .val (.ref cx0555), .val (.ref cx0559), .val (.int (1 : Int32))] [(.ref cx0553)])) _
            refine XS.iloadN X568.here hx rfl (hb hby at_158) rfl ?_
            show Steps p.tables e below (T568.setTop (mkF m 159 #[.val (.int p0), .val (.int p1), .val (.int p2), .val (.int (3 : Int32)), .val (.int (3 : Int32)), .val (.ref cx0553), .val (.ref cx0555), .val (.ref cx0559), .val (.int (1 : Int32))] [(.int p0), (.ref cx0553)])) _
            refine XS.iloadN X568.here hx rfl (hb hby at_159) rfl ?_
            show Steps p.tables e below (T568.setTop (mkF m 160 #[.val (.int p0), .val (.int p1), .val (.int p2), .val (.int (3 : Int32)), .val (.int (3 : Int32)), .val (.ref cx0553), .val (.ref cx0555), .val (.ref cx0559), .val (.int (1 : Int32))] [(.int (3 : Int32)), (.int p0), (.ref cx0553)])) _
            refine st569 _ ?_
            show Steps p.tables e below (T569.setTop (mkF m 163 #[.val (.int p0), .val (.int p1), .val (.int p2), .val (.int (3 : Int32)), .val (.int (3 : Int32)), .val (.ref cx0553), .val (.ref cx0555), .val (.ref cx0559), .val (.int (1 : Int32))] [(.int (1 : Int32))])) _
            refine XS.ifNo X569.here hx rfl (hb hby at_163) rfl ((if0 _ _).trans (feq (by decide : ¬ ((1 : Int32) = (0 : Int32)))).1) ?_
            show Steps p.tables e below (T569.setTop (mkF m 166 #[.val (.int p0), .val (.int p1), .val (.int p2), .val (.int (3 : Int32)), .val (.int (3 : Int32)), .val (.ref cx0553), .val (.ref cx0555), .val (.ref cx0559), .val (.int (1 : Int32))] [])) _
            refine XS.aload X569.here hx rfl (hb hby at_166) rfl rfl ?_
            show Steps p.tables e below (T569.setTop (mkF m 168 #[.val (.int p0), .val (.int p1), .val (.int p2), .val (.int (3 : Int32)), .val (.int (3 : Int32)), .val (.ref cx0553), .val (.ref cx0555), .val (.ref cx0559), .val (.int (1 : Int32))] [(.ref cx0555)])) _
            refine XS.iloadN X569.here hx rfl (hb hby at_168) rfl ?_
            show Steps p.tables e below (T569.setTop (mkF m 169 #[.val (.int p0), .val (.int p1), .val (.int p2), .val (.int (3 : Int32)), .val (.int (3 : Int32)), .val (.ref cx0553), .val (.ref cx0555), .val (.ref cx0559), .val (.int (1 : Int32))] [(.int p1), (.ref cx0555)])) _
            refine XS.iload X569.here hx rfl (hb hby at_169) rfl ?_
            show Steps p.tables e below (T569.setTop (mkF m 171 #[.val (.int p0), .val (.int p1), .val (.int p2), .val (.int (3 : Int32)), .val (.int (3 : Int32)), .val (.ref cx0553), .val (.ref cx0555), .val (.ref cx0559), .val (.int (1 : Int32))] [(.int (3 : Int32)), (.int p1), (.ref cx0555)])) _
            refine st570 _ ?_
            show Steps p.tables e below (T570.setTop (mkF m 174 #[.val (.int p0), .val (.int p1), .val (.int p2), .val (.int (3 : Int32)), .val (.int (3 : Int32)), .val (.ref cx0553), .val (.ref cx0555), .val (.ref cx0559), .val (.int (1 : Int32))] [(.int (1 : Int32))])) _
            refine XS.ifNo X570.here hx rfl (hb hby at_174) rfl ((if0 _ _).trans (feq (by decide : ¬ ((1 : Int32) = (0 : Int32)))).1) ?_
            show Steps p.tables e below (T570.setTop (mkF m 177 #[.val (.int p0), .val (.int p1), .val (.int p2), .val (.int (3 : Int32)), .val (.int (3 : Int32)), .val (.ref cx0553), .val (.ref cx0555), .val (.ref cx0559), .val (.int (1 : Int32))] [])) _
            refine XS.iconst X570.here hx rfl (hb hby at_177) ?_
            show Steps p.tables e below (T570.setTop (mkF m 178 #[.val (.int p0), .val (.int p1), .val (.int p2), .val (.int (3 : Int32)), .val (.int (3 : Int32)), .val (.ref cx0553), .val (.ref cx0555), .val (.ref cx0559), .val (.int (1 : Int32))] [(.int (1 : Int32))])) _
            refine XS.goto X570.here hx rfl (pc0 := 178) (pc' := 182) rfl (hb hby at_178) (by decide) (by decide) ?_
            show Steps p.tables e below (T570.setTop (mkF m 182 #[.val (.int p0), .val (.int p1), .val (.int p2), .val (.int (3 : Int32)), .val (.int (3 : Int32)), .val (.ref cx0553), .val (.ref cx0555), .val (.ref cx0559), .val (.int (1 : Int32))] [(.int (1 : Int32))])) _
            exact retN X570 hx (t := .boolean) Bd.returns (by simp) (hb hby at_182) hr
          · show Q0 Z p0 p1 p2 h0 n0 _ T570.heap _
            rw [e570]
            have hv : (1 : Int32) = (v0 p2) := by unfold v0; first | (rw [if_neg hs431, if_neg hs468, if_neg hs507, if_pos hs551]) | (simp only [if_neg hs431, if_neg hs468, if_neg hs507, if_pos hs551])
            exact ⟨(by rw [← hv]), N570⟩
        · skip
          have hs571 : (((p2.toUInt32 >>> ((2 : Int32) &&& 31).toUInt32).toInt32) &&& (1 : Int32)) = (1 : Int32) := own_1 _ hs551
          have pre572 := fun (t : State) (k : Steps p.tables e below (s₁.setTop (mkF m 10 #[.val (.int p0), .val (.int p1), .val (.int p2), .val (.int (3 : Int32)), .unset, .unset, .unset, .unset, .unset] [(.int (1 : Int32)), (.int (3 : Int32))])) t) => pre550 t (by show Steps p.tables e below (s₁.setTop (mkF m 10 #[.val (.int p0), .val (.int p1), .val (.int p2), .val (.int (3 : Int32)), .unset, .unset, .unset, .unset, .unset] [(.int (((p2.toUInt32 >>> ((2 : Int32) &&& 31).toUInt32).toInt32) &&& (1 : Int32))), (.int (3 : Int32))])) t; rw [hs571]; exact k)
          obtain ⟨_, _, ⟨T573, L573, k573, n573⟩, -, X573, ⟨Lc573, hQ573, l573, y573, z573⟩, st573⟩ := Jvm.LawKit.callS X0 hx (y := (⟨"com/example/rollcall/rollcall/bench/MilenageXorPinLaw", "bytes", "(II)[B"⟩ : MethodName)) hown (mvT hZ (hw _ (List.mem_of_getElem? (i := 0) rfl))) (mvT hZ (hw _ (List.mem_of_getElem? (i := 1) rfl))) (mvT hZ (hw _ (List.mem_of_getElem? (i := 2) rfl))) (mvT hZ (hw _ (List.mem_of_getElem? (i := 3) rfl))) (by decide) (backOf (W := 0) (rm1_3 l Z aw hw [] p0 h0 n0 Z0 ) hZ (hw _ (List.mem_of_getElem? (i := 3) rfl)) (hw _ (List.mem_of_getElem? (i := 2) rfl)) (by decide) (by decide)) (g := (mkF m 15 #[.val (.int p0), .val (.int p1), .val (.int p2), .val (.int (3 : Int32)), .val (.int (4 : Int32)), .unset, .unset, .unset, .unset] [(.int (3 : Int32)), (.int p0)])) rfl (by rw [hml]; rfl) (argsL := [(.int p0), (.int (3 : Int32))]) (rest := []) (lenOf pd_3 rfl) rfl (by show 2 * 0 + _ ≤ _; exact Nat.le_of_eq rfl) (hb hby at_15) (fun _ _ => ⟨rfl, e0, (by decide : 0 + 1 ≤ _), (by decide : 0 + 3 ≤ _)⟩)
          dsimp only [Pt.U, Pt.locs, Pt.cells, Pt.slots] at X573 l573 y573 z573 st573 hQ573
          subst l573 y573 z573
          obtain ⟨h573, e573⟩ : ∃ z, T573.heap = z := ⟨_, rfl⟩
          rw [e573] at hQ573
          obtain ⟨cx0573, cy0573, rfl, N573q, K573q, g_cx0573, zz_cx0573, f574⟩ := hQ573
          have Z573 := Nat.le_trans Z0 K573q.1
          have N573 := Fr.app N0 N573q
          obtain ⟨_, _, ⟨T575, L575, k575, n575⟩, -, X575, ⟨Lc575, hQ575, l575, y575, z575⟩, st575⟩ := Jvm.LawKit.callS X573 hx (y := (⟨"com/example/rollcall/rollcall/bench/MilenageXorPinLaw", "bytes", "(II)[B"⟩ : MethodName)) hown (mvT hZ (hw _ (List.mem_of_getElem? (i := 0) rfl))) (mvT hZ (hw _ (List.mem_of_getElem? (i := 1) rfl))) (mvT hZ (hw _ (List.mem_of_getElem? (i := 2) rfl))) (mvT hZ (hw _ (List.mem_of_getElem? (i := 3) rfl))) (by decide) (backOf (W := 0) (rm1_4 l Z aw hw [] p1 h573 n0 Z573 ) hZ (hw _ (List.mem_of_getElem? (i := 3) rfl)) (hw _ (List.mem_of_getElem? (i := 2) rfl)) (by decide) (by decide)) (g := (mkF m 23 #[.val (.int p0), .val (.int p1), .val (.int p2), .val (.int (3 : Int32)), .val (.int (4 : Int32)), .val (.ref cx0573), .unset, .unset, .unset] [(.int (4 : Int32)), (.int p1)])) rfl (by rw [hml]; rfl) (argsL := [(.int p1), (.int (4 : Int32))]) (rest := []) (lenOf pd_3 rfl) rfl (by show 2 * 0 + _ ≤ _; exact Nat.le_of_eq rfl) (hb hby at_23) (fun _ _ => ⟨rfl, e573, (by decide : 1 + 1 ≤ _), (by decide : 3 + 4 ≤ _)⟩)
          dsimp only [Pt.U, Pt.locs, Pt.cells, Pt.slots] at X575 l575 y575 z575 st575 hQ575
          subst l575 y575 z575
          obtain ⟨h575, e575⟩ : ∃ z, T575.heap = z := ⟨_, rfl⟩
          rw [e575] at hQ575
          obtain ⟨cx0575, cy0575, rfl, N575q, K575q, g_cx0575, zz_cx0575, f576⟩ := hQ575
          have f577 := f574.keep K575q nin0
          have ne578 : cx0573 ≠ cx0575 := Nat.ne_of_lt (Nat.lt_of_lt_of_le f574.lt zz_cx0575)
          have Z575 := Nat.le_trans Z573 K575q.1
          have N575 := Fr.app N573 N575q
          obtain ⟨_, _, ⟨T579, L579, k579, n579⟩, -, X579, ⟨Lc579, hQ579, l579, y579, z579⟩, st579⟩ := Jvm.LawKit.callS X575 hx (y := (⟨"com/example/rollcall/rollcall/bench/Milenage", "xor", "([B[B)[B"⟩ : MethodName)) hown (mvT hZ (hw _ (List.mem_of_getElem? (i := 8) rfl))) (mvT hZ (hw _ (List.mem_of_getElem? (i := 9) rfl))) (mvT hZ (hw _ (List.mem_of_getElem? (i := 10) rfl))) (mvT hZ (hw _ (List.mem_of_getElem? (i := 11) rfl))) (by decide) (backOf (W := 0) (rm3_3_4 l Z aw hw [] cx0573 cx0575 ((nar .byte (nar .byte (((p0.toUInt32 >>> (((8 : Int32) * (0 : Int32)) &&& 31).toUInt32).toInt32).toInt8.toInt32)))) ((nar .byte (nar .byte (((p0.toUInt32 >>> (((8 : Int32) * (1 : Int32)) &&& 31).toUInt32).toInt32).toInt8.toInt32)))) ((nar .byte (nar .byte (((p0.toUInt32 >>> (((8 : Int32) * (2 : Int32)) &&& 31).toUInt32).toInt32).toInt8.toInt32)))) ((nar .byte (nar .byte (((p1.toUInt32 >>> (((8 : Int32) * (0 : Int32)) &&& 31).toUInt32).toInt32).toInt8.toInt32)))) ((nar .byte (nar .byte (((p1.toUInt32 >>> (((8 : Int32) * (1 : Int32)) &&& 31).toUInt32).toInt32).toInt8.toInt32)))) ((nar .byte (nar .byte (((p1.toUInt32 >>> (((8 : Int32) * (2 : Int32)) &&& 31).toUInt32).toInt32).toInt8.toInt32)))) ((nar .byte (nar .byte (((p1.toUInt32 >>> (((8 : Int32) * (3 : Int32)) &&& 31).toUInt32).toInt32).toInt8.toInt32)))) cy0573 cy0575 h575 n0 Z575 f577 f576) hZ (hw _ (List.mem_of_getElem? (i := 11) rfl)) (hw _ (List.mem_of_getElem? (i := 10) rfl)) (by decide) (by decide)) (g := (mkF m 32 #[.val (.int p0), .val (.int p1), .val (.int p2), .val (.int (3 : Int32)), .val (.int (4 : Int32)), .val (.ref cx0573), .val (.ref cx0575), .unset, .unset] [(.ref cx0575), (.ref cx0573)])) rfl (by rw [hml]; rfl) (argsL := [(.ref cx0573), (.ref cx0575)]) (rest := []) (lenOf pd_4 rfl) rfl (by show 2 * 0 + _ ≤ _; exact Nat.le_of_eq rfl) (hb hby at_32) (fun _ _ => ⟨rfl, e575, (by decide : 2 + 1 ≤ _), (by decide : 7 + 3 ≤ _)⟩)
          dsimp only [Pt.U, Pt.locs, Pt.cells, Pt.slots] at X579 l579 y579 z579 st579 hQ579
          subst l579 y579 z579
          obtain ⟨h579, e579⟩ : ∃ z, T579.heap = z := ⟨_, rfl⟩
          rw [e579] at hQ579
          obtain ⟨cx0579, cy0579, rfl, N579q, K579q, g_cx0579, zz_cx0579, f580⟩ := hQ579
          have f581 := f577.keep K579q nin0
          have f582 := f576.keep K579q nin0
          have ne583 : cx0573 ≠ cx0579 := Nat.ne_of_lt (Nat.lt_of_lt_of_le f577.lt zz_cx0579)
          have ne584 : cx0575 ≠ cx0579 := Nat.ne_of_lt (Nat.lt_of_lt_of_le f576.lt zz_cx0579)
          have Z579 := Nat.le_trans Z575 K579q.1
          have N579 := Fr.app N575 N579q
          obtain ⟨cl585, Ar585, q585, S585, M585, H585, G585⟩ := id f580
          obtain ⟨_, _, ⟨T586, L586, k586, n586⟩, -, X586, ⟨Lc586, hQ586, l586, y586, z586⟩, st586⟩ := Jvm.LawKit.callS X579 hx (y := (⟨"com/example/rollcall/rollcall/bench/MilenageXorPinLaw", "at", "([BIII)Z"⟩ : MethodName)) hown (mvT hZ (hw _ (List.mem_of_getElem? (i := 12) rfl))) (mvT hZ (hw _ (List.mem_of_getElem? (i := 13) rfl))) (mvT hZ (hw _ (List.mem_of_getElem? (i := 2) rfl))) (mvT hZ (hw _ (List.mem_of_getElem? (i := 14) rfl))) (by decide) (backOf (W := 0) (rm4_3_0 l Z aw hw [] cx0579 p0 p1 cy0579 h579 n0 Z579 f580) hZ (hw _ (List.mem_of_getElem? (i := 14) rfl)) (hw _ (List.mem_of_getElem? (i := 2) rfl)) (by decide) (by decide)) (g := (mkF m 82 #[.val (.int p0), .val (.int p1), .val (.int p2), .val (.int (3 : Int32)), .val (.int (4 : Int32)), .val (.ref cx0573), .val (.ref cx0575), .val (.ref cx0579), .val (.int (1 : Int32))] [(.int p1), (.int p0), (.int (0 : Int32)), (.ref cx0579)])) rfl (by rw [hml]; rfl) (argsL := [(.ref cx0579), (.int (0 : Int32)), (.int p0), (.int p1)]) (rest := []) (lenOf pd_6 rfl) rfl (by show 2 * 0 + _ ≤ _; exact Nat.le_of_eq rfl) (hb hby at_82) (fun _ _ => ⟨rfl, e579, (by decide : 3 + 0 ≤ _), (by decide : 10 + 0 ≤ _)⟩)
          dsimp only [Pt.U, Pt.locs, Pt.cells, Pt.slots] at X586 l586 y586 z586 st586 hQ586
          subst l586 y586 z586
          obtain ⟨rfl, N586q, e586⟩ := hQ586
          have N586 := Fr.app N579 N586q
          obtain ⟨_, _, ⟨T587, L587, k587, n587⟩, -, X587, ⟨Lc587, hQ587, l587, y587, z587⟩, st587⟩ := Jvm.LawKit.callS X586 hx (y := (⟨"com/example/rollcall/rollcall/bench/MilenageXorPinLaw", "at", "([BIII)Z"⟩ : MethodName)) hown (mvT hZ (hw _ (List.mem_of_getElem? (i := 12) rfl))) (mvT hZ (hw _ (List.mem_of_getElem? (i := 13) rfl))) (mvT hZ (hw _ (List.mem_of_getElem? (i := 2) rfl))) (mvT hZ (hw _ (List.mem_of_getElem? (i := 14) rfl))) (by decide) (backOf (W := 0) (rm4_3_1 l Z aw hw [] cx0579 p0 p1 cy0579 h579 n0 Z579 f580) hZ (hw _ (List.mem_of_getElem? (i := 14) rfl)) (hw _ (List.mem_of_getElem? (i := 2) rfl)) (by decide) (by decide)) (g := (mkF m 110 #[.val (.int p0), .val (.int p1), .val (.int p2), .val (.int (3 : Int32)), .val (.int (4 : Int32)), .val (.ref cx0573), .val (.ref cx0575), .val (.ref cx0579), .val (.int (1 : Int32))] [(.int p1), (.int p0), (.int (1 : Int32)), (.ref cx0579)])) rfl (by rw [hml]; rfl) (argsL := [(.ref cx0579), (.int (1 : Int32)), (.int p0), (.int p1)]) (rest := []) (lenOf pd_6 rfl) rfl (by show 2 * 0 + _ ≤ _; exact Nat.le_of_eq rfl) (hb hby at_110) (fun _ _ => ⟨rfl, e586, (by decide : 3 + 0 ≤ _), (by decide : 10 + 0 ≤ _)⟩)
          dsimp only [Pt.U, Pt.locs, Pt.cells, Pt.slots] at X587 l587 y587 z587 st587 hQ587
          subst l587 y587 z587
          obtain ⟨rfl, N587q, e587⟩ := hQ587
          have N587 := Fr.app N586 N587q
          obtain ⟨_, _, ⟨T588, L588, k588, n588⟩, -, X588, ⟨Lc588, hQ588, l588, y588, z588⟩, st588⟩ := Jvm.LawKit.callS X587 hx (y := (⟨"com/example/rollcall/rollcall/bench/MilenageXorPinLaw", "at", "([BIII)Z"⟩ : MethodName)) hown (mvT hZ (hw _ (List.mem_of_getElem? (i := 12) rfl))) (mvT hZ (hw _ (List.mem_of_getElem? (i := 13) rfl))) (mvT hZ (hw _ (List.mem_of_getElem? (i := 2) rfl))) (mvT hZ (hw _ (List.mem_of_getElem? (i := 14) rfl))) (by decide) (backOf (W := 0) (rm4_3_2 l Z aw hw [] cx0579 p0 p1 cy0579 h579 n0 Z579 f580) hZ (hw _ (List.mem_of_getElem? (i := 14) rfl)) (hw _ (List.mem_of_getElem? (i := 2) rfl)) (by decide) (by decide)) (g := (mkF m 138 #[.val (.int p0), .val (.int p1), .val (.int p2), .val (.int (3 : Int32)), .val (.int (4 : Int32)), .val (.ref cx0573), .val (.ref cx0575), .val (.ref cx0579), .val (.int (1 : Int32))] [(.int p1), (.int p0), (.int (2 : Int32)), (.ref cx0579)])) rfl (by rw [hml]; rfl) (argsL := [(.ref cx0579), (.int (2 : Int32)), (.int p0), (.int p1)]) (rest := []) (lenOf pd_6 rfl) rfl (by show 2 * 0 + _ ≤ _; exact Nat.le_of_eq rfl) (hb hby at_138) (fun _ _ => ⟨rfl, e587, (by decide : 3 + 0 ≤ _), (by decide : 10 + 0 ≤ _)⟩)
          dsimp only [Pt.U, Pt.locs, Pt.cells, Pt.slots] at X588 l588 y588 z588 st588 hQ588
          subst l588 y588 z588
          obtain ⟨rfl, N588q, e588⟩ := hQ588
          have N588 := Fr.app N587 N588q
          obtain ⟨_, _, ⟨T589, L589, k589, n589⟩, -, X589, ⟨Lc589, hQ589, l589, y589, z589⟩, st589⟩ := Jvm.LawKit.callS X588 hx (y := (⟨"com/example/rollcall/rollcall/bench/MilenageXorPinLaw", "same", "([BII)Z"⟩ : MethodName)) hown (mvT hZ (hw _ (List.mem_of_getElem? (i := 15) rfl))) (mvT hZ (hw _ (List.mem_of_getElem? (i := 16) rfl))) (mvT hZ (hw _ (List.mem_of_getElem? (i := 2) rfl))) (mvT hZ (hw _ (List.mem_of_getElem? (i := 17) rfl))) (by decide) (backOf (W := 0) (rm5_3 l Z aw hw [] cx0573 p0 cy0573 h579 n0 Z579 f581) hZ (hw _ (List.mem_of_getElem? (i := 17) rfl)) (hw _ (List.mem_of_getElem? (i := 2) rfl)) (by decide) (by decide)) (g := (mkF m 160 #[.val (.int p0), .val (.int p1), .val (.int p2), .val (.int (3 : Int32)), .val (.int (4 : Int32)), .val (.ref cx0573), .val (.ref cx0575), .val (.ref cx0579), .val (.int (1 : Int32))] [(.int (3 : Int32)), (.int p0), (.ref cx0573)])) rfl (by rw [hml]; rfl) (argsL := [(.ref cx0573), (.int p0), (.int (3 : Int32))]) (rest := []) (lenOf pd_5 rfl) rfl (by show 2 * 0 + _ ≤ _; exact Nat.le_of_eq rfl) (hb hby at_160) (fun _ _ => ⟨rfl, e588, (by decide : 3 + 0 ≤ _), (by decide : 10 + 0 ≤ _)⟩)
          dsimp only [Pt.U, Pt.locs, Pt.cells, Pt.slots] at X589 l589 y589 z589 st589 hQ589
          subst l589 y589 z589
          obtain ⟨rfl, N589q, e589⟩ := hQ589
          have N589 := Fr.app N588 N589q
          obtain ⟨_, _, ⟨T590, L590, k590, n590⟩, -, X590, ⟨Lc590, hQ590, l590, y590, z590⟩, st590⟩ := Jvm.LawKit.callS X589 hx (y := (⟨"com/example/rollcall/rollcall/bench/MilenageXorPinLaw", "same", "([BII)Z"⟩ : MethodName)) hown (mvT hZ (hw _ (List.mem_of_getElem? (i := 15) rfl))) (mvT hZ (hw _ (List.mem_of_getElem? (i := 16) rfl))) (mvT hZ (hw _ (List.mem_of_getElem? (i := 2) rfl))) (mvT hZ (hw _ (List.mem_of_getElem? (i := 17) rfl))) (by decide) (backOf (W := 0) (rm5_4 l Z aw hw [] cx0575 p1 cy0575 h579 n0 Z579 f582) hZ (hw _ (List.mem_of_getElem? (i := 17) rfl)) (hw _ (List.mem_of_getElem? (i := 2) rfl)) (by decide) (by decide)) (g := (mkF m 171 #[.val (.int p0), .val (.int p1), .val (.int p2), .val (.int (3 : Int32)), .val (.int (4 : Int32)), .val (.ref cx0573), .val (.ref cx0575), .val (.ref cx0579), .val (.int (1 : Int32))] [(.int (4 : Int32)), (.int p1), (.ref cx0575)])) rfl (by rw [hml]; rfl) (argsL := [(.ref cx0575), (.int p1), (.int (4 : Int32))]) (rest := []) (lenOf pd_5 rfl) rfl (by show 2 * 0 + _ ≤ _; exact Nat.le_of_eq rfl) (hb hby at_171) (fun _ _ => ⟨rfl, e589, (by decide : 3 + 0 ≤ _), (by decide : 10 + 0 ≤ _)⟩)
          dsimp only [Pt.U, Pt.locs, Pt.cells, Pt.slots] at X590 l590 y590 z590 st590 hQ590
          subst l590 y590 z590
          obtain ⟨rfl, N590q, e590⟩ := hQ590
          have N590 := Fr.app N589 N590q
          obtain ⟨fs, hr, hrun, hended, hW, hsame⟩ := X590.leave (v := some (.int (1 : Int32))) (fun h => by rw [Bd.returns] at h; cases h)
          refine ⟨_, _, pre572 _ ?_, hrun, hended, _, _, rfl, ?_, ⟨_, rfl⟩, hW, hsame.mono (by decide) (by decide)⟩
          · skip
            show Steps p.tables e below (s₁.setTop (mkF m 10 #[.val (.int p0), .val (.int p1), .val (.int p2), .val (.int (3 : Int32)), .unset, .unset, .unset, .unset, .unset] [(.int (1 : Int32)), (.int (3 : Int32))])) _
            refine XS.iadd X0.here hx rfl (hb hby at_10) rfl ?_
            show Steps p.tables e below (s₁.setTop (mkF m 11 #[.val (.int p0), .val (.int p1), .val (.int p2), .val (.int (3 : Int32)), .unset, .unset, .unset, .unset, .unset] [(.int (4 : Int32))])) _
            refine XS.istore X0.here hx rfl (hb hby at_11) rfl (l' := #[.val (.int p0), .val (.int p1), .val (.int p2), .val (.int (3 : Int32)), .val (.int (4 : Int32)), .unset, .unset, .unset, .unset]) rfl ?_
            show Steps p.tables e below (s₁.setTop (mkF m 13 #[.val (.int p0), .val (.int p1), .val (.int p2), .val (.int (3 : Int32)), .val (.int (4 : Int32)), .unset, .unset, .unset, .unset] [])) _
            refine XS.iloadN X0.here hx rfl (hb hby at_13) rfl ?_
            show Steps p.tables e below (s₁.setTop (mkF m 14 #[.val (.int p0), .val (.int p1), .val (.int p2), .val (.int (3 : Int32)), .val (.int (4 : Int32)), .unset, .unset, .unset, .unset] [(.int p0)])) _
            refine XS.iloadN X0.here hx rfl (hb hby at_14) rfl ?_
            show Steps p.tables e below (s₁.setTop (mkF m 15 #[.val (.int p0), .val (.int p1), .val (.int p2), .val (.int (3 : Int32)), .val (.int (4 : Int32)), .unset, .unset, .unset, .unset] [(.int (3 : Int32)), (.int p0)])) _
            refine st573 _ ?_
            show Steps p.tables e below (T573.setTop (mkF m 18 #[.val (.int p0), .val (.int p1), .val (.int p2), .val (.int (3 : Int32)), .val (.int (4 : Int32)), .unset, .unset, .unset, .unset] [(.ref cx0573)])) _
            refine XS.astore X573.here hx rfl (hb hby at_18) rfl rfl (l' := #[.val (.int p0), .val (.int p1), .val (.int p2), .val (.int (3 : Int32)), .val (.int (4 : Int32)), .val (.ref cx0573), .unset, .unset, .unset]) rfl ?_
            show Steps p.tables e below (T573.setTop (mkF m 20 #[.val (.int p0), .val (.int p1), .val (.int p2), .val (.int (3 : Int32)), .val (.int (4 : Int32)), .val (.ref cx0573), .unset, .unset, .unset] [])) _
            refine XS.iloadN X573.here hx rfl (hb hby at_20) rfl ?_
            show Steps p.tables e below (T573.setTop (mkF m 21 #[.val (.int p0), .val (.int p1), .val (.int p2), .val (.int (3 : Int32)), .val (.int (4 : Int32)), .val (.ref cx0573), .unset, .unset, .unset] [(.int p1)])) _
            refine XS.iload X573.here hx rfl (hb hby at_21) rfl ?_
            show Steps p.tables e below (T573.setTop (mkF m 23 #[.val (.int p0), .val (.int p1), .val (.int p2), .val (.int (3 : Int32)), .val (.int (4 : Int32)), .val (.ref cx0573), .unset, .unset, .unset] [(.int (4 : Int32)), (.int p1)])) _
            refine st575 _ ?_
            show Steps p.tables e below (T575.setTop (mkF m 26 #[.val (.int p0), .val (.int p1), .val (.int p2), .val (.int (3 : Int32)), .val (.int (4 : Int32)), .val (.ref cx0573), .unset, .unset, .unset] [(.ref cx0575)])) _
            refine XS.astore X575.here hx rfl (hb hby at_26) rfl rfl (l' := #[.val (.int p0), .val (.int p1), .val (.int p2), .val (.int (3 : Int32)), .val (.int (4 : Int32)), .val (.ref cx0573), .val (.ref cx0575), .unset, .unset]) rfl ?_
            show Steps p.tables e below (T575.setTop (mkF m 28 #[.val (.int p0), .val (.int p1), .val (.int p2), .val (.int (3 : Int32)), .val (.int (4 : Int32)), .val (.ref cx0573), .val (.ref cx0575), .unset, .unset] [])) _
            refine XS.aload X575.here hx rfl (hb hby at_28) rfl rfl ?_
            show Steps p.tables e below (T575.setTop (mkF m 30 #[.val (.int p0), .val (.int p1), .val (.int p2), .val (.int (3 : Int32)), .val (.int (4 : Int32)), .val (.ref cx0573), .val (.ref cx0575), .unset, .unset] [(.ref cx0573)])) _
            refine XS.aload X575.here hx rfl (hb hby at_30) rfl rfl ?_
            show Steps p.tables e below (T575.setTop (mkF m 32 #[.val (.int p0), .val (.int p1), .val (.int p2), .val (.int (3 : Int32)), .val (.int (4 : Int32)), .val (.ref cx0573), .val (.ref cx0575), .unset, .unset] [(.ref cx0575), (.ref cx0573)])) _
            refine st579 _ ?_
            show Steps p.tables e below (T579.setTop (mkF m 35 #[.val (.int p0), .val (.int p1), .val (.int p2), .val (.int (3 : Int32)), .val (.int (4 : Int32)), .val (.ref cx0573), .val (.ref cx0575), .unset, .unset] [(.ref cx0579)])) _
            refine XS.astore X579.here hx rfl (hb hby at_35) rfl rfl (l' := #[.val (.int p0), .val (.int p1), .val (.int p2), .val (.int (3 : Int32)), .val (.int (4 : Int32)), .val (.ref cx0573), .val (.ref cx0575), .val (.ref cx0579), .unset]) rfl ?_
            show Steps p.tables e below (T579.setTop (mkF m 37 #[.val (.int p0), .val (.int p1), .val (.int p2), .val (.int (3 : Int32)), .val (.int (4 : Int32)), .val (.ref cx0573), .val (.ref cx0575), .val (.ref cx0579), .unset] [])) _
            refine XS.aload X579.here hx rfl (hb hby at_37) rfl rfl ?_
            show Steps p.tables e below (T579.setTop (mkF m 39 #[.val (.int p0), .val (.int p1), .val (.int p2), .val (.int (3 : Int32)), .val (.int (4 : Int32)), .val (.ref cx0573), .val (.ref cx0575), .val (.ref cx0579), .unset] [(.ref cx0579)])) _
            refine XS.ifnullNo X579.here hx rfl (hb hby at_39) rfl ?_
            show Steps p.tables e below (T579.setTop (mkF m 42 #[.val (.int p0), .val (.int p1), .val (.int p2), .val (.int (3 : Int32)), .val (.int (4 : Int32)), .val (.ref cx0573), .val (.ref cx0575), .val (.ref cx0579), .unset] [])) _
            refine XS.aload X579.here hx rfl (hb hby at_42) rfl rfl ?_
            show Steps p.tables e below (T579.setTop (mkF m 44 #[.val (.int p0), .val (.int p1), .val (.int p2), .val (.int (3 : Int32)), .val (.int (4 : Int32)), .val (.ref cx0573), .val (.ref cx0575), .val (.ref cx0579), .unset] [(.ref cx0579)])) _
            refine X579.arraylength hx (by rw [e579]; exact Ar585.1) (State.isArrayOf_alike hZ.alike Ar585.2.1) (g := (mkF m 44 #[.val (.int p0), .val (.int p1), .val (.int p2), .val (.int (3 : Int32)), .val (.int (4 : Int32)), .val (.ref cx0573), .val (.ref cx0575), .val (.ref cx0579), .unset] [(.ref cx0579)])) rfl rfl (hb hby at_44) _ ?_
            rw [len_of S585 M585]
            show Steps p.tables e below (T579.setTop (mkF m 45 #[.val (.int p0), .val (.int p1), .val (.int p2), .val (.int (3 : Int32)), .val (.int (4 : Int32)), .val (.ref cx0573), .val (.ref cx0575), .val (.ref cx0579), .unset] [(.int (3 : Int32))])) _
            refine XS.iloadN X579.here hx rfl (hb hby at_45) rfl ?_
            show Steps p.tables e below (T579.setTop (mkF m 46 #[.val (.int p0), .val (.int p1), .val (.int p2), .val (.int (3 : Int32)), .val (.int (4 : Int32)), .val (.ref cx0573), .val (.ref cx0575), .val (.ref cx0579), .unset] [(.int (3 : Int32)), (.int (3 : Int32))])) _
            refine XS.icmpNo X579.here hx rfl (hb hby at_46) rfl (teq (rfl : (3 : Int32) = (3 : Int32))).2 ?_
            show Steps p.tables e below (T579.setTop (mkF m 49 #[.val (.int p0), .val (.int p1), .val (.int p2), .val (.int (3 : Int32)), .val (.int (4 : Int32)), .val (.ref cx0573), .val (.ref cx0575), .val (.ref cx0579), .unset] [])) _
            refine XS.aload X579.here hx rfl (hb hby at_49) rfl rfl ?_
            show Steps p.tables e below (T579.setTop (mkF m 51 #[.val (.int p0), .val (.int p1), .val (.int p2), .val (.int (3 : Int32)), .val (.int (4 : Int32)), .val (.ref cx0573), .val (.ref cx0575), .val (.ref cx0579), .unset] [(.ref cx0579)])) _
            refine XS.aload X579.here hx rfl (hb hby at_51) rfl rfl ?_
            show Steps p.tables e below (T579.setTop (mkF m 53 #[.val (.int p0), .val (.int p1), .val (.int p2), .val (.int (3 : Int32)), .val (.int (4 : Int32)), .val (.ref cx0573), .val (.ref cx0575), .val (.ref cx0579), .unset] [(.ref cx0573), (.ref cx0579)])) _
            refine Jvm.RoadKit.acmp (g := (mkF m 53 #[.val (.int p0), .val (.int p1), .val (.int p2), .val (.int (3 : Int32)), .val (.int (4 : Int32)), .val (.ref cx0573), .val (.ref cx0575), .val (.ref cx0579), .unset] [(.ref cx0573), (.ref cx0579)])) X579 hx rfl rfl rfl (pc0 := 53) (pc' := 56) (same := false) rfl (hb hby at_53) rfl (decide_eq_false fun q => (Ne.symm ne583) (Value.ref.inj q)) (by decide) (by decide) ?_
            show Steps p.tables e below (T579.setTop (mkF m 56 #[.val (.int p0), .val (.int p1), .val (.int p2), .val (.int (3 : Int32)), .val (.int (4 : Int32)), .val (.ref cx0573), .val (.ref cx0575), .val (.ref cx0579), .unset] [])) _
            refine XS.aload X579.here hx rfl (hb hby at_56) rfl rfl ?_
            show Steps p.tables e below (T579.setTop (mkF m 58 #[.val (.int p0), .val (.int p1), .val (.int p2), .val (.int (3 : Int32)), .val (.int (4 : Int32)), .val (.ref cx0573), .val (.ref cx0575), .val (.ref cx0579), .unset] [(.ref cx0579)])) _
            refine XS.aload X579.here hx rfl (hb hby at_58) rfl rfl ?_
            show Steps p.tables e below (T579.setTop (mkF m 60 #[.val (.int p0), .val (.int p1), .val (.int p2), .val (.int (3 : Int32)), .val (.int (4 : Int32)), .val (.ref cx0573), .val (.ref cx0575), .val (.ref cx0579), .unset] [(.ref cx0575), (.ref cx0579)])) _
            refine Jvm.RoadKit.acmp (g := (mkF m 60 #[.val (.int p0), .val (.int p1), .val (.int p2), .val (.int (3 : Int32)), .val (.int (4 : Int32)), .val (.ref cx0573), .val (.ref cx0575), .val (.ref cx0579), .unset] [(.ref cx0575), (.ref cx0579)])) X579 hx rfl rfl rfl (pc0 := 60) (pc' := 65) (same := false) rfl (hb hby at_60) rfl (decide_eq_false fun q => (Ne.symm ne584) (Value.ref.inj q)) (by decide) (by decide) ?_
            show Steps p.tables e below (T579.setTop (mkF m 65 #[.val (.int p0), .val (.int p1), .val (.int p2), .val (.int (3 : Int32)), .val (.int (4 : Int32)), .val (.ref cx0573), .val (.ref cx0575), .val (.ref cx0579), .unset] [])) _
            refine XS.iconst X579.here hx rfl (hb hby at_65) ?_
            show Steps p.tables e below (T579.setTop (mkF m 66 #[.val (.int p0), .val (.int p1), .val (.int p2), .val (.int (3 : Int32)), .val (.int (4 : Int32)), .val (.ref cx0573), .val (.ref cx0575), .val (.ref cx0579), .unset] [(.int (1 : Int32))])) _
            refine XS.istore X579.here hx rfl (hb hby at_66) rfl (l' := #[.val (.int p0), .val (.int p1), .val (.int p2), .val (.int (3 : Int32)), .val (.int (4 : Int32)), .val (.ref cx0573), .val (.ref cx0575), .val (.ref cx0579), .val (.int (1 : Int32))]) rfl ?_
            show Steps p.tables e below (T579.setTop (mkF m 68 #[.val (.int p0), .val (.int p1), .val (.int p2), .val (.int (3 : Int32)), .val (.int (4 : Int32)), .val (.ref cx0573), .val (.ref cx0575), .val (.ref cx0579), .val (.int (1 : Int32))] [])) _
            refine XS.iloadN X579.here hx rfl (hb hby at_68) rfl ?_
            show Steps p.tables e below (T579.setTop (mkF m 69 #[.val (.int p0), .val (.int p1), .val (.int p2), .val (.int (3 : Int32)), .val (.int (4 : Int32)), .val (.ref cx0573), .val (.ref cx0575), .val (.ref cx0579), .val (.int (1 : Int32))] [(.int (3 : Int32))])) _
            refine XS.ifNo X579.here hx rfl (hb hby at_69) rfl ((if0 _ _).trans (tlt (by decide : (0 : Int32) < (3 : Int32))).2.2.2) ?_
            show Steps p.tables e below (T579.setTop (mkF m 72 #[.val (.int p0), .val (.int p1), .val (.int p2), .val (.int (3 : Int32)), .val (.int (4 : Int32)), .val (.ref cx0573), .val (.ref cx0575), .val (.ref cx0579), .val (.int (1 : Int32))] [])) _
            refine XS.iload X579.here hx rfl (hb hby at_72) rfl ?_
            show Steps p.tables e below (T579.setTop (mkF m 74 #[.val (.int p0), .val (.int p1), .val (.int p2), .val (.int (3 : Int32)), .val (.int (4 : Int32)), .val (.ref cx0573), .val (.ref cx0575), .val (.ref cx0579), .val (.int (1 : Int32))] [(.int (1 : Int32))])) _
            refine XS.ifNo X579.here hx rfl (hb hby at_74) rfl ((if0 _ _).trans (feq (by decide : ¬ ((1 : Int32) = (0 : Int32)))).1) ?_
            show Steps p.tables e below (T579.setTop (mkF m 77 #[.val (.int p0), .val (.int p1), .val (.int p2), .val (.int (3 : Int32)), .val (.int (4 : Int32)), .val (.ref cx0573), .val (.ref cx0575), .val (.ref cx0579), .val (.int (1 : Int32))] [])) _
            refine XS.aload X579.here hx rfl (hb hby at_77) rfl rfl ?_
            show Steps p.tables e below (T579.setTop (mkF m 79 #[.val (.int p0), .val (.int p1), .val (.int p2), .val (.int (3 : Int32)), .val (.int (4 : Int32)), .val (.ref cx0573), .val (.ref cx0575), .val (.ref cx0579), .val (.int (1 : Int32))] [(.ref cx0579)])) _
            refine XS.iconst X579.here hx rfl (hb hby at_79) ?_
            show Steps p.tables e below (T579.setTop (mkF m 80 #[.val (.int p0), .val (.int p1), .val (.int p2), .val (.int (3 : Int32)), .val (.int (4 : Int32)), .val (.ref cx0573), .val (.ref cx0575), .val (.ref cx0579), .val (.int (1 : Int32))] [(.int (0 : Int32)), (.ref cx0579)])) _
            refine XS.iloadN X579.here hx rfl (hb hby at_80) rfl ?_
            show Steps p.tables e below (T579.setTop (mkF m 81 #[.val (.int p0), .val (.int p1), .val (.int p2), .val (.int (3 : Int32)), .val (.int (4 : Int32)), .val (.ref cx0573), .val (.ref cx0575), .val (.ref cx0579), .val (.int (1 : Int32))] [(.int p0), (.int (0 : Int32)), (.ref cx0579)])) _
            refine XS.iloadN X579.here hx rfl (hb hby at_81) rfl ?_
            show Steps p.tables e below (T579.setTop (mkF m 82 #[.val (.int p0), .val (.int p1), .val (.int p2), .val (.int (3 : Int32)), .val (.int (4 : Int32)), .val (.ref cx0573), .val (.ref cx0575), .val (.ref cx0579), .val (.int (1 : Int32))] [(.int p1), (.int p0), (.int (0 : Int32)), (.ref cx0579)])) _
            refine st586 _ ?_
            show Steps p.tables e below (T586.setTop (mkF m 85 #[.val (.int p0), .val (.int p1), .val (.int p2), .val (.int (3 : Int32)), .val (.int (4 : Int32)), .val (.ref cx0573), .val (.ref cx0575), .val (.ref cx0579), .val (.int (1 : Int32))] [(.int (1 : Int32))])) _
            refine XS.ifNo X586.here hx rfl (hb hby at_85) rfl ((if0 _ _).trans (feq (by decide : ¬ ((1 : Int32) = (0 : Int32)))).1) ?_
            show Steps p.tables e below (T586.setTop (mkF m 88 #[.val (.int p0), .val (.int p1), .val (.int p2), .val (.int (3 : Int32)), .val (.int (4 : Int32)), .val (.ref cx0573), .val (.ref cx0575), .val (.ref cx0579), .val (.int (1 : Int32))] [])) _
            refine XS.iconst X586.here hx rfl (hb hby at_88) ?_
            show Steps p.tables e below (T586.setTop (mkF m 89 #[.val (.int p0), .val (.int p1), .val (.int p2), .val (.int (3 : Int32)), .val (.int (4 : Int32)), .val (.ref cx0573), .val (.ref cx0575), .val (.ref cx0579), .val (.int (1 : Int32))] [(.int (1 : Int32))])) _
            refine XS.goto X586.here hx rfl (pc0 := 89) (pc' := 93) rfl (hb hby at_89) (by decide) (by decide) ?_
            show Steps p.tables e below (T586.setTop (mkF m 93 #[.val (.int p0), .val (.int p1), .val (.int p2), .val (.int (3 : Int32)), .val (.int (4 : Int32)), .val (.ref cx0573), .val (.ref cx0575), .val (.ref cx0579), .val (.int (1 : Int32))] [(.int (1 : Int32))])) _
            refine XS.istore X586.here hx rfl (hb hby at_93) rfl (l' := #[.val (.int p0), .val (.int p1), .val (.int p2), .val (.int (3 : Int32)), .val (.int (4 : Int32)), .val (.ref cx0573), .val (.ref cx0575), .val (.ref cx0579), .val (.int (1 : Int32))]) rfl ?_
            show Steps p.tables e below (T586.setTop (mkF m 95 #[.val (.int p0), .val (.int p1), .val (.int p2), .val (.int (3 : Int32)), .val (.int (4 : Int32)), .val (.ref cx0573), .val (.ref cx0575), .val (.ref cx0579), .val (.int (1 : Int32))] [])) _
            refine XS.iloadN X586.here hx rfl (hb hby at_95) rfl ?_
            show Steps p.tables e below (T586.setTop (mkF m 96 #[.val (.int p0), .val (.int p1), .val (.int p2), .val (.int (3 : Int32)), .val (.int (4 : Int32)), .val (.ref cx0573), .val (.ref cx0575), .val (.ref cx0579), .val (.int (1 : Int32))] [(.int (3 : Int32))])) _
            refine XS.iconst X586.here hx rfl (hb hby at_96) ?_
            show Steps p.tables e below (T586.setTop (mkF m 97 #[.val (.int p0), .val (.int p1), .val (.int p2), .val (.int (3 : Int32)), .val (.int (4 : Int32)), .val (.ref cx0573), .val (.ref cx0575), .val (.ref cx0579), .val (.int (1 : Int32))] [(.int (1 : Int32)), (.int (3 : Int32))])) _
            refine XS.icmpNo X586.here hx rfl (hb hby at_97) rfl (tlt (by decide : (1 : Int32) < (3 : Int32))).2.2.2 ?_
            show Steps p.tables e below (T586.setTop (mkF m 100 #[.val (.int p0), .val (.int p1), .val (.int p2), .val (.int (3 : Int32)), .val (.int (4 : Int32)), .val (.ref cx0573), .val (.ref cx0575), .val (.ref cx0579), .val (.int (1 : Int32))] [])) _
            refine XS.iload X586.here hx rfl (hb hby at_100) rfl ?_
            show Steps p.tables e below (T586.setTop (mkF m 102 #[.val (.int p0), .val (.int p1), .val (.int p2), .val (.int (3 : Int32)), .val (.int (4 : Int32)), .val (.ref cx0573), .val (.ref cx0575), .val (.ref cx0579), .val (.int (1 : Int32))] [(.int (1 : Int32))])) _
            refine XS.ifNo X586.here hx rfl (hb hby at_102) rfl ((if0 _ _).trans (feq (by decide : ¬ ((1 : Int32) = (0 : Int32)))).1) ?_
            show Steps p.tables e below (T586.setTop (mkF m 105 #[.val (.int p0), .val (.int p1), .val (.int p2), .val (.int (3 : Int32)), .val (.int (4 : Int32)), .val (.ref cx0573), .val (.ref cx0575), .val (.ref cx0579), .val (.int (1 : Int32))] [])) _
            refine XS.aload X586.here hx rfl (hb hby at_105) rfl rfl ?_
            show Steps p.tables e below (T586.setTop (mkF m 107 #[.val (.int p0), .val (.int p1), .val (.int p2), .val (.int (3 : Int32)), .val (.int (4 : Int32)), .val (.ref cx0573), .val (.ref cx0575), .val (.ref cx0579), .val (.int (1 : Int32))] [(.ref cx0579)])) _
            refine XS.iconst X586.here hx rfl (hb hby at_107) ?_
            show Steps p.tables e below (T586.setTop (mkF m 108 #[.val (.int p0), .val (.int p1), .val (.int p2), .val (.int (3 : Int32)), .val (.int (4 : Int32)), .val (.ref cx0573), .val (.ref cx0575), .val (.ref cx0579), .val (.int (1 : Int32))] [(.int (1 : Int32)), (.ref cx0579)])) _
            refine XS.iloadN X586.here hx rfl (hb hby at_108) rfl ?_
            show Steps p.tables e below (T586.setTop (mkF m 109 #[.val (.int p0), .val (.int p1), .val (.int p2), .val (.int (3 : Int32)), .val (.int (4 : Int32)), .val (.ref cx0573), .val (.ref cx0575), .val (.ref cx0579), .val (.int (1 : Int32))] [(.int p0), (.int (1 : Int32)), (.ref cx0579)])) _
            refine XS.iloadN X586.here hx rfl (hb hby at_109) rfl ?_
            show Steps p.tables e below (T586.setTop (mkF m 110 #[.val (.int p0), .val (.int p1), .val (.int p2), .val (.int (3 : Int32)), .val (.int (4 : Int32)), .val (.ref cx0573), .val (.ref cx0575), .val (.ref cx0579), .val (.int (1 : Int32))] [(.int p1), (.int p0), (.int (1 : Int32)), (.ref cx0579)])) _
            refine st587 _ ?_
            show Steps p.tables e below (T587.setTop (mkF m 113 #[.val (.int p0), .val (.int p1), .val (.int p2), .val (.int (3 : Int32)), .val (.int (4 : Int32)), .val (.ref cx0573), .val (.ref cx0575), .val (.ref cx0579), .val (.int (1 : Int32))] [(.int (1 : Int32))])) _
            refine XS.ifNo X587.here hx rfl (hb hby at_113) rfl ((if0 _ _).trans (feq (by decide : ¬ ((1 : Int32) = (0 : Int32)))).1) ?_
            show Steps p.tables e below (T587.setTop (mkF m 116 #[.val (.int p0), .val (.int p1), .val (.int p2), .val (.int (3 : Int32)), .val (.int (4 : Int32)), .val (.ref cx0573), .val (.ref cx0575), .val (.ref cx0579), .val (.int (1 : Int32))] [])) _
            refine XS.iconst X587.here hx rfl (hb hby at_116) ?_
            show Steps p.tables e below (T587.setTop (mkF m 117 #[.val (.int p0), .val (.int p1), .val (.int p2), .val (.int (3 : Int32)), .val (.int (4 : Int32)), .val (.ref cx0573), .val (.ref cx0575), .val (.ref cx0579), .val (.int (1 : Int32))] [(.int (1 : Int32))])) _
            refine XS.goto X587.here hx rfl (pc0 := 117) (pc' := 121) rfl (hb hby at_117) (by decide) (by decide) ?_
            show Steps p.tables e below (T587.setTop (mkF m 121 #[.val (.int p0), .val (.int p1), .val (.int p2), .val (.int (3 : Int32)), .val (.int (4 : Int32)), .val (.ref cx0573), .val (.ref cx0575), .val (.ref cx0579), .val (.int (1 : Int32))] [(.int (1 : Int32))])) _
            refine XS.istore X587.here hx rfl (hb hby at_121) rfl (l' := #[.val (.int p0), .val (.int p1), .val (.int p2), .val (.int (3 : Int32)), .val (.int (4 : Int32)), .val (.ref cx0573), .val (.ref cx0575), .val (.ref cx0579), .val (.int (1 : Int32))]) rfl ?_
            show Steps p.tables e below (T587.setTop (mkF m 123 #[.val (.int p0), .val (.int p1), .val (.int p2), .val (.int (3 : Int32)), .val (.int (4 : Int32)), .val (.ref cx0573), .val (.ref cx0575), .val (.ref cx0579), .val (.int (1 : Int32))] [])) _
            refine XS.iloadN X587.here hx rfl (hb hby at_123) rfl ?_
            show Steps p.tables e below (T587.setTop (mkF m 124 #[.val (.int p0), .val (.int p1), .val (.int p2), .val (.int (3 : Int32)), .val (.int (4 : Int32)), .val (.ref cx0573), .val (.ref cx0575), .val (.ref cx0579), .val (.int (1 : Int32))] [(.int (3 : Int32))])) _
            refine XS.iconst X587.here hx rfl (hb hby at_124) ?_
            show Steps p.tables e below (T587.setTop (mkF m 125 #[.val (.int p0), .val (.int p1), .val (.int p2), .val (.int (3 : Int32)), .val (.int (4 : Int32)), .val (.ref cx0573), .val (.ref cx0575), .val (.ref cx0579), .val (.int (1 : Int32))] [(.int (2 : Int32)), (.int (3 : Int32))])) _
            refine XS.icmpNo X587.here hx rfl (hb hby at_125) rfl (tlt (by decide : (2 : Int32) < (3 : Int32))).2.2.2 ?_
            show Steps p.tables e below (T587.setTop (mkF m 128 #[.val (.int p0), .val (.int p1), .val (.int p2), .val (.int (3 : Int32)), .val (.int (4 : Int32)), .val (.ref cx0573), .val (.ref cx0575), .val (.ref cx0579), .val (.int (1 : Int32))] [])) _
            refine XS.iload X587.here hx rfl (hb hby at_128) rfl ?_
            show Steps p.tables e below (T587.setTop (mkF m 130 #[.val (.int p0), .val (.int p1), .val (.int p2), .val (.int (3 : Int32)), .val (.int (4 : Int32)), .val (.ref cx0573), .val (.ref cx0575), .val (.ref cx0579), .val (.int (1 : Int32))] [(.int (1 : Int32))])) _
            refine XS.ifNo X587.here hx rfl (hb hby at_130) rfl ((if0 _ _).trans (feq (by decide : ¬ ((1 : Int32) = (0 : Int32)))).1) ?_
            show Steps p.tables e below (T587.setTop (mkF m 133 #[.val (.int p0), .val (.int p1), .val (.int p2), .val (.int (3 : Int32)), .val (.int (4 : Int32)), .val (.ref cx0573), .val (.ref cx0575), .val (.ref cx0579), .val (.int (1 : Int32))] [])) _
            refine XS.aload X587.here hx rfl (hb hby at_133) rfl rfl ?_
            show Steps p.tables e below (T587.setTop (mkF m 135 #[.val (.int p0), .val (.int p1), .val (.int p2), .val (.int (3 : Int32)), .val (.int (4 : Int32)), .val (.ref cx0573), .val (.ref cx0575), .val (.ref cx0579), .val (.int (1 : Int32))] [(.ref cx0579)])) _
            refine XS.iconst X587.here hx rfl (hb hby at_135) ?_
            show Steps p.tables e below (T587.setTop (mkF m 136 #[.val (.int p0), .val (.int p1), .val (.int p2), .val (.int (3 : Int32)), .val (.int (4 : Int32)), .val (.ref cx0573), .val (.ref cx0575), .val (.ref cx0579), .val (.int (1 : Int32))] [(.int (2 : Int32)), (.ref cx0579)])) _
            refine XS.iloadN X587.here hx rfl (hb hby at_136) rfl ?_
            show Steps p.tables e below (T587.setTop (mkF m 137 #[.val (.int p0), .val (.int p1), .val (.int p2), .val (.int (3 : Int32)), .val (.int (4 : Int32)), .val (.ref cx0573), .val (.ref cx0575), .val (.ref cx0579), .val (.int (1 : Int32))] [(.int p0), (.int (2 : Int32)), (.ref cx0579)])) _
            refine XS.iloadN X587.here hx rfl (hb hby at_137) rfl ?_
            show Steps p.tables e below (T587.setTop (mkF m 138 #[.val (.int p0), .val (.int p1), .val (.int p2), .val (.int (3 : Int32)), .val (.int (4 : Int32)), .val (.ref cx0573), .val (.ref cx0575), .val (.ref cx0579), .val (.int (1 : Int32))] [(.int p1), (.int p0), (.int (2 : Int32)), (.ref cx0579)])) _
            refine st588 _ ?_
            show Steps p.tables e below (T588.setTop (mkF m 141 #[.val (.int p0), .val (.int p1), .val (.int p2), .val (.int (3 : Int32)), .val (.int (4 : Int32)), .val (.ref cx0573), .val (.ref cx0575), .val (.ref cx0579), .val (.int (1 : Int32))] [(.int (1 : Int32))])) _
            refine XS.ifNo X588.here hx rfl (hb hby at_141) rfl ((if0 _ _).trans (feq (by decide : ¬ ((1 : Int32) = (0 : Int32)))).1) ?_
            show Steps p.tables e below (T588.setTop (mkF m 144 #[.val (.int p0), .val (.int p1), .val (.int p2), .val (.int (3 : Int32)), .val (.int (4 : Int32)), .val (.ref cx0573), .val (.ref cx0575), .val (.ref cx0579), .val (.int (1 : Int32))] [])) _
            refine XS.iconst X588.here hx rfl (hb hby at_144) ?_
            show Steps p.tables e below (T588.setTop (mkF m 145 #[.val (.int p0), .val (.int p1), .val (.int p2), .val (.int (3 : Int32)), .val (.int (4 : Int32)), .val (.ref cx0573), .val (.ref cx0575), .val (.ref cx0579), .val (.int (1 : Int32))] [(.int (1 : Int32))])) _
            refine XS.goto X588.here hx rfl (pc0 := 145) (pc' := 149) rfl (hb hby at_145) (by decide) (by decide) ?_
            show Steps p.tables e below (T588.setTop (mkF m 149 #[.val (.int p0), .val (.int p1), .val (.int p2), .val (.int (3 : Int32)), .val (.int (4 : Int32)), .val (.ref cx0573), .val (.ref cx0575), .val (.ref cx0579), .val (.int (1 : Int32))] [(.int (1 : Int32))])) _
            refine XS.istore X588.here hx rfl (hb hby at_149) rfl (l' := #[.val (.int p0), .val (.int p1), .val (.int p2), .val (.int (3 : Int32)), .val (.int (4 : Int32)), .val (.ref cx0573), .val (.ref cx0575), .val (.ref cx0579), .val (.int (1 : Int32))]) rfl ?_
            show Steps p.tables e below (T588.setTop (mkF m 151 #[.val (.int p0), .val (.int p1), .val (.int p2), .val (.int (3 : Int32)), .val (.int (4 : Int32)), .val (.ref cx0573), .val (.ref cx0575), .val (.ref cx0579), .val (.int (1 : Int32))] [])) _
            refine XS.iload X588.here hx rfl (hb hby at_151) rfl ?_
            show Steps p.tables e below (T588.setTop (mkF m 153 #[.val (.int p0), .val (.int p1), .val (.int p2), .val (.int (3 : Int32)), .val (.int (4 : Int32)), .val (.ref cx0573), .val (.ref cx0575), .val (.ref cx0579), .val (.int (1 : Int32))] [(.int (1 : Int32))])) _
            refine XS.ifNo X588.here hx rfl (hb hby at_153) rfl ((if0 _ _).trans (feq (by decide : ¬ ((1 : Int32) = (0 : Int32)))).1) ?_
            show Steps p.tables e below (T588.setTop (mkF m 156 #[.val (.int p0), .val (.int p1), .val (.int p2), .val (.int (3 : Int32)), .val (.int (4 : Int32)), .val (.ref cx0573), .val (.ref cx0575), .val (.ref cx0579), .val (.int (1 : Int32))] [])) _
            refine XS.aload X588.here hx rfl (hb hby at_156) rfl rfl ?_
            show Steps p.tables e below (T588.setTop (mkF m 158 #[.val (.int p0), .val (.int p1), .val (.int p2), .val (.int (3 : Int32)), .val (.int (4 : Int32)), .val (.ref cx0573), .val (.ref cx0575), .val (.ref cx0579), .val (.int (1 : Int32))] [(.ref cx0573)])) _
            refine XS.iloadN X588.here hx rfl (hb hby at_158) rfl ?_
            show Steps p.tables e below (T588.setTop (mkF m 159 #[.val (.int p0), .val (.int p1), .val (.int p2), .val (.int (3 : Int32)), .val (.int (4 : Int32)), .val (.ref cx0573), .val (.ref cx0575), .val (.ref cx0579), .val (.int (1 : Int32))] [(.int p0), (.ref cx0573)])) _
            refine XS.iloadN X588.here hx rfl (hb hby at_159) rfl ?_
            show Steps p.tables e below (T588.setTop (mkF m 160 #[.val (.int p0), .val (.int p1), .val (.int p2), .val (.int (3 : Int32)), .val (.int (4 : Int32)), .val (.ref cx0573), .val (.ref cx0575), .val (.ref cx0579), .val (.int (1 : Int32))] [(.int (3 : Int32)), (.int p0), (.ref cx0573)])) _
            refine st589 _ ?_
            show Steps p.tables e below (T589.setTop (mkF m 163 #[.val (.int p0), .val (.int p1), .val (.int p2), .val (.int (3 : Int32)), .val (.int (4 : Int32)), .val (.ref cx0573), .val (.ref cx0575), .val (.ref cx0579), .val (.int (1 : Int32))] [(.int (1 : Int32))])) _
            refine XS.ifNo X589.here hx rfl (hb hby at_163) rfl ((if0 _ _).trans (feq (by decide : ¬ ((1 : Int32) = (0 : Int32)))).1) ?_
            show Steps p.tables e below (T589.setTop (mkF m 166 #[.val (.int p0), .val (.int p1), .val (.int p2), .val (.int (3 : Int32)), .val (.int (4 : Int32)), .val (.ref cx0573), .val (.ref cx0575), .val (.ref cx0579), .val (.int (1 : Int32))] [])) _
            refine XS.aload X589.here hx rfl (hb hby at_166) rfl rfl ?_
            show Steps p.tables e below (T589.setTop (mkF m 168 #[.val (.int p0), .val (.int p1), .val (.int p2), .val (.int (3 : Int32)), .val (.int (4 : Int32)), .val (.ref cx0573), .val (.ref cx0575), .val (.ref cx0579), .val (.int (1 : Int32))] [(.ref cx0575)])) _
            refine XS.iloadN X589.here hx rfl (hb hby at_168) rfl ?_
            show Steps p.tables e below (T589.setTop (mkF m 169 #[.val (.int p0), .val (.int p1), .val (.int p2), .val (.int (3 : Int32)), .val (.int (4 : Int32)), .val (.ref cx0573), .val (.ref cx0575), .val (.ref cx0579), .val (.int (1 : Int32))] [(.int p1), (.ref cx0575)])) _
            refine XS.iload X589.here hx rfl (hb hby at_169) rfl ?_
            show Steps p.tables e below (T589.setTop (mkF m 171 #[.val (.int p0), .val (.int p1), .val (.int p2), .val (.int (3 : Int32)), .val (.int (4 : Int32)), .val (.ref cx0573), .val (.ref cx0575), .val (.ref cx0579), .val (.int (1 : Int32))] [(.int (4 : Int32)), (.int p1), (.ref cx0575)])) _
            refine st590 _ ?_
            show Steps p.tables e below (T590.setTop (mkF m 174 #[.val (.int p0), .val (.int p1), .val (.int p2), .val (.int (3 : Int32)), .val (.int (4 : Int32)), .val (.ref cx0573), .val (.ref cx0575), .val (.ref cx0579), .val (.int (1 : Int32))] [(.int (1 : Int32))])) _
            refine XS.ifNo X590.here hx rfl (hb hby at_174) rfl ((if0 _ _).trans (feq (by decide : ¬ ((1 : Int32) = (0 : Int32)))).1) ?_
            show Steps p.tables e below (T590.setTop (mkF m 177 #[.val (.int p0), .val (.int p1), .val (.int p2), .val (.int (3 : Int32)), .val (.int (4 : Int32)), .val (.ref cx0573), .val (.ref cx0575), .val (.ref cx0579), .val (.int (1 : Int32))] [])) _
            refine XS.iconst X590.here hx rfl (hb hby at_177) ?_
            show Steps p.tables e below (T590.setTop (mkF m 178 #[.val (.int p0), .val (.int p1), .val (.int p2), .val (.int (3 : Int32)), .val (.int (4 : Int32)), .val (.ref cx0573), .val (.ref cx0575), .val (.ref cx0579), .val (.int (1 : Int32))] [(.int (1 : Int32))])) _
            refine XS.goto X590.here hx rfl (pc0 := 178) (pc' := 182) rfl (hb hby at_178) (by decide) (by decide) ?_
            show Steps p.tables e below (T590.setTop (mkF m 182 #[.val (.int p0), .val (.int p1), .val (.int p2), .val (.int (3 : Int32)), .val (.int (4 : Int32)), .val (.ref cx0573), .val (.ref cx0575), .val (.ref cx0579), .val (.int (1 : Int32))] [(.int (1 : Int32))])) _
            exact retN X590 hx (t := .boolean) Bd.returns (by simp) (hb hby at_182) hr
          · show Q0 Z p0 p1 p2 h0 n0 _ T590.heap _
            rw [e590]
            have hv : (1 : Int32) = (v0 p2) := by unfold v0; first | (rw [if_neg hs431, if_neg hs468, if_neg hs507, if_neg hs551]) | (simp only [if_neg hs431, if_neg hs468, if_neg hs507, if_neg hs551])
            exact ⟨(by rw [← hv]), N590⟩
theorem law_one (p2 : Int32) : (v0 p2) = 1 := by
  unfold v0; repeat' split
  all_goals rfl
set_option maxRecDepth 65536 in
set_option maxHeartbeats 40000000 in
theorem comes_1 {Post : Tables → Env → Array Value → State → Outcome → State → Prop} (hpost : ∀ tb e args s v u, (limb_1_1.after args s (.returned v) u = true ∧ limb_1_2.after args s (.returned v) u = true ∧ True) → FrameEnd s (.returned v) u (Jvm.fieldLocs frame_1_writes args s ++ Jvm.arrayLocs frame_1_arrays args s ++ Jvm.staticLocs frame_1_statics s) 16 128 → Post tb e args s (.returned v) u) :
    ArmFor flags0 classFile x code maxLocals ret World_1 tables_1 room_1 Calls_1 rest_1 Pre_1 Post := by
  intro l hfl _ _ p e ha hc hk s m args below hf hA hF happ hP
  obtain ⟨hcalls, hrest, hpre⟩ := hP
  obtain ⟨-, -, -, hnamed, -, -, -, hat⟩ := (Spec.applies_iff hf).mp happ
  obtain ⟨hg, hn⟩ := and_e (Cond.before_iff.mp (show (Jvm.Cond.and given_1 narrow_1).before args s = true from hpre))
  obtain ⟨hcount, r0⟩ := and_e hg
  obtain ⟨k0, r1⟩ := and_e r0
  obtain ⟨k1, r2⟩ := and_e r1
  have k2 := r2
  obtain ⟨w0, w1, w2, rfl⟩ : ∃ w0 w1 w2 : Value, args = #[w0, w1, w2] := by
    have hs : args.size = 3 := by simpa [Cond.value, given_1] using hcount
    obtain ⟨L⟩ := args
    match L, hs with
    | [w0, w1, w2], _ => exact ⟨w0, w1, w2, rfl⟩
  have hw := fun d (hd : d ∈ tables_1) => atoms_spec (ws := Jvm.Cond.code x code maxLocals ret :: tables_1) hat d (List.mem_cons_of_mem _ hd)
  obtain ⟨i0, ei0⟩ := is_v k0
  obtain rfl : w0 = (.int i0) := Option.some.inj ei0
  obtain ⟨i1, ei1⟩ := is_v k1
  obtain rfl : w1 = (.int i1) := Option.some.inj ei1
  obtain ⟨i2, ei2⟩ := is_v k2
  obtain rfl : w2 = (.int i2) := Option.some.inj ei2
  obtain ⟨n, o, h1, h2, h3, v, L, rfl, ⟨hv, N⟩, hq⟩ := rm0 l s _ hw tables_1 i0 i1 i2 s.heap s.heap.size (Nat.le_refl _) p e ha hc hk s m _ below hf ((Spec.applies_iff_loose hf).mp happ).1 ⟨rfl, State.Warmed39.refl s, rfl⟩ trivial
  rw [law_one i2] at hv
  subst hv
  refine ⟨n, _, h1, h2, h3, hpost _ _ _ _ _ _ ⟨Cond.after_iff.mpr rfl, Cond.after_iff.mpr (eq_i res_at (Term.int_eval (1)) rfl), trivial⟩ ⟨hq.1, hq.2.1, (hq.2.2.sift fun y hy => Or.inr (N y hy)).mono (by decide) (by decide)⟩⟩
theorem main_1_1 : Claimed_1_1 := comes_1 fun _ _ _ _ _ _ h hF => ⟨h.1, hF⟩
theorem main_1_2 : Claimed_1_2 := comes_1 fun _ _ _ _ _ _ h hF => ⟨h.2.1, hF⟩
end Jvm.Pilot.@@N@@
namespace Jvm.Pilot.@@N@@
open Jvm Jvm.ClassFile Sem Op Lib Jvm.Free Jvm.Stand Jvm.Pilot.@@N@@.Jvm.D
/-! MADE BY PROGRAM (witnessworld.py) out of the Statement's table words and the real class files: 9 classes; the members and pool entries that the words name. The judged class is class 1, her method 1. -/
namespace start1
open Jvm.ClassFile
def u (s : String) : CpInfo := .utf8 (stringToUtf16 s)
/-- a pool by its gaps: so many unusable entries, then the entry; so many at the end -/
def gap : Nat → List CpInfo → List CpInfo
  | 0, r => r
  | n + 1, r => .unusable :: gap n r
def poolList (es : List (Nat × CpInfo)) (last : Nat) : List CpInfo := es.foldr (fun e r => gap e.1 (e.2 :: r)) (gap last [])
def pool (es : List (Nat × CpInfo)) (last : Nat) : Array CpInfo := ⟨poolList es last⟩
def fileOf (pool : Array CpInfo) (this : Nat) (attrs : Array Attribute := #[]) (ms : Array MethodInfo := #[]) (fl : Nat := 33) (sup : Nat := 0) (ifs : Array Nat := #[]) (fds : Array FieldInfo := #[]) : ClassFile where
  minorVersion := 0
  majorVersion := 65
  constantPool := pool
  accessFlags := fl
  thisClass := this
  superClass := sup
  interfaces := ifs
  fields := fds
  methods := ms
  attributes := attrs
def plain (name : String) (sup : Option ClassId) : Class where
  name := name
  kind := .ordinary
  loader := none
  accessFlags := 33
  super := sup
  interfaces := #[]
  cf := none
  fields := #[]
  methods := #[]
  instanceTypes := #[]
  staticTypes := #[]
  resolved := #[]
  callSites := []
  init := .initialized
  statics := none
  mirror := none

def pool0 : Array CpInfo := pool [(5, u "<init>"), (0, u "()V"), (1, .class_ 10), (1, u "java/lang/Object")] 113

def k0m0 : Method := { name := "<init>", desc := "()V", sig := { parameters := [], returnType := none }, accessFlags := 1, code := none }
/-- java/lang/Object -/
def k0 : Class := { plain "java/lang/Object" none with
  accessFlags := 33
  interfaces := #[]
  cf := some (fileOf pool0 8 #[] #[{ accessFlags := 1, nameIndex := 5, descriptorIndex := 6, attributes := #[] }] 33 0 #[] #[])
  fields := #[]
  methods := #[k0m0]
  instanceTypes := #[]
  staticTypes := #[]
  resolved := Array.replicate 124 none
  statics := none }

def pool1 : Array CpInfo := pool [(2, .class_ 4), (1, u "java/lang/Object"), (0, u "<init>"), (0, u "()V"), (0, .methodref 8 9), (0, .class_ 10), (0, .nameAndType 11 12), (0, u "com/example/rollcall/rollcall/bench/MilenageXorPinLaw"), (0, u "bytes"), (0, u "(II)[B"), (0, .methodref 14 15), (0, .class_ 16), (0, .nameAndType 17 18), (0, u "com/example/rollcall/rollcall/bench/Milenage"), (0, u "xor"), (0, u "([B[B)[B"), (0, .methodref 8 20), (0, .nameAndType 21 22), (0, u "at"), (0, u "([BIII)Z"), (0, .methodref 8 24), (0, .nameAndType 25 26), (0, u "same"), (0, u "([BII)Z"), (0, .methodref 8 28), (0, .nameAndType 29 30), (0, u "oct"), (0, u "(II)B"), (2, u "law"), (0, u "(III)Z")] 5

def k1m0 : Method := { name := "<init>", desc := "()V", sig := { parameters := [], returnType := none }, accessFlags := 1, code := none }
def k1c1 : Code := { maxStack := 4, maxLocals := 9, code := code, exceptionTable := #[], attributes := #[] }
def k1m1 : Method := { name := "law", desc := "(III)Z", sig := { parameters := [.int, .int, .int], returnType := some .boolean }, accessFlags := 9, code := some k1c1 }
def k1c2 : Code := { maxStack := 3, maxLocals := 2, code := method_3_code, exceptionTable := #[], attributes := #[] }
def k1m2 : Method := { name := "oct", desc := "(II)B", sig := { parameters := [.int, .int], returnType := some .byte }, accessFlags := 10, code := some k1c2 }
def k1c3 : Code := { maxStack := 4, maxLocals := 3, code := method_4_code, exceptionTable := #[], attributes := #[] }
def k1m3 : Method := { name := "bytes", desc := "(II)[B", sig := { parameters := [.int, .int], returnType := some (.array .byte) }, accessFlags := 10, code := some k1c3 }
def k1c4 : Code := { maxStack := 4, maxLocals := 4, code := method_5_code, exceptionTable := #[], attributes := #[] }
def k1m4 : Method := { name := "at", desc := "([BIII)Z", sig := { parameters := [(.array .byte), .int, .int, .int], returnType := some .boolean }, accessFlags := 10, code := some k1c4 }
def k1c5 : Code := { maxStack := 3, maxLocals := 4, code := method_6_code, exceptionTable := #[], attributes := #[] }
def k1m5 : Method := { name := "same", desc := "([BII)Z", sig := { parameters := [(.array .byte), .int, .int], returnType := some .boolean }, accessFlags := 10, code := some k1c5 }
/-- com/example/rollcall/rollcall/bench/MilenageXorPinLaw -/
def k1 : Class := { plain "com/example/rollcall/rollcall/bench/MilenageXorPinLaw" (some 0) with
  accessFlags := 49
  interfaces := #[]
  cf := some (fileOf pool1 8 #[] #[{ accessFlags := 1, nameIndex := 5, descriptorIndex := 6, attributes := #[] }, { accessFlags := 9, nameIndex := 33, descriptorIndex := 34, attributes := #[] }, { accessFlags := 10, nameIndex := 29, descriptorIndex := 30, attributes := #[] }, { accessFlags := 10, nameIndex := 11, descriptorIndex := 12, attributes := #[] }, { accessFlags := 10, nameIndex := 21, descriptorIndex := 22, attributes := #[] }, { accessFlags := 10, nameIndex := 25, descriptorIndex := 26, attributes := #[] }] 49 2 #[] #[])
  fields := #[]
  methods := #[k1m0, k1m1, k1m2, k1m3, k1m4, k1m5]
  instanceTypes := #[]
  staticTypes := #[]
  resolved := Array.replicate 40 none
  statics := none }

def pool2 : Array CpInfo := pool [(2, .class_ 4), (1, u "java/lang/Object"), (3, .class_ 10), (1, u "com/example/rollcall/rollcall/bench/Milenage"), (0, u "kernel"), (3, u "Ljavax/crypto/Cipher;"), (3, u "[B"), (4, u "opc"), (6, u "xor"), (0, u "([B[B)[B"), (23, .class_ 57), (0, u "com/example/rollcall/rollcall/bench/Milenage$Outputs"), (48, u "BLOCK"), (0, u "I")] 31

def k2c0 : Code := { maxStack := 5, maxLocals := 4, code := prog_13_method_8_code, exceptionTable := #[], attributes := #[] }
def k2m0 : Method := { name := "xor", desc := "([B[B)[B", sig := { parameters := [(.array .byte), (.array .byte)], returnType := some (.array .byte) }, accessFlags := 8, code := some k2c0 }
/-- com/example/rollcall/rollcall/bench/Milenage -/
def k2 : Class := { plain "com/example/rollcall/rollcall/bench/Milenage" (some 0) with
  accessFlags := 48
  interfaces := #[]
  cf := some (fileOf pool2 8 #[.nestMembers #[56]] #[{ accessFlags := 8, nameIndex := 31, descriptorIndex := 32, attributes := #[] }] 48 2 #[] #[{ accessFlags := 26, nameIndex := 106, descriptorIndex := 107, attributes := #[] }, { accessFlags := 18, nameIndex := 11, descriptorIndex := 15, attributes := #[] }, { accessFlags := 18, nameIndex := 24, descriptorIndex := 19, attributes := #[] }])
  fields := #[{ name := "BLOCK", type := .int, accessFlags := 26, slot := 0, constantValue := 0 }, { name := "kernel", type := (.object "javax/crypto/Cipher"), accessFlags := 18, slot := 0, constantValue := 0 }, { name := "opc", type := (.array .byte), accessFlags := 18, slot := 1, constantValue := 0 }]
  methods := #[k2m0]
  instanceTypes := #[(.object "javax/crypto/Cipher"), (.array .byte)]
  staticTypes := #[.int]
  resolved := Array.replicate 139 none
  statics := none }

def pool3 : Array CpInfo := pool [(1, u "java/lang/Cloneable"), (0, .class_ 1), (0, u "java/lang/Object"), (0, .class_ 3)] 3

/-- java/lang/Cloneable -/
def k3 : Class := { plain "java/lang/Cloneable" (some 0) with
  accessFlags := 1537
  interfaces := #[]
  cf := some (fileOf pool3 2 #[] #[] 1537 4 #[] #[])
  fields := #[]
  methods := #[]
  instanceTypes := #[]
  staticTypes := #[]
  resolved := Array.replicate 8 none
  statics := none }

def pool4 : Array CpInfo := pool [(1, u "java/io/Serializable"), (0, .class_ 1), (0, u "java/lang/Object"), (0, .class_ 3)] 3

/-- java/io/Serializable -/
def k4 : Class := { plain "java/io/Serializable" (some 0) with
  accessFlags := 1537
  interfaces := #[]
  cf := some (fileOf pool4 2 #[] #[] 1537 4 #[] #[])
  fields := #[]
  methods := #[]
  instanceTypes := #[]
  staticTypes := #[]
  resolved := Array.replicate 8 none
  statics := none }

/-- the primitive byte -/
def k5 : Class := { plain "byte" none with kind := .primitive 'B', accessFlags := 0x411 }
/-- [B -/
def k6 : Class := { plain "[B" (some 0) with kind := .array 5 .byte, interfaces := #[3, 4], accessFlags := 1041 }

/-- the primitive int -/
def k7 : Class := { plain "int" none with kind := .primitive 'I', accessFlags := 0x411 }
/-- [I -/
def k8 : Class := { plain "[I" (some 0) with kind := .array 7 .int, interfaces := #[3, 4], accessFlags := 1041 }

def heap : Heap := #[]
def classes : Array Class := #[k0, k1, k2, k3, k4, k5, k6, k7, k8]
def interned : List (Array UInt16 × Addr) := []
def slotsUsed : Nat := 0
def theMethod : MethodId := ⟨1, 1⟩
def args0 : Array Value := #[.int 5, .int 5, .int 5]
def aboutOver (below : List Frame) : State where
  vm := { classes := classes, interned := interned.toArray }
  heap := heap
  slotsUsed := slotsUsed
  threads := #[{ frames := .invoking theMethod args0 :: below }]
def below0 : List Frame := [.native { method := ⟨0, 0⟩, args := #[] }]
def about1 : State := aboutOver below0
def p0 : Program := .bare "" "" ""
def e0 : Env := launch0.env 0 0 0
theorem w_frames : about1.frames = Frame.invoking theMethod args0 :: below0 := rfl
set_option maxRecDepth 65536 in
theorem w_args : argsFit about1.vm theMethod args0 = true := by decide +kernel
set_option maxRecDepth 65536 in
theorem w_heap : heapFits about1 = true := by decide +kernel
set_option maxRecDepth 65536 in
theorem w_runnable : about1.curStatus? = some .runnable := by decide +kernel
set_option maxRecDepth 65536 in
theorem w_alone : about1.alone = true := by decide +kernel
set_option maxRecDepth 65536 in
theorem w_named : about1.methodNamed? x = some theMethod := by decide +kernel
set_option maxRecDepth 65536 in
theorem w_hears : about1.hears theMethod below0 = true := by decide +kernel
set_option maxRecDepth 65536 in
theorem w_ripe : about1.ripe theMethod args0 below0 = true := by decide +kernel
theorem w_running : about1.status = .running := rfl
set_option maxRecDepth 65536 in
theorem w_room : about1.hasRoom e0.platform room_1 = true :=
  launch0.hasRoom_least _ room_1 (by decide +kernel) (by decide +kernel) (by decide +kernel) (by decide +kernel) (by decide +kernel) (by decide +kernel)
theorem allAtoms_all (ts : List Jvm.Cond) (a : Array Jvm.Value) (st : Jvm.State) : (allAtoms ts).before a st = ts.all (fun c => c.before a st) := by
  induction ts with
  | nil => rfl
  | cons c t ih =>
    show (Jvm.Cond.and c (allAtoms t)).before a st = _
    rw [Jvm.Cond.before_and, ih, List.all_cons]
def words1 : List Jvm.Cond := Jvm.Cond.code x code maxLocals ret :: tables_1
/-- a 'code' word, met by the world's own term for the bytes: nothing is compared byte by byte -/
theorem code_word {y : MethodName} {bytes : ByteArray} {mx : Nat} {rt : Option FieldType} {a : Array Value} {s : State} {m : MethodId} {meth : Method} {c : Code} (h1 : s.methodNamed? y = some m) (h2 : s.vm.method? m = some meth) (h3 : meth.code = some c) (h4 : c.code = bytes)
    (h5 : (c.maxLocals == mx && c.exceptionTable.isEmpty && decide (c.maxStack ≤ mostOperands) && decide (meth.sig.returnType = rt) && !meth.locks && decide (parseMethodDescriptor y.desc = some meth.sig)) = true) : (Jvm.Cond.code y bytes mx rt).before a s = true := by
  simp only [Bool.and_eq_true, beq_iff_eq, Bool.not_eq_true', decide_eq_true_eq] at h5
  obtain ⟨⟨⟨⟨⟨g1, g2⟩, g3⟩, g4⟩, g5⟩, g6⟩ := h5
  simp [Cond.before, Cond.holds, Cond.value, h1, h2, h3, h4, g1, g2, g3, g4, g5, g6]
def isCode : Jvm.Cond → Bool
  | .code _ _ _ _ => true
  | _ => false
theorem all_split {L : List Jvm.Cond} {P : Jvm.Cond → Bool} (h1 : L.all (fun c => isCode c || P c) = true) (h2 : ∀ c ∈ L.filter isCode, P c = true) : L.all P = true := by
  refine List.all_eq_true.mpr fun c hc => ?_
  have h := List.all_eq_true.mp h1 c hc
  rcases Bool.eq_false_or_eq_true (isCode c) with hi | hi
  · exact h2 c (List.mem_filter.mpr ⟨hc, hi⟩)
  · simpa [hi] using h
set_option maxRecDepth 65536 in
theorem w_c0 : (Jvm.Cond.code x code maxLocals ret).before args0 about1 = true := code_word (m := ⟨1, 1⟩) (meth := k1m1) (c := k1c1) (by decide +kernel) rfl rfl rfl (by decide +kernel)
set_option maxRecDepth 65536 in
theorem w_c1 : (Jvm.Cond.code ({ cls := "com/example/rollcall/rollcall/bench/MilenageXorPinLaw", name := "bytes", desc := "(II)[B" } : Jvm.MethodName) method_4_code (3 : Nat) (Option.some (Jvm.ClassFile.FieldType.array Jvm.ClassFile.FieldType.byte))).before args0 about1 = true := code_word (m := ⟨1, 3⟩) (meth := k1m3) (c := k1c3) (by decide +kernel) rfl rfl rfl (by decide +kernel)
set_option maxRecDepth 65536 in
theorem w_c2 : (Jvm.Cond.code ({ cls := "com/example/rollcall/rollcall/bench/MilenageXorPinLaw", name := "oct", desc := "(II)B" } : Jvm.MethodName) method_3_code (2 : Nat) (Option.some Jvm.ClassFile.FieldType.byte)).before args0 about1 = true := code_word (m := ⟨1, 2⟩) (meth := k1m2) (c := k1c2) (by decide +kernel) rfl rfl rfl (by decide +kernel)
set_option maxRecDepth 65536 in
theorem w_c3 : (Jvm.Cond.code ({ cls := "com/example/rollcall/rollcall/bench/Milenage", name := "xor", desc := "([B[B)[B" } : Jvm.MethodName) prog_13_method_8_code (4 : Nat) (Option.some (Jvm.ClassFile.FieldType.array Jvm.ClassFile.FieldType.byte))).before args0 about1 = true := code_word (m := ⟨2, 0⟩) (meth := k2m0) (c := k2c0) (by decide +kernel) rfl rfl rfl (by decide +kernel)
set_option maxRecDepth 65536 in
theorem w_c4 : (Jvm.Cond.code ({ cls := "com/example/rollcall/rollcall/bench/MilenageXorPinLaw", name := "at", desc := "([BIII)Z" } : Jvm.MethodName) method_5_code (4 : Nat) (Option.some Jvm.ClassFile.FieldType.boolean)).before args0 about1 = true := code_word (m := ⟨1, 4⟩) (meth := k1m4) (c := k1c4) (by decide +kernel) rfl rfl rfl (by decide +kernel)
set_option maxRecDepth 65536 in
theorem w_c5 : (Jvm.Cond.code ({ cls := "com/example/rollcall/rollcall/bench/MilenageXorPinLaw", name := "same", desc := "([BII)Z" } : Jvm.MethodName) method_6_code (4 : Nat) (Option.some Jvm.ClassFile.FieldType.boolean)).before args0 about1 = true := code_word (m := ⟨1, 5⟩) (meth := k1m5) (c := k1c5) (by decide +kernel) rfl rfl rfl (by decide +kernel)
def codes1 : List Jvm.Cond := [Jvm.Cond.code x code maxLocals ret, Jvm.Cond.code ({ cls := "com/example/rollcall/rollcall/bench/MilenageXorPinLaw", name := "bytes", desc := "(II)[B" } : Jvm.MethodName) method_4_code (3 : Nat) (Option.some (Jvm.ClassFile.FieldType.array Jvm.ClassFile.FieldType.byte)), Jvm.Cond.code ({ cls := "com/example/rollcall/rollcall/bench/MilenageXorPinLaw", name := "oct", desc := "(II)B" } : Jvm.MethodName) method_3_code (2 : Nat) (Option.some Jvm.ClassFile.FieldType.byte), Jvm.Cond.code ({ cls := "com/example/rollcall/rollcall/bench/Milenage", name := "xor", desc := "([B[B)[B" } : Jvm.MethodName) prog_13_method_8_code (4 : Nat) (Option.some (Jvm.ClassFile.FieldType.array Jvm.ClassFile.FieldType.byte)), Jvm.Cond.code ({ cls := "com/example/rollcall/rollcall/bench/MilenageXorPinLaw", name := "at", desc := "([BIII)Z" } : Jvm.MethodName) method_5_code (4 : Nat) (Option.some Jvm.ClassFile.FieldType.boolean), Jvm.Cond.code ({ cls := "com/example/rollcall/rollcall/bench/MilenageXorPinLaw", name := "same", desc := "([BII)Z" } : Jvm.MethodName) method_6_code (4 : Nat) (Option.some Jvm.ClassFile.FieldType.boolean)]
set_option maxRecDepth 65536 in
theorem codes_eq : words1.filter isCode = codes1 := rfl
theorem w_codes : ∀ c ∈ words1.filter isCode, c.before args0 about1 = true := by
  rw [codes_eq]
  intro c hc
  simp only [codes1, List.mem_cons, List.not_mem_nil, or_false] at hc
  rcases hc with rfl | rfl | rfl | rfl | rfl | rfl
  · exact w_c0
  · exact w_c1
  · exact w_c2
  · exact w_c3
  · exact w_c4
  · exact w_c5
set_option maxRecDepth 65536 in
theorem w_t1 : words1.all (fun c => isCode c || c.before args0 about1) = true := by decide +kernel
theorem w_tables : (allAtoms (Jvm.Cond.code x code maxLocals ret :: tables_1)).before args0 about1 = true := by
  rw [allAtoms_all]
  show words1.all (fun c => c.before args0 about1) = true
  refine all_split ?_ w_codes
  rw [w_t1]
set_option maxRecDepth 65536 in
theorem w_case : (Jvm.Cond.and given_1 narrow_1).before args0 about1 = true := by decide +kernel
theorem w_applies : (headSpec (Jvm.Cond.code x code maxLocals ret :: tables_1) room_1).applies x e0.platform about1 = true :=
  (Spec.applies_iff w_frames).mpr ⟨w_running, w_runnable, w_alone, w_named, w_hears, w_ripe, w_room, w_tables⟩
theorem atStart : AtStart classFile x code maxLocals ret World_1 tables_1 room_1 Calls_1 rest_1 Pre_1 launch0 p0 e0 about1 theMethod args0 below0 :=
  ⟨lists_1, trivial, launch0.admits_env _ _ _, launch0.least_env, fairChoices_fair.cas, fairChoices_fair.clock, w_frames, w_args, w_heap, w_applies, trivial, trivial, w_case⟩
end start1
theorem witness_1 : WitnessClaimed_1 := ⟨start1.p0, start1.e0, start1.about1, start1.theMethod, start1.args0, start1.below0, start1.atStart⟩
end Jvm.Pilot.@@N@@
