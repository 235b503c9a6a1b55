import JvmDerived
import JvmDerived.Pilot.@@N@@Statement
import JvmDerived.Pilot.@@N@@Code
set_option linter.unusedVariables false
set_option linter.unusedSimpArgs false
@@BLOCK:NumsL.lean.txt@@
namespace Jvm.Pilot.@@N@@
open Jvm Jvm.ClassFile Sem Op Lib Jvm.Free Jvm.Stand Jvm.LawKit Jvm.RoadKit Bundle Jvm.Pilot.@@N@@.Jvm.D
theorem own_m {Z : State} {aw : Array Value} (hw : ∀ d ∈ tables_1, d.before aw Z = true) (i : Nat) {d : Jvm.Cond} (h : tables_1[i]? = some d) : d.before aw Z = true := hw d (List.mem_of_getElem? h)
theorem own_hk {α : Type} {k : Nat} {a b : Array α} (x : k ≤ b.size) (e : a = b) : k ≤ a.size := e ▸ x
theorem own_tnc (x : Int32) : x.toNatClampNeg = x.toInt.toNat := rfl
theorem own_lc (x y : Int64) : lcmpW x y = if x > y then 1 else if x = y then 0 else -1 := rfl
theorem own_lt (x y : Int64) : lcmpW x y < 0 ↔ x < y := by
  rw [own_lc]; split
  · rename_i h; exact ⟨fun q => absurd q (by decide), fun q => absurd h (Int64.lt_asymm q)⟩
  · split
    · rename_i h1 h2; subst h2; exact ⟨fun q => absurd q (by decide), fun q => absurd q Int64.lt_irrefl⟩
    · rename_i h1 h2; exact ⟨fun _ => (Int64.lt_or_lt_of_ne h2).resolve_right h1, fun _ => by decide⟩
theorem own_gt (x y : Int64) : 0 < lcmpW x y ↔ y < x := by
  rw [own_lc]; split
  · rename_i h; exact ⟨fun _ => h, fun _ => by decide⟩
  · split
    · rename_i h1 h2; exact ⟨fun q => absurd q (by decide), fun q => absurd q h1⟩
    · rename_i h1 h2; exact ⟨fun q => absurd q (by decide), fun q => absurd q h1⟩
theorem own_eq (x y : Int64) : lcmpW x y = 0 ↔ x = y := by
  rw [own_lc]; split
  · rename_i h; exact ⟨fun q => absurd q (by decide), fun q => absurd (q ▸ h) Int64.lt_irrefl⟩
  · split
    · rename_i h1 h2; exact ⟨fun _ => h2, fun _ => rfl⟩
    · rename_i h1 h2; exact ⟨fun q => absurd q (by decide), fun q => absurd q h2⟩
theorem d6_0 : decode jdk_31_method_11_code 0 = .ok (.aload_n 0, 1) := by decide +kernel
theorem d6_1 : decode jdk_31_method_11_code 1 = .ok (.ifnonnull 12, 3) := by decide +kernel
theorem d6_13 : decode jdk_31_method_11_code 13 = .ok (.aload_n 0, 1) := by decide +kernel
theorem d6_14 : decode jdk_31_method_11_code 14 = .ok (.areturn, 1) := by decide +kernel
theorem pn_1 : plainName "java/util/Objects" = true := by first | (simp [plainName, overriddenIn]; done) | decide +kernel
theorem ef6 (m : MethodId) (x0 : Addr) (x1 : Addr) : entryFrame m #[(.ref x0), (.ref x1)] 2 = mkF m 0 #[.val (.ref x0), .val (.ref x1)] [] := by first | (simp [entryFrame, mkF, argsToLocals, Value.category]; done) | rfl
abbrev rr6 : Room := { frames := 0, cells := 0, slots := 0, locals := 0 }
def Q6 (Z : State) (a0 : Addr) (a1 : Addr) (h0 : Heap) (n0 : Nat) (v : Option Value) (h : Heap) (L : List Loc) : Prop := v = some (.ref a0) ∧ Fr n0 L ∧ h = h0
set_option maxRecDepth 65536 in
set_option maxHeartbeats 40000000 in
theorem rm6 (l : Launch) (Z : State) (aw : Array Value) (hw : ∀ d ∈ tables_1, d.before aw Z = true) (ws : List Jvm.Cond) (a0 : Addr) (a1 : Addr) (h0 : Heap) (n0 : Nat) (Z0 : n0 ≤ h0.size)  :
    MetFree l (⟨"java/util/Objects", "requireNonNull", "(Ljava/lang/Object;Ljava/lang/String;)Ljava/lang/Object;"⟩ : MethodName) (head1 (Jvm.Cond.code (⟨"java/util/Objects", "requireNonNull", "(Ljava/lang/Object;Ljava/lang/String;)Ljava/lang/Object;"⟩ : MethodName) jdk_31_method_11_code 2 (some (.object "java/lang/Object")) :: ws) rr6) (fun a U => a = #[(.ref a0), (.ref a1)] ∧ Z.Warmed39 U.vm ∧ U.heap = h0) (fun _ _ _ _ _ => True) (fun _ U o U' => ∃ v L, o = .returned v ∧ Q6 Z a0 a1 h0 n0 v U'.heap L ∧ FrameEnd U o U' L rr6.cells rr6.slots) := by
  refine MetFree.of_bodySF (plainFor_of_name pn_1) hisR ?_
  intro p e s m args below meth c s₁ Bd hml0 hP hK
  obtain ⟨rfl, hZ, hh⟩ := hP
  have hx := Bd.exec
  have hby := Bd.bytes
  have hml : c.maxLocals = 2 := hml0
  have hown : s.vm.findClass "java/util/Objects" = some m.cls := findClass_of_methodNamed Bd.named
  have hnm := (name_of_methodNamed Bd.named Bd.method).1
  have X0 : Stand p l e rr6 s m #[(.ref a0), (.ref a1)] below meth c s₁ [] 0 0 := Stand.of_body Bd
  have e0 : s₁.heap = h0 := by rw [← hh, Bd.state]; rfl
  have N0 := Fr.nil n0
  have pre0 : ∀ t, Steps p.tables e below (s₁.setTop (mkF m 0 #[.val (.ref a0), .val (.ref a1)] [])) t → Steps p.tables e below (s₁.setTop (entryFrame m #[(.ref a0), (.ref a1)] 2)) t := fun t k => castTop (ef6 m a0 a1) k
  let L_1 : Array Slot := #[.val (.ref a0), .val (.ref a1)]
  obtain ⟨fs, hr, hrun, hended, hW, hsame⟩ := X0.leave (v := some (.ref a0)) (fun h => by rw [Bd.returns] at h; cases h)
  refine ⟨_, _, pre0 _ ?_, hrun, hended, _, _, rfl, ?_, ⟨_, rfl⟩, hW, hsame.mono (by decide) (by decide)⟩
  · skip
    show Steps p.tables e below (s₁.setTop (mkF m 0 L_1 [])) _
    refine XS.aloadN X0.here hx rfl (hb hby d6_0) rfl rfl ?_
    refine XS.ifnonnullYes X0.here hx rfl (pc0 := 1) (pc' := 13) rfl (hb hby d6_1) rfl (by decide) (by decide) ?_
    refine XS.aloadN X0.here hx rfl (hb hby d6_13) rfl rfl ?_
    show Steps p.tables e below (s₁.setTop (mkF m 14 L_1 [(.ref a0)])) _
    exact retOut X0 hx Bd.returns rfl (Or.inr (Or.inr (Or.inr (Or.inr ⟨rfl, rfl, rfl⟩)))) (hb hby d6_14) hr
  · show Q6 Z a0 a1 h0 n0 _ s₁.heap _
    rw [e0]
    exact ⟨rfl, N0, rfl⟩
theorem d1_0 : decode jdk_29_method_66_code 0 = .ok (.lload_n 0, 1) := by decide +kernel
theorem d1_1 : decode jdk_29_method_66_code 1 = .ok (.lload_n 2, 1) := by decide +kernel
theorem d1_2 : decode jdk_29_method_66_code 2 = .ok (.lcmp, 1) := by decide +kernel
theorem d1_3 : decode jdk_29_method_66_code 3 = .ok (.ifCond .lt 7, 3) := by decide +kernel
theorem d1_10 : decode jdk_29_method_66_code 10 = .ok (.lload_n 2, 1) := by decide +kernel
theorem d1_6 : decode jdk_29_method_66_code 6 = .ok (.lload_n 0, 1) := by decide +kernel
theorem d1_7 : decode jdk_29_method_66_code 7 = .ok (.goto 4, 3) := by decide +kernel
theorem d1_11 : decode jdk_29_method_66_code 11 = .ok (.lreturn, 1) := by decide +kernel
def j1_0 (q0 : Int64) (q1 : Int64) : Int64 := (if q0 < q1 then q1 else q0)
theorem ef1 (m : MethodId) (x0 : Int64) (x1 : Int64) : entryFrame m #[(.long x0), (.long x1)] 4 = mkF m 0 #[.val (.long x0), .second, .val (.long x1), .second] [] := by first | (simp [entryFrame, mkF, argsToLocals, Value.category]; done) | rfl
abbrev rr1 : Room := { frames := 0, cells := 0, slots := 0, locals := 0 }
def Q1 (Z : State) (q0 : Int64) (q1 : Int64) (h0 : Heap) (n0 : Nat) (v : Option Value) (h : Heap) (L : List Loc) : Prop := v = some (.long (j1_0 q0 q1)) ∧ Fr n0 L ∧ h = h0
set_option maxRecDepth 65536 in
set_option maxHeartbeats 40000000 in
theorem rm1 (l : Launch) (Z : State) (aw : Array Value) (hw : ∀ d ∈ tables_1, d.before aw Z = true) (ws : List Jvm.Cond) (q0 : Int64) (q1 : Int64) (h0 : Heap) (n0 : Nat) (Z0 : n0 ≤ h0.size)  :
    MetFree l (⟨"java/lang/Math", "max", "(JJ)J"⟩ : MethodName) (head1 (Jvm.Cond.code (⟨"java/lang/Math", "max", "(JJ)J"⟩ : MethodName) jdk_29_method_66_code 4 (some .long) :: ws) rr1) (fun a U => a = #[(.long q0), (.long q1)] ∧ Z.Warmed39 U.vm ∧ U.heap = h0) (fun _ _ _ _ _ => True) (fun _ U o U' => ∃ v L, o = .returned v ∧ Q1 Z q0 q1 h0 n0 v U'.heap L ∧ FrameEnd U o U' L rr1.cells rr1.slots) := by
  refine MetFree.of_bodySF (Jvm.Free.JP.mathPlain rfl (by decide +kernel)) hisR ?_
  intro p e s m args below meth c s₁ Bd hml0 hP hK
  obtain ⟨rfl, hZ, hh⟩ := hP
  have hx := Bd.exec
  have hby := Bd.bytes
  have hml : c.maxLocals = 4 := hml0
  have hown : s.vm.findClass "java/lang/Math" = some m.cls := findClass_of_methodNamed Bd.named
  have hnm := (name_of_methodNamed Bd.named Bd.method).1
  have X0 : Stand p l e rr1 s m #[(.long q0), (.long q1)] below meth c s₁ [] 0 0 := Stand.of_body Bd
  have e0 : s₁.heap = h0 := by rw [← hh, Bd.state]; rfl
  have N0 := Fr.nil n0
  have pre0 : ∀ t, Steps p.tables e below (s₁.setTop (mkF m 0 #[.val (.long q0), .second, .val (.long q1), .second] [])) t → Steps p.tables e below (s₁.setTop (entryFrame m #[(.long q0), (.long q1)] 4)) t := fun t k => castTop (ef1 m q0 q1) k
  let L_2 : Array Slot := #[.val (.long q0), .second, .val (.long q1), .second]
  have pre3 := fun (t : State) (k : Steps p.tables e below (s₁.setTop (mkF m 3 L_2 [(.int (lcmpW q0 q1))])) t) => pre0 t (by
    show Steps p.tables e below (s₁.setTop (mkF m 0 L_2 [])) _
    refine XS.lloadN X0.here hx rfl (hb hby d1_0) rfl ?_
    refine XS.lloadN X0.here hx rfl (hb hby d1_1) rfl ?_
    refine XS.lcmp X0.here hx rfl (hb hby d1_2) rfl ?_
    exact k)
  have pre4 := fun (t : State) (k : Steps p.tables e below (s₁.setTop (mkF m 11 L_2 [(.long (j1_0 q0 q1))])) t) => pre3 t (by
    by_cases hc5 : q0 < q1
    · skip
      show Steps p.tables e below (s₁.setTop (mkF m 3 L_2 [(.int (lcmpW q0 q1))])) _
      refine XS.ifYes X0.here hx rfl (pc0 := 3) (pc' := 10) rfl (hb hby d1_3) rfl ((if0 _ _).trans (tlt ((own_lt q0 q1).mpr hc5)).1) (by decide) (by decide) ?_
      refine XS.lloadN X0.here hx rfl (hb hby d1_10) rfl ?_
      have hj6 : (j1_0 q0 q1) = q1 := by unfold j1_0; first | (rw [if_pos hc5]) | (simp only [if_pos hc5])
      rw [hj6] at k
      exact k
    · skip
      show Steps p.tables e below (s₁.setTop (mkF m 3 L_2 [(.int (lcmpW q0 q1))])) _
      refine XS.ifNo X0.here hx rfl (hb hby d1_3) rfl ((if0 _ _).trans (flt (mt (own_lt q0 q1).mp hc5)).1) ?_
      refine XS.lloadN X0.here hx rfl (hb hby d1_6) rfl ?_
      refine XS.goto X0.here hx rfl (pc0 := 7) (pc' := 11) rfl (hb hby d1_7) (by decide) (by decide) ?_
      have hj7 : (j1_0 q0 q1) = q0 := by unfold j1_0; first | (rw [if_neg hc5]) | (simp only [if_neg hc5])
      rw [hj7] at k
      exact k)
  obtain ⟨fs, hr, hrun, hended, hW, hsame⟩ := X0.leave (v := some (.long (j1_0 q0 q1))) (fun h => by rw [Bd.returns] at h; cases h)
  refine ⟨_, _, pre4 _ ?_, hrun, hended, _, _, rfl, ?_, ⟨_, rfl⟩, hW, hsame.mono (by decide) (by decide)⟩
  · skip
    show Steps p.tables e below (s₁.setTop (mkF m 11 L_2 [(.long (j1_0 q0 q1))])) _
    exact retOut X0 hx Bd.returns rfl (Or.inr (Or.inl ⟨rfl, rfl, _, rfl⟩)) (hb hby d1_11) hr
  · show Q1 Z q0 q1 h0 n0 _ s₁.heap _
    rw [e0]
    exact ⟨rfl, N0, rfl⟩
theorem d5_0 : decode prog_4_method_2_code 0 = .ok (.aload_n 0, 1) := by decide +kernel
theorem d5_1 : decode prog_4_method_2_code 1 = .ok (.ldc 7, 2) := by decide +kernel
theorem pd_1 : parseMethodDescriptor "(Ljava/lang/Object;Ljava/lang/String;)Ljava/lang/Object;" = some ⟨[(.object "java/lang/Object"), (.object "java/lang/String")], some (.object "java/lang/Object")⟩ := by decide +kernel
theorem d5_3 : decode prog_4_method_2_code 3 = .ok (.invokestatic 9, 3) := by decide +kernel
theorem d5_6 : decode prog_4_method_2_code 6 = .ok (.pop, 1) := by decide +kernel
theorem d5_7 : decode prog_4_method_2_code 7 = .ok (.aload_n 0, 1) := by decide +kernel
theorem d5_8 : decode prog_4_method_2_code 8 = .ok (.arraylength, 1) := by decide +kernel
theorem d5_9 : decode prog_4_method_2_code 9 = .ok (.ifCond .ne 13, 3) := by decide +kernel
theorem d5_22 : decode prog_4_method_2_code 22 = .ok (.iconst 0, 1) := by decide +kernel
theorem d5_23 : decode prog_4_method_2_code 23 = .ok (.istore_n 1, 1) := by decide +kernel
theorem d5_24 : decode prog_4_method_2_code 24 = .ok (.iload_n 1, 1) := by decide +kernel
theorem d5_25 : decode prog_4_method_2_code 25 = .ok (.aload_n 0, 1) := by decide +kernel
theorem d5_26 : decode prog_4_method_2_code 26 = .ok (.arraylength, 1) := by decide +kernel
theorem d5_27 : decode prog_4_method_2_code 27 = .ok (.if_icmp .ge 34, 3) := by decide +kernel
theorem d5_30 : decode prog_4_method_2_code 30 = .ok (.aload_n 0, 1) := by decide +kernel
theorem d5_31 : decode prog_4_method_2_code 31 = .ok (.iload_n 1, 1) := by decide +kernel
theorem d5_32 : decode prog_4_method_2_code 32 = .ok (.laload, 1) := by decide +kernel
theorem d5_33 : decode prog_4_method_2_code 33 = .ok (.lconst 1, 1) := by decide +kernel
theorem d5_34 : decode prog_4_method_2_code 34 = .ok (.lcmp, 1) := by decide +kernel
theorem d5_35 : decode prog_4_method_2_code 35 = .ok (.ifCond .ge 20, 3) := by decide +kernel
theorem d5_55 : decode prog_4_method_2_code 55 = .ok (.iinc 1 1, 3) := by decide +kernel
theorem d5_58 : decode prog_4_method_2_code 58 = .ok (.goto (-34), 3) := by decide +kernel
theorem d5_61 : decode prog_4_method_2_code 61 = .ok (.aload_n 0, 1) := by decide +kernel
theorem d5_62 : decode prog_4_method_2_code 62 = .ok (.invokevirtual 26, 3) := by decide +kernel
theorem d5_65 : decode prog_4_method_2_code 65 = .ok (.checkcast 27, 3) := by decide +kernel
theorem d5_68 : decode prog_4_method_2_code 68 = .ok (.areturn, 1) := by decide +kernel
theorem pn_2 : plainName "com/example/stowline/stowline/Capacities" = true := by first | (simp [plainName, overriddenIn]; done) | decide +kernel
theorem ef5_1 (m : MethodId) (x0 : Addr) : entryFrame m #[(.ref x0)] 2 = mkF m 0 #[.val (.ref x0), .unset] [] := by first | (simp [entryFrame, mkF, argsToLocals, Value.category]; done) | rfl
abbrev rr5_1 : Room := { frames := 1, cells := 3, slots := 45, locals := 14 }
def Q5_1 (Z : State) (a0 : Addr) (c0 : Int64) (k_a0 : ClassId) (h0 : Heap) (n0 : Nat) (v : Option Value) (h : Heap) (L : List Loc) : Prop := ∃ (x0 : Addr) (y0 : ClassId), v = some (.ref x0) ∧ Fr n0 L ∧ Keep h0 h [] ∧ n0 ≤ x0 ∧ h0.size ≤ x0 ∧ Arv Z h x0 y0 .long (1 : Int32) [(.long c0)] (.long (0 : Int64)) ∧ Exa Z h x0 "[J"
set_option maxRecDepth 65536 in
set_option maxHeartbeats 40000000 in
theorem rm5_1 (l : Launch) (Z : State) (aw : Array Value) (hw : ∀ d ∈ tables_1, d.before aw Z = true) (ws : List Jvm.Cond) (a0 : Addr) (c0 : Int64) (k_a0 : ClassId) (h0 : Heap) (n0 : Nat) (Z0 : n0 ≤ h0.size) (V_a0 : Arv Z h0 a0 k_a0 .long (1 : Int32) [(.long c0)] (.long (0 : Int64))) (E_a0 : Exa Z h0 a0 "[J") (hc0 : ¬ c0 < (1 : Int64)) :
    MetFree l (⟨"com/example/stowline/stowline/Capacities", "checkedCopy", "([J)[J"⟩ : MethodName) (head1 (Jvm.Cond.code (⟨"com/example/stowline/stowline/Capacities", "checkedCopy", "([J)[J"⟩ : MethodName) prog_4_method_2_code 2 (some (.array .long)) :: ws) rr5_1) (fun a U => a = #[(.ref a0)] ∧ Z.Warmed39 U.vm ∧ U.heap = h0) (fun _ _ _ _ _ => True) (fun _ U o U' => ∃ v L, o = .returned v ∧ Q5_1 Z a0 c0 k_a0 h0 n0 v U'.heap L ∧ ReturnedEndW U o U' L rr5_1.cells rr5_1.slots) := by
  refine MetFree.of_bodySF (plainFor_of_name pn_2) hisR ?_
  intro p e s m args below meth c s₁ Bd hml0 hP hK
  obtain ⟨rfl, hZ, hh⟩ := hP
  have hx := Bd.exec
  have hby := Bd.bytes
  have hml : c.maxLocals = 2 := hml0
  have hown : s.vm.findClass "com/example/stowline/stowline/Capacities" = some m.cls := findClass_of_methodNamed Bd.named
  have hnm := (name_of_methodNamed Bd.named Bd.method).1
  have X0 : Stand p l e rr5_1 (s.setVm s.vm) m #[(.ref a0)] below meth c s₁ [] 0 0 := Stand.of_body Bd
  have e0 : s₁.heap = h0 := by rw [← hh, Bd.state]; rfl
  have N0 := Fr.nil n0
  have K0 := Keep.refl h0 []
  have hS : s.Since s.vm 0 := (State.WarmedH.refl s).since 0
  have hk : 0 ≤ h0.size := Nat.zero_le _
  have hstr : ∀ a ∈ Bundle.stringAtoms, a.before aw Z = true := fun d hd => hw d ((by decide +kernel : ∀ d ∈ Bundle.stringAtoms, d ∈ tables_1) d hd)
  have pre0 : ∀ t, Steps p.tables e below (s₁.setTop (mkF m 0 #[.val (.ref a0), .unset] [])) t → Steps p.tables e below (s₁.setTop (entryFrame m #[(.ref a0)] 2)) t := fun t k => castTop (ef5_1 m a0) k
  let L_8 : Array Slot := #[.val (.ref a0), .unset]
  have pre9 := fun (t : State) (k : Steps p.tables e below (s₁.setTop (mkF m 1 L_8 [(.ref a0)])) t) => pre0 t (by
    show Steps p.tables e below (s₁.setTop (mkF m 0 L_8 [])) _
    refine XS.aloadN X0.here hx rfl (hb hby d5_0) rfl rfl ?_
    exact k)
  obtain ⟨a10, T10, h10, k10, X10, e10, E10, hS, hk, hZ, hown, st10⟩ := ldcS X0 hx hZ hown (own_m hw 31 rfl) hstr e0 hS hk (g := (mkF m 1 L_8 [(.ref a0)])) rfl (hb hby d5_1) (n := 40) (by decide) (by decide) (by decide) (by decide)
  have f11 := V_a0.ext E10
  have f12 := E_a0.ext E10
  have K13 := K0.ext E10
  have Z14 := Nat.le_trans Z0 E10.1
  obtain ⟨_, _, ⟨T15, L15, k15, n15⟩, -, X15, ⟨Lc15, hQ15, l15, y15, z15⟩, st15⟩ := Jvm.LawKit.callS X10 hx (y := (⟨"java/util/Objects", "requireNonNull", "(Ljava/lang/Object;Ljava/lang/String;)Ljava/lang/Object;"⟩ : MethodName)) hown (mvT hZ (own_m hw 39 rfl)) (mvT hZ (own_m hw 40 rfl)) (mvT hZ (own_m hw 41 rfl)) (mvT hZ (own_m hw 42 rfl)) (by decide) (backOf (W := 0) (rm6 l Z aw hw [] a0 a10 h10 n0 Z14 ) hZ (own_m hw 42 rfl) (own_m hw 41 rfl) (by decide) (by decide)) (g := (mkF m 3 L_8 [(.ref a10), (.ref a0)])) rfl (by rw [hml]; rfl) (argsL := [(.ref a0), (.ref a10)]) (rest := []) (lenOf pd_1 rfl) rfl (by show 2 * 0 + _ ≤ _; exact Nat.le_of_eq rfl) (hb hby d5_3) (fun _ _ => ⟨rfl, e10, (by decide : 2 + 0 ≤ _), (by decide : 44 + 0 ≤ _)⟩)
  dsimp only [Pt.U, Pt.locs, Pt.cells, Pt.slots] at X15 l15 y15 z15 st15 hQ15
  subst l15 y15 z15
  obtain ⟨rfl, N15q, e15⟩ := hQ15
  have N15 := Fr.app N0 N15q
  obtain ⟨cl16, Ar16, q16, S16, M16, H16, G16⟩ := id f11
  let L_17 : Array Slot := #[.val (.ref a0), .val (.int (0 : Int32))]
  obtain ⟨cl18, Ar18, q18, S18, M18, H18, G18⟩ := id f11
  obtain ⟨cl19, Ar19, q19, S19, M19, H19, G19⟩ := id f11
  have hin20 : ¬ ((0 : Int32) < 0 ∨ cl19.slots.size ≤ ((0 : Int32)).toNatClampNeg) := inb_of S19 ⟨by decide, by decide⟩
  have hat21 : cl19.slots[((0 : Int32)).toNatClampNeg]? = some (.long c0) := H19.at hin20 rfl
  let L_22 : Array Slot := #[.val (.ref a0), .val (.int (1 : Int32))]
  obtain ⟨cl23, Ar23, q23, S23, M23, H23, G23⟩ := id f11
  obtain ⟨cl25, Ar25, q25, S25, M25, H25, G25⟩ := id f11
  obtain ⟨T24, h24, X24, e24, E24, A24, B24, st24⟩ := cloneA X15 hx hZ hown (own_m hw 43 rfl) (own_m hw 44 rfl) (own_m hw 48 rfl) (own_m hw 46 rfl) (own_m hw 47 rfl) (own_m hw 49 rfl) e15 Ar25 f12 (fitC_of Ar25 fun i hi v hv => by rw [H25 i hi] at hv; cases hv; exact G25 i hi) (g := (mkF m 62 L_22 [(.ref a0)])) rfl (by rw [hml]; rfl) rfl (hb hby d5_62) (by decide) (W := 0) (cap := 1) (by show 2 * 0 + _ ≤ _; exact Nat.le_of_eq rfl) (by decide) (by rw [S25]; decide) (by decide) (by decide)
  obtain ⟨b24, gg24⟩ : ∃ z, z = h10.size := ⟨_, rfl⟩
  rw [← gg24] at A24 B24 st24
  have f26 := f11.ext E24
  have f27 := f12.ext E24
  have ne28 : a0 ≠ b24 := Nat.ne_of_lt (Nat.lt_of_lt_of_le f11.lt (Nat.le_of_eq gg24.symm))
  have g_b24 : n0 ≤ b24 := Nat.le_trans Z14 (Nat.le_of_eq gg24.symm)
  have sz_b24 : h0.size ≤ b24 := Nat.le_trans K13.1 (Nat.le_of_eq gg24.symm)
  have K29 := K13.ext E24
  have Z30 := Nat.le_trans Z14 E24.1
  have hk := Nat.le_trans hk E24.1
  have V24 : Arv Z h24 b24 k_a0 .long (1 : Int32) [(.long c0)] (.long (0 : Int64)) := ⟨cloneOf cl25, A24, q25, S25, M25, H25, G25⟩
  obtain ⟨T31, X31, e31, st31⟩ := castY X24 hx hZ hown (own_m hw 50 rfl) e24 (Ins.self B24) (g := (mkF m 65 L_22 [(.ref b24)])) rfl rfl (hb hby d5_65)
  obtain ⟨fs, hr, hrun, hended, hRW⟩ := X31.leaveW hS (own_hk hk e31) (v := some (.ref b24)) (fun h => by rw [Bd.returns] at h; cases h)
  refine ⟨_, _, pre9 _ ?_, hrun, hended, _, _, rfl, ?_, hRW.1, hRW.2.1, hRW.2.2.1, hRW.2.2.2.mono (by decide) (by decide)⟩
  · skip
    show Steps p.tables e below (s₁.setTop (mkF m 1 L_8 [(.ref a0)])) _
    refine st10 _ ?_
    show Steps p.tables e below (T10.setTop (mkF m 3 L_8 [(.ref a10), (.ref a0)])) _
    refine st15 _ ?_
    refine XS.pop X15.here hx rfl (hb hby d5_6) rfl rfl ?_
    refine XS.aloadN X15.here hx rfl (hb hby d5_7) rfl rfl ?_
    show Steps p.tables e below (T15.setTop (mkF m 8 L_8 [(.ref a0)])) _
    refine X15.arraylength hx (by rw [e15]; exact Ar16.1) (State.isArrayOf_alike hZ.alike Ar16.2.1) (g := (mkF m 8 L_8 [(.ref a0)])) rfl rfl (hb hby d5_8) _ ?_
    rw [len_of S16 M16]
    refine XS.ifYes X15.here hx rfl (pc0 := 9) (pc' := 22) rfl (hb hby d5_9) rfl ((if0 _ _).trans (feq (by decide : ¬ ((1 : Int32) = (0 : Int32)))).2) (by decide) (by decide) ?_
    refine XS.iconst X15.here hx rfl (hb hby d5_22) ?_
    refine XS.istoreN X15.here hx rfl (hb hby d5_23) rfl (l' := L_17) rfl ?_
    refine XS.iloadN X15.here hx rfl (hb hby d5_24) rfl ?_
    refine XS.aloadN X15.here hx rfl (hb hby d5_25) rfl rfl ?_
    show Steps p.tables e below (T15.setTop (mkF m 26 L_17 [(.ref a0), (.int (0 : Int32))])) _
    refine X15.arraylength hx (by rw [e15]; exact Ar18.1) (State.isArrayOf_alike hZ.alike Ar18.2.1) (g := (mkF m 26 L_17 [(.ref a0), (.int (0 : Int32))])) rfl rfl (hb hby d5_26) _ ?_
    rw [len_of S18 M18]
    refine XS.icmpNo X15.here hx rfl (hb hby d5_27) rfl (tlt (by decide : (0 : Int32) < (1 : Int32))).2.1 ?_
    refine XS.aloadN X15.here hx rfl (hb hby d5_30) rfl rfl ?_
    refine XS.iloadN X15.here hx rfl (hb hby d5_31) rfl ?_
    show Steps p.tables e below (T15.setTop (mkF m 32 L_17 [(.int (0 : Int32)), (.ref a0)])) _
    refine X15.laload hx (j := (0 : Int32)) (v := (.long c0)) (by rw [e15]; exact Ar19.1) (State.isArrayOf_alike hZ.alike Ar19.2.1) Ar19.2.2 hin20 hat21 (g := (mkF m 32 L_17 [(.int (0 : Int32)), (.ref a0)])) rfl rfl (hb hby d5_32) _ ?_
    refine XS.lconst X15.here hx rfl (hb hby d5_33) ?_
    refine XS.lcmp X15.here hx rfl (hb hby d5_34) rfl ?_
    refine XS.ifYes X15.here hx rfl (pc0 := 35) (pc' := 55) rfl (hb hby d5_35) rfl ((if0 _ _).trans (flt (mt (own_lt c0 (1 : Int64)).mp hc0)).2.1) (by decide) (by decide) ?_
    refine XS.iinc X15.here hx rfl (hb hby d5_55) rfl (l' := L_22) rfl ?_
    refine XS.goto X15.here hx rfl (pc0 := 58) (pc' := 24) rfl (hb hby d5_58) (by decide) (by decide) ?_
    show Steps p.tables e below (T15.setTop (mkF m 24 L_22 [])) _
    refine XS.iloadN X15.here hx rfl (hb hby d5_24) rfl ?_
    refine XS.aloadN X15.here hx rfl (hb hby d5_25) rfl rfl ?_
    show Steps p.tables e below (T15.setTop (mkF m 26 L_22 [(.ref a0), (.int (1 : Int32))])) _
    refine X15.arraylength hx (by rw [e15]; exact Ar23.1) (State.isArrayOf_alike hZ.alike Ar23.2.1) (g := (mkF m 26 L_22 [(.ref a0), (.int (1 : Int32))])) rfl rfl (hb hby d5_26) _ ?_
    rw [len_of S23 M23]
    refine XS.icmpYes X15.here hx rfl (pc0 := 27) (pc' := 61) rfl (hb hby d5_27) rfl (flt (by decide : ¬ ((1 : Int32) < (1 : Int32)))).2.1 (by decide) (by decide) ?_
    refine XS.aloadN X15.here hx rfl (hb hby d5_61) rfl rfl ?_
    show Steps p.tables e below (T15.setTop (mkF m 62 L_22 [(.ref a0)])) _
    refine st24 _ ?_
    show Steps p.tables e below (T24.setTop (mkF m 65 L_22 [(.ref b24)])) _
    refine st31 _ ?_
    show Steps p.tables e below (T31.setTop (mkF m 68 L_22 [(.ref b24)])) _
    exact retOut X31 hx Bd.returns rfl (Or.inr (Or.inr (Or.inr (Or.inr ⟨rfl, rfl, rfl⟩)))) (hb hby d5_68) hr
  · show Q5_1 Z a0 c0 k_a0 h0 n0 _ T31.heap _
    rw [e31]
    exact ⟨b24, k_a0, rfl, N15, K29, g_b24, sz_b24, V24, B24⟩
theorem d3_0 : decode prog_29_method_1_code 0 = .ok (.aload_n 0, 1) := by decide +kernel
theorem d3_1 : decode prog_29_method_1_code 1 = .ok (.invokespecial 1, 3) := by decide +kernel
theorem d3_4 : decode prog_29_method_1_code 4 = .ok (.aload_n 0, 1) := by decide +kernel
theorem d3_5 : decode prog_29_method_1_code 5 = .ok (.aload_n 1, 1) := by decide +kernel
theorem pd_3 : parseMethodDescriptor "([J)[J" = some ⟨[(.array .long)], some (.array .long)⟩ := by decide +kernel
theorem d3_6 : decode prog_29_method_1_code 6 = .ok (.invokestatic 7, 3) := by decide +kernel
theorem d3_9 : decode prog_29_method_1_code 9 = .ok (.putfield 13, 3) := by decide +kernel
theorem d3_12 : decode prog_29_method_1_code 12 = .ok (.aload_n 0, 1) := by decide +kernel
theorem d3_13 : decode prog_29_method_1_code 13 = .ok (.aload_n 1, 1) := by decide +kernel
theorem d3_14 : decode prog_29_method_1_code 14 = .ok (.arraylength, 1) := by decide +kernel
theorem d3_15 : decode prog_29_method_1_code 15 = .ok (.newarray .long, 2) := by decide +kernel
theorem d3_17 : decode prog_29_method_1_code 17 = .ok (.putfield 19, 3) := by decide +kernel
theorem d3_20 : decode prog_29_method_1_code 20 = .ok (.aload_n 0, 1) := by decide +kernel
theorem d3_21 : decode prog_29_method_1_code 21 = .ok (.aload_n 1, 1) := by decide +kernel
theorem d3_22 : decode prog_29_method_1_code 22 = .ok (.arraylength, 1) := by decide +kernel
theorem d3_23 : decode prog_29_method_1_code 23 = .ok (.newarray .long, 2) := by decide +kernel
theorem d3_25 : decode prog_29_method_1_code 25 = .ok (.putfield 22, 3) := by decide +kernel
theorem d3_28 : decode prog_29_method_1_code 28 = .ok (.return_, 1) := by decide +kernel
theorem pn_3 : plainName "com/example/stowline/stowline/VolumeBound" = true := by first | (simp [plainName, overriddenIn]; done) | decide +kernel
theorem ef3_1 (m : MethodId) (x0 : Addr) (x1 : Addr) : entryFrame m #[(.ref x0), (.ref x1)] 2 = mkF m 0 #[.val (.ref x0), .val (.ref x1)] [] := by first | (simp [entryFrame, mkF, argsToLocals, Value.category]; done) | rfl
abbrev rr3_1 : Room := { frames := 2, cells := 5, slots := 47, locals := 28 }
def Q3_1 (Z : State) (a0 : Addr) (a1 : Addr) (c0 : Int64) (k_a1 : ClassId) (h0 : Heap) (n0 : Nat) (v : Option Value) (h : Heap) (L : List Loc) : Prop := ∃ (x0 : Addr) (x1 : Addr) (x2 : Addr) (y0 : ClassId) (y1 : ClassId) (y2 : ClassId), v = none ∧ Fr n0 L ∧ Keep h0 h [a0] ∧ n0 ≤ x0 ∧ h0.size ≤ x0 ∧ n0 ≤ x1 ∧ h0.size ≤ x1 ∧ n0 ≤ x2 ∧ h0.size ≤ x2 ∧ x0 ≠ x1 ∧ x0 ≠ x2 ∧ x1 ≠ x2 ∧ Exa Z h a0 "com/example/stowline/stowline/VolumeBound" ∧ Fld Z h a0 "com/example/stowline/stowline/VolumeBound" "capacities" "[J" (.ref x0) ∧ Fld Z h a0 "com/example/stowline/stowline/VolumeBound" "wholeCapacities" "[J" (.ref x1) ∧ Fld Z h a0 "com/example/stowline/stowline/VolumeBound" "remainders" "[J" (.ref x2) ∧ Arv Z h x0 y0 .long (1 : Int32) [(.long c0)] (.long (0 : Int64)) ∧ Arv Z h x1 y1 .long (1 : Int32) [(.long (0 : Int64))] (.long (0 : Int64)) ∧ Arv Z h x2 y2 .long (1 : Int32) [(.long (0 : Int64))] (.long (0 : Int64))
set_option maxRecDepth 65536 in
set_option maxHeartbeats 40000000 in
theorem rm3_1 (l : Launch) (Z : State) (aw : Array Value) (hw : ∀ d ∈ tables_1, d.before aw Z = true) (ws : List Jvm.Cond) (a0 : Addr) (a1 : Addr) (c0 : Int64) (k_a1 : ClassId) (h0 : Heap) (n0 : Nat) (Z0 : n0 ≤ h0.size) (E_a0 : Exa Z h0 a0 "com/example/stowline/stowline/VolumeBound") (F_capacities_a0 : Fld Z h0 a0 "com/example/stowline/stowline/VolumeBound" "capacities" "[J" .null) (F_wholeCapacities_a0 : Fld Z h0 a0 "com/example/stowline/stowline/VolumeBound" "wholeCapacities" "[J" .null) (F_remainders_a0 : Fld Z h0 a0 "com/example/stowline/stowline/VolumeBound" "remainders" "[J" .null) (V_a1 : Arv Z h0 a1 k_a1 .long (1 : Int32) [(.long c0)] (.long (0 : Int64))) (E_a1 : Exa Z h0 a1 "[J") (g_a0 : n0 ≤ a0) (ne_a0_a1 : a0 ≠ a1) (hc0 : ¬ c0 < (1 : Int64)) :
    MetFree l (⟨"com/example/stowline/stowline/VolumeBound", "<init>", "([J)V"⟩ : MethodName) (head1 (Jvm.Cond.code (⟨"com/example/stowline/stowline/VolumeBound", "<init>", "([J)V"⟩ : MethodName) prog_29_method_1_code 2 none :: ws) rr3_1) (fun a U => a = #[(.ref a0), (.ref a1)] ∧ Z.Warmed39 U.vm ∧ U.heap = h0) (fun _ _ _ _ _ => True) (fun _ U o U' => ∃ v L, o = .returned v ∧ Q3_1 Z a0 a1 c0 k_a1 h0 n0 v U'.heap L ∧ ReturnedEndW U o U' L rr3_1.cells rr3_1.slots) := by
  refine MetFree.of_bodySF (plainFor_of_name pn_3) hisR ?_
  intro p e s m args below meth c s₁ Bd hml0 hP hK
  obtain ⟨rfl, hZ, hh⟩ := hP
  have hx := Bd.exec
  have hby := Bd.bytes
  have hml : c.maxLocals = 2 := hml0
  have hown : s.vm.findClass "com/example/stowline/stowline/VolumeBound" = some m.cls := findClass_of_methodNamed Bd.named
  have hnm := (name_of_methodNamed Bd.named Bd.method).1
  have X0 : Stand p l e rr3_1 (s.setVm s.vm) m #[(.ref a0), (.ref a1)] below meth c s₁ [] 0 0 := Stand.of_body Bd
  have e0 : s₁.heap = h0 := by rw [← hh, Bd.state]; rfl
  have N0 := Fr.nil n0
  have K0 := Keep.refl h0 [a0]
  have hS : s.Since s.vm 0 := (State.WarmedH.refl s).since 0
  have hk : 0 ≤ h0.size := Nat.zero_le _
  have hstr : ∀ a ∈ Bundle.stringAtoms, a.before aw Z = true := fun d hd => hw d ((by decide +kernel : ∀ d ∈ Bundle.stringAtoms, d ∈ tables_1) d hd)
  have pre0 : ∀ t, Steps p.tables e below (s₁.setTop (mkF m 0 #[.val (.ref a0), .val (.ref a1)] [])) t → Steps p.tables e below (s₁.setTop (entryFrame m #[(.ref a0), (.ref a1)] 2)) t := fun t k => castTop (ef3_1 m a0 a1) k
  let L_32 : Array Slot := #[.val (.ref a0), .val (.ref a1)]
  obtain ⟨T33, X33, e33, st33⟩ := initO X0 hx hZ hown (own_m hw 24 rfl) (own_m hw 25 rfl) (own_m hw 26 rfl) e0 (g := (mkF m 1 L_32 [(.ref a0)])) rfl (by rw [hml]; rfl) rfl (hb hby d3_1) (by decide) (W := 0) (by show 2 * 0 + _ ≤ _; exact Nat.le_of_eq rfl) (by decide)
  have pre35 := fun (t : State) (k : Steps p.tables e below (T33.setTop (mkF m 6 L_32 [(.ref a1), (.ref a0)])) t) => pre0 t (by
    show Steps p.tables e below (s₁.setTop (mkF m 0 L_32 [])) _
    refine XS.aloadN X0.here hx rfl (hb hby d3_0) rfl rfl ?_
    show Steps p.tables e below (s₁.setTop (mkF m 1 L_32 [(.ref a0)])) _
    refine st33 _ ?_
    refine XS.aloadN X33.here hx rfl (hb hby d3_4) rfl rfl ?_
    refine XS.aloadN X33.here hx rfl (hb hby d3_5) rfl rfl ?_
    exact k)
  obtain ⟨_, _, ⟨T34, L34, k34, n34⟩, -, X34, hSi34, hgr34, ⟨Lc34, hQ34, l34, y34, z34⟩, st34⟩ := Jvm.RoadKit.callSS X33 hx (y := (⟨"com/example/stowline/stowline/Capacities", "checkedCopy", "([J)[J"⟩ : MethodName)) hown (mvT hZ (own_m hw 27 rfl)) (mvT hZ (own_m hw 28 rfl)) (mvT hZ (own_m hw 29 rfl)) (mvT hZ (own_m hw 30 rfl)) (by decide) (backOfS (W := 1) (rm5_1 l Z aw hw [] a1 c0 k_a1 h0 n0 Z0 V_a1 E_a1 hc0) hZ (own_m hw 30 rfl) (own_m hw 29 rfl) (by decide) (by decide)) (g := (mkF m 6 L_32 [(.ref a1), (.ref a0)])) rfl (by rw [hml]; rfl) (argsL := [(.ref a1)]) (rest := [(.ref a0)]) (lenOf pd_3 rfl) rfl (by show 2 * 0 + _ ≤ _; exact Nat.le_of_eq rfl) (hb hby d3_6) (fun _ _ => ⟨rfl, e33, (by decide : 0 + 3 ≤ _), (by decide : 0 + 45 ≤ _)⟩)
  dsimp only [Pt.U, Pt.locs, Pt.cells, Pt.slots] at X34 l34 y34 z34 st34 hQ34 hSi34 hgr34
  subst l34 y34 z34
  obtain ⟨X34, hS, hZ, hown⟩ := rebS hS (show _ ≤ T33.heap.size from own_hk hk e33) X34 hSi34 hgr34 hZ hown
  obtain ⟨h34, e34⟩ : ∃ z, T34.heap = z := ⟨_, rfl⟩
  rw [e34] at hQ34
  obtain ⟨cx034, cy034, rfl, N34q, K34q, g_cx034, zz_cx034, f36, f37⟩ := hQ34
  have f38 := E_a0.keep K34q
  have f39 := F_capacities_a0.keep K34q nin0
  have f40 := F_wholeCapacities_a0.keep K34q nin0
  have f41 := F_remainders_a0.keep K34q nin0
  have f42 := V_a1.keep K34q nin0
  have f43 := E_a1.keep K34q
  have ne44 : a0 ≠ cx034 := Nat.ne_of_lt (Nat.lt_of_lt_of_le E_a0.lt zz_cx034)
  have ne45 : a1 ≠ cx034 := Nat.ne_of_lt (Nat.lt_of_lt_of_le V_a1.lt zz_cx034)
  have sz_cx034 : h0.size ≤ cx034 := Nat.le_trans K0.1 zz_cx034
  have K34 := K0.trans K34q all0
  have Z34 := Nat.le_trans Z0 K34q.1
  have hk : T34.heap.size ≤ h34.size := by rw [e34]; exact Nat.le_refl _
  have N34 := Fr.app N0 N34q
  obtain ⟨T46, h46, X46, e46, W46, st46⟩ := putF X34 hx hZ hown (host := "") (Or.inl (own_m hw 52 rfl)) Via.refl e34 f39 f38 (Or.inr ⟨(own_m hw 53 rfl), rfl, hnm⟩) (own_m hw 19 rfl) (ty := (.array .long)) (by decide) rfl rfl (g := (mkF m 9 L_32 [(.ref cx034), (.ref a0)])) rfl rfl (hb hby d3_9)
  have f46w : Fld Z h46 a0 "com/example/stowline/stowline/VolumeBound" "capacities" "[J" (.ref cx034) := f39.same W46
  have f47 := f38.wr W46
  have f49 := f40.other W46 (Or.inr (slot_ne (Or.inr (own_m hw 55 rfl)) (Or.inr (own_m hw 53 rfl)) (by decide) (t := (.array .long)) (t' := (.array .long)) (by decide) (by decide)))
  have f50 := f41.other W46 (Or.inr (slot_ne (Or.inr (own_m hw 57 rfl)) (Or.inr (own_m hw 53 rfl)) (by decide) (t := (.array .long)) (t' := (.array .long)) (by decide) (by decide)))
  have f51 := f42.other W46 (Ne.symm ne_a0_a1)
  have f52 := f43.wr W46
  have f53 := f36.other W46 (Ne.symm ne44)
  have f54 := f37.wr W46
  have K55 := K34.wr W46 (Or.inl (List.mem_of_getElem? (i := 0) rfl))
  have Z56 := Nat.le_trans Z34 (Keep.of_wr W46).1
  have hk := Nat.le_trans hk (Keep.of_wr W46).1
  have N57 := Fr.snoc X46 N34 g_a0
  obtain ⟨cl58, Ar58, q58, S58, M58, H58, G58⟩ := id f51
  obtain ⟨T59, h59, k59, X59, e59, E59, A59, st59⟩ := newP X46 hx hZ (own_m hw 9 rfl) e46 (g := (mkF m 15 L_32 [(.int (1 : Int32)), (.ref a0)])) rfl (hb hby d3_15) rfl (by decide) (cap := 1) (by decide) (by decide) (by decide) (by decide)
  obtain ⟨b59, gg59⟩ : ∃ z, z = h46.size := ⟨_, rfl⟩
  rw [← gg59] at A59 st59
  have f60 := f47.ext E59
  have f61 := f46w.ext E59
  have f62 := f49.ext E59
  have f63 := f50.ext E59
  have f64 := f51.ext E59
  have f65 := f52.ext E59
  have f66 := f53.ext E59
  have f67 := f54.ext E59
  have ne68 : a0 ≠ b59 := Nat.ne_of_lt (Nat.lt_of_lt_of_le f47.lt (Nat.le_of_eq gg59.symm))
  have ne69 : a1 ≠ b59 := Nat.ne_of_lt (Nat.lt_of_lt_of_le f51.lt (Nat.le_of_eq gg59.symm))
  have ne70 : cx034 ≠ b59 := Nat.ne_of_lt (Nat.lt_of_lt_of_le f53.lt (Nat.le_of_eq gg59.symm))
  have g_b59 : n0 ≤ b59 := Nat.le_trans Z56 (Nat.le_of_eq gg59.symm)
  have sz_b59 : h0.size ≤ b59 := Nat.le_trans K55.1 (Nat.le_of_eq gg59.symm)
  have K71 := K55.ext E59
  have Z72 := Nat.le_trans Z56 E59.1
  have hk := Nat.le_trans hk E59.1
  have V59 : Arv Z h59 b59 k59 .long (1 : Int32) [(.long (0 : Int64))] (.long (0 : Int64)) := (Arv.new A59 (by decide)).pad (pad_rep [] (.long (0 : Int64)) 1)
  obtain ⟨T73, h73, X73, e73, W73, st73⟩ := putF X59 hx hZ hown (host := "") (Or.inl (own_m hw 54 rfl)) Via.refl e59 f62 f60 (Or.inr ⟨(own_m hw 55 rfl), rfl, hnm⟩) (own_m hw 19 rfl) (ty := (.array .long)) (by decide) rfl rfl (g := (mkF m 17 L_32 [(.ref b59), (.ref a0)])) rfl rfl (hb hby d3_17)
  have f73w : Fld Z h73 a0 "com/example/stowline/stowline/VolumeBound" "wholeCapacities" "[J" (.ref b59) := f62.same W73
  have f74 := f60.wr W73
  have f75 := f61.other W73 (Or.inr (slot_ne (Or.inr (own_m hw 53 rfl)) (Or.inr (own_m hw 55 rfl)) (by decide) (t := (.array .long)) (t' := (.array .long)) (by decide) (by decide)))
  have f77 := f63.other W73 (Or.inr (slot_ne (Or.inr (own_m hw 57 rfl)) (Or.inr (own_m hw 55 rfl)) (by decide) (t := (.array .long)) (t' := (.array .long)) (by decide) (by decide)))
  have f78 := f64.other W73 (Ne.symm ne_a0_a1)
  have f79 := f65.wr W73
  have f80 := f66.other W73 (Ne.symm ne44)
  have f81 := f67.wr W73
  have f82 := V59.other W73 (Ne.symm ne68)
  have K83 := K71.wr W73 (Or.inl (List.mem_of_getElem? (i := 0) rfl))
  have Z84 := Nat.le_trans Z72 (Keep.of_wr W73).1
  have hk := Nat.le_trans hk (Keep.of_wr W73).1
  have N85 := Fr.snoc X73 N57 g_a0
  obtain ⟨cl86, Ar86, q86, S86, M86, H86, G86⟩ := id f78
  obtain ⟨T87, h87, k87, X87, e87, E87, A87, st87⟩ := newP X73 hx hZ (own_m hw 9 rfl) e73 (g := (mkF m 23 L_32 [(.int (1 : Int32)), (.ref a0)])) rfl (hb hby d3_23) rfl (by decide) (cap := 1) (by decide) (by decide) (by decide) (by decide)
  obtain ⟨b87, gg87⟩ : ∃ z, z = h73.size := ⟨_, rfl⟩
  rw [← gg87] at A87 st87
  have f88 := f74.ext E87
  have f89 := f75.ext E87
  have f90 := f73w.ext E87
  have f91 := f77.ext E87
  have f92 := f78.ext E87
  have f93 := f79.ext E87
  have f94 := f80.ext E87
  have f95 := f81.ext E87
  have f96 := f82.ext E87
  have ne97 : a0 ≠ b87 := Nat.ne_of_lt (Nat.lt_of_lt_of_le f74.lt (Nat.le_of_eq gg87.symm))
  have ne98 : a1 ≠ b87 := Nat.ne_of_lt (Nat.lt_of_lt_of_le f78.lt (Nat.le_of_eq gg87.symm))
  have ne99 : cx034 ≠ b87 := Nat.ne_of_lt (Nat.lt_of_lt_of_le f80.lt (Nat.le_of_eq gg87.symm))
  have ne100 : b59 ≠ b87 := Nat.ne_of_lt (Nat.lt_of_lt_of_le f82.lt (Nat.le_of_eq gg87.symm))
  have g_b87 : n0 ≤ b87 := Nat.le_trans Z84 (Nat.le_of_eq gg87.symm)
  have sz_b87 : h0.size ≤ b87 := Nat.le_trans K83.1 (Nat.le_of_eq gg87.symm)
  have K101 := K83.ext E87
  have Z102 := Nat.le_trans Z84 E87.1
  have hk := Nat.le_trans hk E87.1
  have V87 : Arv Z h87 b87 k87 .long (1 : Int32) [(.long (0 : Int64))] (.long (0 : Int64)) := (Arv.new A87 (by decide)).pad (pad_rep [] (.long (0 : Int64)) 1)
  obtain ⟨T103, h103, X103, e103, W103, st103⟩ := putF X87 hx hZ hown (host := "") (Or.inl (own_m hw 56 rfl)) Via.refl e87 f91 f88 (Or.inr ⟨(own_m hw 57 rfl), rfl, hnm⟩) (own_m hw 19 rfl) (ty := (.array .long)) (by decide) rfl rfl (g := (mkF m 25 L_32 [(.ref b87), (.ref a0)])) rfl rfl (hb hby d3_25)
  have f103w : Fld Z h103 a0 "com/example/stowline/stowline/VolumeBound" "remainders" "[J" (.ref b87) := f91.same W103
  have f104 := f88.wr W103
  have f105 := f89.other W103 (Or.inr (slot_ne (Or.inr (own_m hw 53 rfl)) (Or.inr (own_m hw 57 rfl)) (by decide) (t := (.array .long)) (t' := (.array .long)) (by decide) (by decide)))
  have f106 := f90.other W103 (Or.inr (slot_ne (Or.inr (own_m hw 55 rfl)) (Or.inr (own_m hw 57 rfl)) (by decide) (t := (.array .long)) (t' := (.array .long)) (by decide) (by decide)))
  have f108 := f92.other W103 (Ne.symm ne_a0_a1)
  have f109 := f93.wr W103
  have f110 := f94.other W103 (Ne.symm ne44)
  have f111 := f95.wr W103
  have f112 := f96.other W103 (Ne.symm ne68)
  have f113 := V87.other W103 (Ne.symm ne97)
  have K114 := K101.wr W103 (Or.inl (List.mem_of_getElem? (i := 0) rfl))
  have Z115 := Nat.le_trans Z102 (Keep.of_wr W103).1
  have hk := Nat.le_trans hk (Keep.of_wr W103).1
  have N116 := Fr.snoc X103 N85 g_a0
  obtain ⟨fs, hr, hrun, hended, hRW⟩ := X103.leaveW hS (own_hk hk e103) (v := none) (fun _ => rfl)
  refine ⟨_, _, pre35 _ ?_, hrun, hended, _, _, rfl, ?_, hRW.1, hRW.2.1, hRW.2.2.1, hRW.2.2.2.mono (by decide) (by decide)⟩
  · skip
    show Steps p.tables e below (T33.setTop (mkF m 6 L_32 [(.ref a1), (.ref a0)])) _
    refine st34.trans ?_
    show Steps p.tables e below (T34.setTop (mkF m 9 L_32 [(.ref cx034), (.ref a0)])) _
    refine st46 _ ?_
    refine XS.aloadN X46.here hx rfl (hb hby d3_12) rfl rfl ?_
    refine XS.aloadN X46.here hx rfl (hb hby d3_13) rfl rfl ?_
    show Steps p.tables e below (T46.setTop (mkF m 14 L_32 [(.ref a1), (.ref a0)])) _
    refine X46.arraylength hx (by rw [e46]; exact Ar58.1) (State.isArrayOf_alike hZ.alike Ar58.2.1) (g := (mkF m 14 L_32 [(.ref a1), (.ref a0)])) rfl rfl (hb hby d3_14) _ ?_
    rw [len_of S58 M58]
    show Steps p.tables e below (T46.setTop (mkF m 15 L_32 [(.int (1 : Int32)), (.ref a0)])) _
    refine st59 _ ?_
    show Steps p.tables e below (T59.setTop (mkF m 17 L_32 [(.ref b59), (.ref a0)])) _
    refine st73 _ ?_
    refine XS.aloadN X73.here hx rfl (hb hby d3_20) rfl rfl ?_
    refine XS.aloadN X73.here hx rfl (hb hby d3_21) rfl rfl ?_
    show Steps p.tables e below (T73.setTop (mkF m 22 L_32 [(.ref a1), (.ref a0)])) _
    refine X73.arraylength hx (by rw [e73]; exact Ar86.1) (State.isArrayOf_alike hZ.alike Ar86.2.1) (g := (mkF m 22 L_32 [(.ref a1), (.ref a0)])) rfl rfl (hb hby d3_22) _ ?_
    rw [len_of S86 M86]
    show Steps p.tables e below (T73.setTop (mkF m 23 L_32 [(.int (1 : Int32)), (.ref a0)])) _
    refine st87 _ ?_
    show Steps p.tables e below (T87.setTop (mkF m 25 L_32 [(.ref b87), (.ref a0)])) _
    refine st103 _ ?_
    show Steps p.tables e below (T103.setTop (mkF m 28 L_32 [])) _
    exact X103.returnOut hx Bd.returns (hb hby d3_28) hr
  · show Q3_1 Z a0 a1 c0 k_a1 h0 n0 _ T103.heap _
    rw [e103]
    exact ⟨cx034, b59, b87, cy034, k59, k87, rfl, N116, K114, g_cx034, sz_cx034, g_b59, sz_b59, g_b87, sz_b87, ne70, ne99, ne100, f104, f105, f106, f103w, f110, f112, f113⟩
theorem d9_0 : decode prog_4_method_3_code 0 = .ok (.aload_n 1, 1) := by decide +kernel
theorem d9_1 : decode prog_4_method_3_code 1 = .ok (.ldc 32, 2) := by decide +kernel
theorem d9_3 : decode prog_4_method_3_code 3 = .ok (.invokestatic 9, 3) := by decide +kernel
theorem d9_6 : decode prog_4_method_3_code 6 = .ok (.pop, 1) := by decide +kernel
theorem d9_7 : decode prog_4_method_3_code 7 = .ok (.aload_n 1, 1) := by decide +kernel
theorem d9_8 : decode prog_4_method_3_code 8 = .ok (.arraylength, 1) := by decide +kernel
theorem d9_9 : decode prog_4_method_3_code 9 = .ok (.aload_n 0, 1) := by decide +kernel
theorem d9_10 : decode prog_4_method_3_code 10 = .ok (.arraylength, 1) := by decide +kernel
theorem d9_11 : decode prog_4_method_3_code 11 = .ok (.if_icmp .eq 20, 3) := by decide +kernel
theorem d9_31 : decode prog_4_method_3_code 31 = .ok (.iconst 0, 1) := by decide +kernel
theorem d9_32 : decode prog_4_method_3_code 32 = .ok (.istore_n 2, 1) := by decide +kernel
theorem d9_33 : decode prog_4_method_3_code 33 = .ok (.iload_n 2, 1) := by decide +kernel
theorem d9_34 : decode prog_4_method_3_code 34 = .ok (.aload_n 1, 1) := by decide +kernel
theorem d9_35 : decode prog_4_method_3_code 35 = .ok (.arraylength, 1) := by decide +kernel
theorem d9_36 : decode prog_4_method_3_code 36 = .ok (.if_icmp .ge 47, 3) := by decide +kernel
theorem d9_39 : decode prog_4_method_3_code 39 = .ok (.aload_n 1, 1) := by decide +kernel
theorem d9_40 : decode prog_4_method_3_code 40 = .ok (.iload_n 2, 1) := by decide +kernel
theorem d9_41 : decode prog_4_method_3_code 41 = .ok (.laload, 1) := by decide +kernel
theorem d9_42 : decode prog_4_method_3_code 42 = .ok (.lconst 0, 1) := by decide +kernel
theorem d9_43 : decode prog_4_method_3_code 43 = .ok (.lcmp, 1) := by decide +kernel
theorem d9_44 : decode prog_4_method_3_code 44 = .ok (.ifCond .lt 13, 3) := by decide +kernel
theorem d9_47 : decode prog_4_method_3_code 47 = .ok (.aload_n 1, 1) := by decide +kernel
theorem d9_48 : decode prog_4_method_3_code 48 = .ok (.iload_n 2, 1) := by decide +kernel
theorem d9_49 : decode prog_4_method_3_code 49 = .ok (.laload, 1) := by decide +kernel
theorem d9_50 : decode prog_4_method_3_code 50 = .ok (.aload_n 0, 1) := by decide +kernel
theorem d9_51 : decode prog_4_method_3_code 51 = .ok (.iload_n 2, 1) := by decide +kernel
theorem d9_52 : decode prog_4_method_3_code 52 = .ok (.laload, 1) := by decide +kernel
theorem d9_53 : decode prog_4_method_3_code 53 = .ok (.lcmp, 1) := by decide +kernel
theorem d9_54 : decode prog_4_method_3_code 54 = .ok (.ifCond .le 23, 3) := by decide +kernel
theorem d9_77 : decode prog_4_method_3_code 77 = .ok (.iinc 2 1, 3) := by decide +kernel
theorem d9_80 : decode prog_4_method_3_code 80 = .ok (.goto (-47), 3) := by decide +kernel
theorem d9_83 : decode prog_4_method_3_code 83 = .ok (.return_, 1) := by decide +kernel
theorem ef9_1 (m : MethodId) (x0 : Addr) (x1 : Addr) : entryFrame m #[(.ref x0), (.ref x1)] 3 = mkF m 0 #[.val (.ref x0), .val (.ref x1), .unset] [] := by first | (simp [entryFrame, mkF, argsToLocals, Value.category]; done) | rfl
abbrev rr9_1 : Room := { frames := 1, cells := 2, slots := 24, locals := 13 }
def Q9_1 (Z : State) (a0 : Addr) (a1 : Addr) (c0 : Int64) (s0 : Int64) (k_a0 : ClassId) (k_a1 : ClassId) (h0 : Heap) (n0 : Nat) (v : Option Value) (h : Heap) (L : List Loc) : Prop := v = none ∧ Fr n0 L ∧ Keep h0 h []
set_option maxRecDepth 65536 in
set_option maxHeartbeats 40000000 in
theorem rm9_1 (l : Launch) (Z : State) (aw : Array Value) (hw : ∀ d ∈ tables_1, d.before aw Z = true) (ws : List Jvm.Cond) (a0 : Addr) (a1 : Addr) (c0 : Int64) (s0 : Int64) (k_a0 : ClassId) (k_a1 : ClassId) (h0 : Heap) (n0 : Nat) (Z0 : n0 ≤ h0.size) (V_a0 : Arv Z h0 a0 k_a0 .long (1 : Int32) [(.long c0)] (.long (0 : Int64))) (V_a1 : Arv Z h0 a1 k_a1 .long (1 : Int32) [(.long s0)] (.long (0 : Int64))) (hs0 : ¬ s0 < (0 : Int64)) (ht0 : ¬ c0 < s0) :
    MetFree l (⟨"com/example/stowline/stowline/Capacities", "checkSizes", "([J[J)V"⟩ : MethodName) (head1 (Jvm.Cond.code (⟨"com/example/stowline/stowline/Capacities", "checkSizes", "([J[J)V"⟩ : MethodName) prog_4_method_3_code 3 none :: ws) rr9_1) (fun a U => a = #[(.ref a0), (.ref a1)] ∧ Z.Warmed39 U.vm ∧ U.heap = h0) (fun _ _ _ _ _ => True) (fun _ U o U' => ∃ v L, o = .returned v ∧ Q9_1 Z a0 a1 c0 s0 k_a0 k_a1 h0 n0 v U'.heap L ∧ ReturnedEndW U o U' L rr9_1.cells rr9_1.slots) := by
  refine MetFree.of_bodySF (plainFor_of_name pn_2) hisR ?_
  intro p e s m args below meth c s₁ Bd hml0 hP hK
  obtain ⟨rfl, hZ, hh⟩ := hP
  have hx := Bd.exec
  have hby := Bd.bytes
  have hml : c.maxLocals = 3 := hml0
  have hown : s.vm.findClass "com/example/stowline/stowline/Capacities" = some m.cls := findClass_of_methodNamed Bd.named
  have hnm := (name_of_methodNamed Bd.named Bd.method).1
  have X0 : Stand p l e rr9_1 (s.setVm s.vm) m #[(.ref a0), (.ref a1)] below meth c s₁ [] 0 0 := Stand.of_body Bd
  have e0 : s₁.heap = h0 := by rw [← hh, Bd.state]; rfl
  have N0 := Fr.nil n0
  have K0 := Keep.refl h0 []
  have hS : s.Since s.vm 0 := (State.WarmedH.refl s).since 0
  have hk : 0 ≤ h0.size := Nat.zero_le _
  have hstr : ∀ a ∈ Bundle.stringAtoms, a.before aw Z = true := fun d hd => hw d ((by decide +kernel : ∀ d ∈ Bundle.stringAtoms, d ∈ tables_1) d hd)
  have pre0 : ∀ t, Steps p.tables e below (s₁.setTop (mkF m 0 #[.val (.ref a0), .val (.ref a1), .unset] [])) t → Steps p.tables e below (s₁.setTop (entryFrame m #[(.ref a0), (.ref a1)] 3)) t := fun t k => castTop (ef9_1 m a0 a1) k
  let L_117 : Array Slot := #[.val (.ref a0), .val (.ref a1), .unset]
  have pre118 := fun (t : State) (k : Steps p.tables e below (s₁.setTop (mkF m 1 L_117 [(.ref a1)])) t) => pre0 t (by
    show Steps p.tables e below (s₁.setTop (mkF m 0 L_117 [])) _
    refine XS.aloadN X0.here hx rfl (hb hby d9_0) rfl rfl ?_
    exact k)
  obtain ⟨a119, T119, h119, k119, X119, e119, E119, hS, hk, hZ, hown, st119⟩ := ldcS X0 hx hZ hown (own_m hw 71 rfl) hstr e0 hS hk (g := (mkF m 1 L_117 [(.ref a1)])) rfl (hb hby d9_1) (n := 20) (by decide) (by decide) (by decide) (by decide)
  have f120 := V_a0.ext E119
  have f121 := V_a1.ext E119
  have K122 := K0.ext E119
  have Z123 := Nat.le_trans Z0 E119.1
  obtain ⟨_, _, ⟨T124, L124, k124, n124⟩, -, X124, ⟨Lc124, hQ124, l124, y124, z124⟩, st124⟩ := Jvm.LawKit.callS X119 hx (y := (⟨"java/util/Objects", "requireNonNull", "(Ljava/lang/Object;Ljava/lang/String;)Ljava/lang/Object;"⟩ : MethodName)) hown (mvT hZ (own_m hw 39 rfl)) (mvT hZ (own_m hw 40 rfl)) (mvT hZ (own_m hw 41 rfl)) (mvT hZ (own_m hw 42 rfl)) (by decide) (backOf (W := 0) (rm6 l Z aw hw [] a1 a119 h119 n0 Z123 ) hZ (own_m hw 42 rfl) (own_m hw 41 rfl) (by decide) (by decide)) (g := (mkF m 3 L_117 [(.ref a119), (.ref a1)])) rfl (by rw [hml]; rfl) (argsL := [(.ref a1), (.ref a119)]) (rest := []) (lenOf pd_1 rfl) rfl (by show 2 * 0 + _ ≤ _; exact Nat.le_of_eq rfl) (hb hby d9_3) (fun _ _ => ⟨rfl, e119, (by decide : 2 + 0 ≤ _), (by decide : 24 + 0 ≤ _)⟩)
  dsimp only [Pt.U, Pt.locs, Pt.cells, Pt.slots] at X124 l124 y124 z124 st124 hQ124
  subst l124 y124 z124
  obtain ⟨rfl, N124q, e124⟩ := hQ124
  have N124 := Fr.app N0 N124q
  obtain ⟨cl125, Ar125, q125, S125, M125, H125, G125⟩ := id f121
  obtain ⟨cl126, Ar126, q126, S126, M126, H126, G126⟩ := id f120
  let L_127 : Array Slot := #[.val (.ref a0), .val (.ref a1), .val (.int (0 : Int32))]
  obtain ⟨cl128, Ar128, q128, S128, M128, H128, G128⟩ := id f121
  obtain ⟨cl129, Ar129, q129, S129, M129, H129, G129⟩ := id f121
  have hin130 : ¬ ((0 : Int32) < 0 ∨ cl129.slots.size ≤ ((0 : Int32)).toNatClampNeg) := inb_of S129 ⟨by decide, by decide⟩
  have hat131 : cl129.slots[((0 : Int32)).toNatClampNeg]? = some (.long s0) := H129.at hin130 rfl
  obtain ⟨cl132, Ar132, q132, S132, M132, H132, G132⟩ := id f121
  have hin133 : ¬ ((0 : Int32) < 0 ∨ cl132.slots.size ≤ ((0 : Int32)).toNatClampNeg) := inb_of S132 ⟨by decide, by decide⟩
  have hat134 : cl132.slots[((0 : Int32)).toNatClampNeg]? = some (.long s0) := H132.at hin133 rfl
  obtain ⟨cl135, Ar135, q135, S135, M135, H135, G135⟩ := id f120
  have hin136 : ¬ ((0 : Int32) < 0 ∨ cl135.slots.size ≤ ((0 : Int32)).toNatClampNeg) := inb_of S135 ⟨by decide, by decide⟩
  have hat137 : cl135.slots[((0 : Int32)).toNatClampNeg]? = some (.long c0) := H135.at hin136 rfl
  let L_138 : Array Slot := #[.val (.ref a0), .val (.ref a1), .val (.int (1 : Int32))]
  obtain ⟨cl139, Ar139, q139, S139, M139, H139, G139⟩ := id f121
  obtain ⟨fs, hr, hrun, hended, hRW⟩ := X124.leaveW hS (own_hk hk e124) (v := none) (fun _ => rfl)
  refine ⟨_, _, pre118 _ ?_, hrun, hended, _, _, rfl, ?_, hRW.1, hRW.2.1, hRW.2.2.1, hRW.2.2.2.mono (by decide) (by decide)⟩
  · skip
    show Steps p.tables e below (s₁.setTop (mkF m 1 L_117 [(.ref a1)])) _
    refine st119 _ ?_
    show Steps p.tables e below (T119.setTop (mkF m 3 L_117 [(.ref a119), (.ref a1)])) _
    refine st124 _ ?_
    refine XS.pop X124.here hx rfl (hb hby d9_6) rfl rfl ?_
    refine XS.aloadN X124.here hx rfl (hb hby d9_7) rfl rfl ?_
    show Steps p.tables e below (T124.setTop (mkF m 8 L_117 [(.ref a1)])) _
    refine X124.arraylength hx (by rw [e124]; exact Ar125.1) (State.isArrayOf_alike hZ.alike Ar125.2.1) (g := (mkF m 8 L_117 [(.ref a1)])) rfl rfl (hb hby d9_8) _ ?_
    rw [len_of S125 M125]
    refine XS.aloadN X124.here hx rfl (hb hby d9_9) rfl rfl ?_
    show Steps p.tables e below (T124.setTop (mkF m 10 L_117 [(.ref a0), (.int (1 : Int32))])) _
    refine X124.arraylength hx (by rw [e124]; exact Ar126.1) (State.isArrayOf_alike hZ.alike Ar126.2.1) (g := (mkF m 10 L_117 [(.ref a0), (.int (1 : Int32))])) rfl rfl (hb hby d9_10) _ ?_
    rw [len_of S126 M126]
    refine XS.icmpYes X124.here hx rfl (pc0 := 11) (pc' := 31) rfl (hb hby d9_11) rfl (teq (rfl : (1 : Int32) = (1 : Int32))).1 (by decide) (by decide) ?_
    refine XS.iconst X124.here hx rfl (hb hby d9_31) ?_
    refine XS.istoreN X124.here hx rfl (hb hby d9_32) rfl (l' := L_127) rfl ?_
    refine XS.iloadN X124.here hx rfl (hb hby d9_33) rfl ?_
    refine XS.aloadN X124.here hx rfl (hb hby d9_34) rfl rfl ?_
    show Steps p.tables e below (T124.setTop (mkF m 35 L_127 [(.ref a1), (.int (0 : Int32))])) _
    refine X124.arraylength hx (by rw [e124]; exact Ar128.1) (State.isArrayOf_alike hZ.alike Ar128.2.1) (g := (mkF m 35 L_127 [(.ref a1), (.int (0 : Int32))])) rfl rfl (hb hby d9_35) _ ?_
    rw [len_of S128 M128]
    refine XS.icmpNo X124.here hx rfl (hb hby d9_36) rfl (tlt (by decide : (0 : Int32) < (1 : Int32))).2.1 ?_
    refine XS.aloadN X124.here hx rfl (hb hby d9_39) rfl rfl ?_
    refine XS.iloadN X124.here hx rfl (hb hby d9_40) rfl ?_
    show Steps p.tables e below (T124.setTop (mkF m 41 L_127 [(.int (0 : Int32)), (.ref a1)])) _
    refine X124.laload hx (j := (0 : Int32)) (v := (.long s0)) (by rw [e124]; exact Ar129.1) (State.isArrayOf_alike hZ.alike Ar129.2.1) Ar129.2.2 hin130 hat131 (g := (mkF m 41 L_127 [(.int (0 : Int32)), (.ref a1)])) rfl rfl (hb hby d9_41) _ ?_
    refine XS.lconst X124.here hx rfl (hb hby d9_42) ?_
    refine XS.lcmp X124.here hx rfl (hb hby d9_43) rfl ?_
    refine XS.ifNo X124.here hx rfl (hb hby d9_44) rfl ((if0 _ _).trans (flt (mt (own_lt s0 (0 : Int64)).mp hs0)).1) ?_
    refine XS.aloadN X124.here hx rfl (hb hby d9_47) rfl rfl ?_
    refine XS.iloadN X124.here hx rfl (hb hby d9_48) rfl ?_
    show Steps p.tables e below (T124.setTop (mkF m 49 L_127 [(.int (0 : Int32)), (.ref a1)])) _
    refine X124.laload hx (j := (0 : Int32)) (v := (.long s0)) (by rw [e124]; exact Ar132.1) (State.isArrayOf_alike hZ.alike Ar132.2.1) Ar132.2.2 hin133 hat134 (g := (mkF m 49 L_127 [(.int (0 : Int32)), (.ref a1)])) rfl rfl (hb hby d9_49) _ ?_
    refine XS.aloadN X124.here hx rfl (hb hby d9_50) rfl rfl ?_
    refine XS.iloadN X124.here hx rfl (hb hby d9_51) rfl ?_
    show Steps p.tables e below (T124.setTop (mkF m 52 L_127 [(.int (0 : Int32)), (.ref a0), (.long s0)])) _
    refine X124.laload hx (j := (0 : Int32)) (v := (.long c0)) (by rw [e124]; exact Ar135.1) (State.isArrayOf_alike hZ.alike Ar135.2.1) Ar135.2.2 hin136 hat137 (g := (mkF m 52 L_127 [(.int (0 : Int32)), (.ref a0), (.long s0)])) rfl rfl (hb hby d9_52) _ ?_
    refine XS.lcmp X124.here hx rfl (hb hby d9_53) rfl ?_
    refine XS.ifYes X124.here hx rfl (pc0 := 54) (pc' := 77) rfl (hb hby d9_54) rfl ((if0 _ _).trans (flt (mt (own_gt s0 c0).mp ht0)).2.2.2) (by decide) (by decide) ?_
    refine XS.iinc X124.here hx rfl (hb hby d9_77) rfl (l' := L_138) rfl ?_
    refine XS.goto X124.here hx rfl (pc0 := 80) (pc' := 33) rfl (hb hby d9_80) (by decide) (by decide) ?_
    refine XS.iloadN X124.here hx rfl (hb hby d9_33) rfl ?_
    show Steps p.tables e below (T124.setTop (mkF m 34 L_138 [(.int (1 : Int32))])) _
    refine XS.aloadN X124.here hx rfl (hb hby d9_34) rfl rfl ?_
    show Steps p.tables e below (T124.setTop (mkF m 35 L_138 [(.ref a1), (.int (1 : Int32))])) _
    refine X124.arraylength hx (by rw [e124]; exact Ar139.1) (State.isArrayOf_alike hZ.alike Ar139.2.1) (g := (mkF m 35 L_138 [(.ref a1), (.int (1 : Int32))])) rfl rfl (hb hby d9_35) _ ?_
    rw [len_of S139 M139]
    refine XS.icmpYes X124.here hx rfl (pc0 := 36) (pc' := 83) rfl (hb hby d9_36) rfl (flt (by decide : ¬ ((1 : Int32) < (1 : Int32)))).2.1 (by decide) (by decide) ?_
    show Steps p.tables e below (T124.setTop (mkF m 83 L_138 [])) _
    exact X124.returnOut hx Bd.returns (hb hby d9_83) hr
  · show Q9_1 Z a0 a1 c0 s0 k_a0 k_a1 h0 n0 _ T124.heap _
    rw [e124]
    exact ⟨rfl, N124, K122⟩
theorem d8_0 : decode prog_29_method_10_code 0 = .ok (.aload_n 0, 1) := by decide +kernel
theorem d8_1 : decode prog_29_method_10_code 1 = .ok (.getfield 13, 3) := by decide +kernel
theorem d8_4 : decode prog_29_method_10_code 4 = .ok (.aload_n 1, 1) := by decide +kernel
theorem pd_5 : parseMethodDescriptor "([J[J)V" = some ⟨[(.array .long), (.array .long)], none⟩ := by decide +kernel
theorem d8_5 : decode prog_29_method_10_code 5 = .ok (.invokestatic 123, 3) := by decide +kernel
theorem d8_8 : decode prog_29_method_10_code 8 = .ok (.return_, 1) := by decide +kernel
theorem ef8_1 (m : MethodId) (x0 : Addr) (x1 : Addr) : entryFrame m #[(.ref x0), (.ref x1)] 2 = mkF m 0 #[.val (.ref x0), .val (.ref x1)] [] := by first | (simp [entryFrame, mkF, argsToLocals, Value.category]; done) | rfl
abbrev rr8_1 : Room := { frames := 2, cells := 2, slots := 24, locals := 27 }
def Q8_1 (Z : State) (a0 : Addr) (a1 : Addr) (bc : Addr) (c0 : Int64) (s0 : Int64) (k_bc : ClassId) (k_a1 : ClassId) (h0 : Heap) (n0 : Nat) (v : Option Value) (h : Heap) (L : List Loc) : Prop := v = none ∧ Fr n0 L ∧ Keep h0 h []
set_option maxRecDepth 65536 in
set_option maxHeartbeats 40000000 in
theorem rm8_1 (l : Launch) (Z : State) (aw : Array Value) (hw : ∀ d ∈ tables_1, d.before aw Z = true) (ws : List Jvm.Cond) (a0 : Addr) (a1 : Addr) (bc : Addr) (c0 : Int64) (s0 : Int64) (k_bc : ClassId) (k_a1 : ClassId) (h0 : Heap) (n0 : Nat) (Z0 : n0 ≤ h0.size) (E_a0 : Exa Z h0 a0 "com/example/stowline/stowline/VolumeBound") (F_capacities_a0 : Fld Z h0 a0 "com/example/stowline/stowline/VolumeBound" "capacities" "[J" (.ref bc)) (V_bc : Arv Z h0 bc k_bc .long (1 : Int32) [(.long c0)] (.long (0 : Int64))) (V_a1 : Arv Z h0 a1 k_a1 .long (1 : Int32) [(.long s0)] (.long (0 : Int64))) (hs0 : ¬ s0 < (0 : Int64)) (ht0 : ¬ c0 < s0) :
    MetFree l (⟨"com/example/stowline/stowline/VolumeBound", "checkSizes", "([J)V"⟩ : MethodName) (head1 (Jvm.Cond.code (⟨"com/example/stowline/stowline/VolumeBound", "checkSizes", "([J)V"⟩ : MethodName) prog_29_method_10_code 2 none :: ws) rr8_1) (fun a U => a = #[(.ref a0), (.ref a1)] ∧ Z.Warmed39 U.vm ∧ U.heap = h0) (fun _ _ _ _ _ => True) (fun _ U o U' => ∃ v L, o = .returned v ∧ Q8_1 Z a0 a1 bc c0 s0 k_bc k_a1 h0 n0 v U'.heap L ∧ ReturnedEndW U o U' L rr8_1.cells rr8_1.slots) := by
  refine MetFree.of_bodySF (plainFor_of_name pn_3) hisR ?_
  intro p e s m args below meth c s₁ Bd hml0 hP hK
  obtain ⟨rfl, hZ, hh⟩ := hP
  have hx := Bd.exec
  have hby := Bd.bytes
  have hml : c.maxLocals = 2 := hml0
  have hown : s.vm.findClass "com/example/stowline/stowline/VolumeBound" = some m.cls := findClass_of_methodNamed Bd.named
  have hnm := (name_of_methodNamed Bd.named Bd.method).1
  have X0 : Stand p l e rr8_1 (s.setVm s.vm) m #[(.ref a0), (.ref a1)] below meth c s₁ [] 0 0 := Stand.of_body Bd
  have e0 : s₁.heap = h0 := by rw [← hh, Bd.state]; rfl
  have N0 := Fr.nil n0
  have K0 := Keep.refl h0 []
  have hS : s.Since s.vm 0 := (State.WarmedH.refl s).since 0
  have hk : 0 ≤ h0.size := Nat.zero_le _
  have hstr : ∀ a ∈ Bundle.stringAtoms, a.before aw Z = true := fun d hd => hw d ((by decide +kernel : ∀ d ∈ Bundle.stringAtoms, d ∈ tables_1) d hd)
  have pre0 : ∀ t, Steps p.tables e below (s₁.setTop (mkF m 0 #[.val (.ref a0), .val (.ref a1)] [])) t → Steps p.tables e below (s₁.setTop (entryFrame m #[(.ref a0), (.ref a1)] 2)) t := fun t k => castTop (ef8_1 m a0 a1) k
  let L_140 : Array Slot := #[.val (.ref a0), .val (.ref a1)]
  obtain ⟨T141, X141, e141, st141⟩ := getF X0 hx hZ hown (host := "") (Or.inl (own_m hw 52 rfl)) Via.refl e0 F_capacities_a0 (g := (mkF m 1 L_140 [(.ref a0)])) rfl rfl (hb hby d8_1)
  have pre143 := fun (t : State) (k : Steps p.tables e below (T141.setTop (mkF m 5 L_140 [(.ref a1), (.ref bc)])) t) => pre0 t (by
    show Steps p.tables e below (s₁.setTop (mkF m 0 L_140 [])) _
    refine XS.aloadN X0.here hx rfl (hb hby d8_0) rfl rfl ?_
    show Steps p.tables e below (s₁.setTop (mkF m 1 L_140 [(.ref a0)])) _
    refine st141 _ ?_
    refine XS.aloadN X141.here hx rfl (hb hby d8_4) rfl rfl ?_
    exact k)
  obtain ⟨_, _, ⟨T142, L142, k142, n142⟩, -, X142, hSi142, hgr142, ⟨Lc142, hQ142, l142, y142, z142⟩, st142⟩ := Jvm.RoadKit.callSS X141 hx (y := (⟨"com/example/stowline/stowline/Capacities", "checkSizes", "([J[J)V"⟩ : MethodName)) hown (mvT hZ (own_m hw 68 rfl)) (mvT hZ (own_m hw 69 rfl)) (mvT hZ (own_m hw 29 rfl)) (mvT hZ (own_m hw 70 rfl)) (by decide) (backOfS (W := 0) (rm9_1 l Z aw hw [] bc a1 c0 s0 k_bc k_a1 h0 n0 Z0 V_bc V_a1 hs0 ht0) hZ (own_m hw 70 rfl) (own_m hw 29 rfl) (by decide) (by decide)) (g := (mkF m 5 L_140 [(.ref a1), (.ref bc)])) rfl (by rw [hml]; rfl) (argsL := [(.ref bc), (.ref a1)]) (rest := []) (lenOf pd_5 rfl) rfl (by show 2 * 0 + _ ≤ _; exact Nat.le_of_eq rfl) (hb hby d8_5) (fun _ _ => ⟨rfl, e141, (by decide : 0 + 2 ≤ _), (by decide : 0 + 24 ≤ _)⟩)
  dsimp only [Pt.U, Pt.locs, Pt.cells, Pt.slots] at X142 l142 y142 z142 st142 hQ142 hSi142 hgr142
  subst l142 y142 z142
  obtain ⟨X142, hS, hZ, hown⟩ := rebS hS (show _ ≤ T141.heap.size from own_hk hk e141) X142 hSi142 hgr142 hZ hown
  obtain ⟨h142, e142⟩ : ∃ z, T142.heap = z := ⟨_, rfl⟩
  rw [e142] at hQ142
  obtain ⟨rfl, N142q, K142q⟩ := hQ142
  have f144 := E_a0.keep K142q
  have f145 := F_capacities_a0.keep K142q nin0
  have f146 := V_bc.keep K142q nin0
  have f147 := V_a1.keep K142q nin0
  have K142 := K0.trans K142q all0
  have Z142 := Nat.le_trans Z0 K142q.1
  have hk : T142.heap.size ≤ h142.size := by rw [e142]; exact Nat.le_refl _
  have N142 := Fr.app N0 N142q
  obtain ⟨fs, hr, hrun, hended, hRW⟩ := X142.leaveW hS (own_hk hk e142) (v := none) (fun _ => rfl)
  refine ⟨_, _, pre143 _ ?_, hrun, hended, _, _, rfl, ?_, hRW.1, hRW.2.1, hRW.2.2.1, hRW.2.2.2.mono (by decide) (by decide)⟩
  · skip
    show Steps p.tables e below (T141.setTop (mkF m 5 L_140 [(.ref a1), (.ref bc)])) _
    refine st142.trans ?_
    show Steps p.tables e below (T142.setTop (mkF m 8 L_140 [])) _
    exact X142.returnOut hx Bd.returns (hb hby d8_8) hr
  · show Q8_1 Z a0 a1 bc c0 s0 k_bc k_a1 h0 n0 _ T142.heap _
    rw [e142]
    exact ⟨rfl, N142, K142⟩
theorem d7_0 : decode prog_29_method_3_code 0 = .ok (.aload_n 0, 1) := by decide +kernel
theorem d7_1 : decode prog_29_method_3_code 1 = .ok (.aload_n 1, 1) := by decide +kernel
theorem pd_6 : parseMethodDescriptor "([J)V" = some ⟨[(.array .long)], none⟩ := by decide +kernel
theorem d7_2 : decode prog_29_method_3_code 2 = .ok (.invokevirtual 25, 3) := by decide +kernel
theorem d7_5 : decode prog_29_method_3_code 5 = .ok (.iconst 0, 1) := by decide +kernel
theorem d7_6 : decode prog_29_method_3_code 6 = .ok (.istore_n 2, 1) := by decide +kernel
theorem d7_7 : decode prog_29_method_3_code 7 = .ok (.iload_n 2, 1) := by decide +kernel
theorem d7_8 : decode prog_29_method_3_code 8 = .ok (.aload_n 1, 1) := by decide +kernel
theorem d7_9 : decode prog_29_method_3_code 9 = .ok (.arraylength, 1) := by decide +kernel
theorem d7_10 : decode prog_29_method_3_code 10 = .ok (.if_icmp .ge 67, 3) := by decide +kernel
theorem d7_13 : decode prog_29_method_3_code 13 = .ok (.aload_n 0, 1) := by decide +kernel
theorem d7_14 : decode prog_29_method_3_code 14 = .ok (.getfield 13, 3) := by decide +kernel
theorem d7_17 : decode prog_29_method_3_code 17 = .ok (.iload_n 2, 1) := by decide +kernel
theorem d7_18 : decode prog_29_method_3_code 18 = .ok (.laload, 1) := by decide +kernel
theorem d7_19 : decode prog_29_method_3_code 19 = .ok (.aload_n 0, 1) := by decide +kernel
theorem d7_20 : decode prog_29_method_3_code 20 = .ok (.getfield 22, 3) := by decide +kernel
theorem d7_23 : decode prog_29_method_3_code 23 = .ok (.iload_n 2, 1) := by decide +kernel
theorem d7_24 : decode prog_29_method_3_code 24 = .ok (.laload, 1) := by decide +kernel
theorem d7_25 : decode prog_29_method_3_code 25 = .ok (.lsub, 1) := by decide +kernel
theorem d7_26 : decode prog_29_method_3_code 26 = .ok (.lstore_n 3, 1) := by decide +kernel
theorem d7_27 : decode prog_29_method_3_code 27 = .ok (.aload_n 1, 1) := by decide +kernel
theorem d7_28 : decode prog_29_method_3_code 28 = .ok (.iload_n 2, 1) := by decide +kernel
theorem d7_29 : decode prog_29_method_3_code 29 = .ok (.laload, 1) := by decide +kernel
theorem d7_30 : decode prog_29_method_3_code 30 = .ok (.lload_n 3, 1) := by decide +kernel
theorem d7_31 : decode prog_29_method_3_code 31 = .ok (.lcmp, 1) := by decide +kernel
theorem d7_32 : decode prog_29_method_3_code 32 = .ok (.ifCond .lt 27, 3) := by decide +kernel
theorem d7_59 : decode prog_29_method_3_code 59 = .ok (.aload_n 0, 1) := by decide +kernel
theorem d7_60 : decode prog_29_method_3_code 60 = .ok (.getfield 22, 3) := by decide +kernel
theorem d7_63 : decode prog_29_method_3_code 63 = .ok (.iload_n 2, 1) := by decide +kernel
theorem d7_64 : decode prog_29_method_3_code 64 = .ok (.dup2, 1) := by decide +kernel
theorem d7_65 : decode prog_29_method_3_code 65 = .ok (.laload, 1) := by decide +kernel
theorem d7_66 : decode prog_29_method_3_code 66 = .ok (.aload_n 1, 1) := by decide +kernel
theorem d7_67 : decode prog_29_method_3_code 67 = .ok (.iload_n 2, 1) := by decide +kernel
theorem d7_68 : decode prog_29_method_3_code 68 = .ok (.laload, 1) := by decide +kernel
theorem d7_69 : decode prog_29_method_3_code 69 = .ok (.ladd, 1) := by decide +kernel
theorem d7_70 : decode prog_29_method_3_code 70 = .ok (.lastore, 1) := by decide +kernel
theorem d7_35 : decode prog_29_method_3_code 35 = .ok (.aload_n 0, 1) := by decide +kernel
theorem d7_36 : decode prog_29_method_3_code 36 = .ok (.getfield 19, 3) := by decide +kernel
theorem d7_39 : decode prog_29_method_3_code 39 = .ok (.iload_n 2, 1) := by decide +kernel
theorem d7_40 : decode prog_29_method_3_code 40 = .ok (.dup2, 1) := by decide +kernel
theorem d7_41 : decode prog_29_method_3_code 41 = .ok (.laload, 1) := by decide +kernel
theorem d7_42 : decode prog_29_method_3_code 42 = .ok (.lconst 1, 1) := by decide +kernel
theorem d7_43 : decode prog_29_method_3_code 43 = .ok (.ladd, 1) := by decide +kernel
theorem d7_44 : decode prog_29_method_3_code 44 = .ok (.lastore, 1) := by decide +kernel
theorem d7_45 : decode prog_29_method_3_code 45 = .ok (.aload_n 0, 1) := by decide +kernel
theorem d7_46 : decode prog_29_method_3_code 46 = .ok (.getfield 22, 3) := by decide +kernel
theorem d7_49 : decode prog_29_method_3_code 49 = .ok (.iload_n 2, 1) := by decide +kernel
theorem d7_50 : decode prog_29_method_3_code 50 = .ok (.aload_n 1, 1) := by decide +kernel
theorem d7_51 : decode prog_29_method_3_code 51 = .ok (.iload_n 2, 1) := by decide +kernel
theorem d7_52 : decode prog_29_method_3_code 52 = .ok (.laload, 1) := by decide +kernel
theorem d7_53 : decode prog_29_method_3_code 53 = .ok (.lload_n 3, 1) := by decide +kernel
theorem d7_54 : decode prog_29_method_3_code 54 = .ok (.lsub, 1) := by decide +kernel
theorem d7_55 : decode prog_29_method_3_code 55 = .ok (.lastore, 1) := by decide +kernel
theorem d7_56 : decode prog_29_method_3_code 56 = .ok (.goto 15, 3) := by decide +kernel
theorem d7_71 : decode prog_29_method_3_code 71 = .ok (.iinc 2 1, 3) := by decide +kernel
theorem d7_74 : decode prog_29_method_3_code 74 = .ok (.goto (-67), 3) := by decide +kernel
theorem d7_77 : decode prog_29_method_3_code 77 = .ok (.return_, 1) := by decide +kernel
def j7_1_0 (c0 : Int64) (w0 : Int64) (r0 : Int64) (s0 : Int64) : Int64 := (if s0 < (c0 - r0) then w0 else (w0 + (1 : Int64)))
def j7_1_1 (c0 : Int64) (r0 : Int64) (s0 : Int64) : Int64 := (if s0 < (c0 - r0) then (r0 + s0) else (s0 - (c0 - r0)))
theorem ef7_1 (m : MethodId) (x0 : Addr) (x1 : Addr) : entryFrame m #[(.ref x0), (.ref x1)] 5 = mkF m 0 #[.val (.ref x0), .val (.ref x1), .unset, .unset, .unset] [] := by first | (simp [entryFrame, mkF, argsToLocals, Value.category]; done) | rfl
abbrev rr7_1 : Room := { frames := 3, cells := 2, slots := 24, locals := 40 }
def Q7_1 (Z : State) (a0 : Addr) (a1 : Addr) (bc : Addr) (bw : Addr) (br : Addr) (c0 : Int64) (w0 : Int64) (r0 : Int64) (s0 : Int64) (k_bc : ClassId) (k_bw : ClassId) (k_br : ClassId) (k_a1 : ClassId) (h0 : Heap) (n0 : Nat) (v : Option Value) (h : Heap) (L : List Loc) : Prop := v = none ∧ Fr n0 L ∧ Keep h0 h [bw, br] ∧ Arv Z h bw k_bw .long (1 : Int32) [(.long (j7_1_0 c0 w0 r0 s0))] (.long (0 : Int64)) ∧ Arv Z h br k_br .long (1 : Int32) [(.long (j7_1_1 c0 r0 s0))] (.long (0 : Int64))
set_option maxRecDepth 65536 in
set_option maxHeartbeats 40000000 in
theorem rm7_1 (l : Launch) (Z : State) (aw : Array Value) (hw : ∀ d ∈ tables_1, d.before aw Z = true) (ws : List Jvm.Cond) (a0 : Addr) (a1 : Addr) (bc : Addr) (bw : Addr) (br : Addr) (c0 : Int64) (w0 : Int64) (r0 : Int64) (s0 : Int64) (k_bc : ClassId) (k_bw : ClassId) (k_br : ClassId) (k_a1 : ClassId) (h0 : Heap) (n0 : Nat) (Z0 : n0 ≤ h0.size) (E_a0 : Exa Z h0 a0 "com/example/stowline/stowline/VolumeBound") (F_capacities_a0 : Fld Z h0 a0 "com/example/stowline/stowline/VolumeBound" "capacities" "[J" (.ref bc)) (F_wholeCapacities_a0 : Fld Z h0 a0 "com/example/stowline/stowline/VolumeBound" "wholeCapacities" "[J" (.ref bw)) (F_remainders_a0 : Fld Z h0 a0 "com/example/stowline/stowline/VolumeBound" "remainders" "[J" (.ref br)) (V_bc : Arv Z h0 bc k_bc .long (1 : Int32) [(.long c0)] (.long (0 : Int64))) (V_bw : Arv Z h0 bw k_bw .long (1 : Int32) [(.long w0)] (.long (0 : Int64))) (V_br : Arv Z h0 br k_br .long (1 : Int32) [(.long r0)] (.long (0 : Int64))) (V_a1 : Arv Z h0 a1 k_a1 .long (1 : Int32) [(.long s0)] (.long (0 : Int64))) (g_bw : n0 ≤ bw) (g_br : n0 ≤ br) (ne_a0_bw : a0 ≠ bw) (ne_a0_br : a0 ≠ br) (ne_bc_bw : bc ≠ bw) (ne_bc_br : bc ≠ br) (ne_bw_br : bw ≠ br) (ne_a1_bw : a1 ≠ bw) (ne_a1_br : a1 ≠ br) (hs0 : ¬ s0 < (0 : Int64)) (ht0 : ¬ c0 < s0) :
    MetFree l (⟨"com/example/stowline/stowline/VolumeBound", "add", "([J)V"⟩ : MethodName) (head1 (Jvm.Cond.code (⟨"com/example/stowline/stowline/VolumeBound", "add", "([J)V"⟩ : MethodName) prog_29_method_3_code 5 none :: ws) rr7_1) (fun a U => a = #[(.ref a0), (.ref a1)] ∧ Z.Warmed39 U.vm ∧ U.heap = h0) (fun _ _ _ _ _ => True) (fun _ U o U' => ∃ v L, o = .returned v ∧ Q7_1 Z a0 a1 bc bw br c0 w0 r0 s0 k_bc k_bw k_br k_a1 h0 n0 v U'.heap L ∧ ReturnedEndW U o U' L rr7_1.cells rr7_1.slots) := by
  refine MetFree.of_bodySF (plainFor_of_name pn_3) hisR ?_
  intro p e s m args below meth c s₁ Bd hml0 hP hK
  obtain ⟨rfl, hZ, hh⟩ := hP
  have hx := Bd.exec
  have hby := Bd.bytes
  have hml : c.maxLocals = 5 := hml0
  have hown : s.vm.findClass "com/example/stowline/stowline/VolumeBound" = some m.cls := findClass_of_methodNamed Bd.named
  have hnm := (name_of_methodNamed Bd.named Bd.method).1
  have X0 : Stand p l e rr7_1 (s.setVm s.vm) m #[(.ref a0), (.ref a1)] below meth c s₁ [] 0 0 := Stand.of_body Bd
  have e0 : s₁.heap = h0 := by rw [← hh, Bd.state]; rfl
  have N0 := Fr.nil n0
  have K0 := Keep.refl h0 [bw, br]
  have hS : s.Since s.vm 0 := (State.WarmedH.refl s).since 0
  have hk : 0 ≤ h0.size := Nat.zero_le _
  have hstr : ∀ a ∈ Bundle.stringAtoms, a.before aw Z = true := fun d hd => hw d ((by decide +kernel : ∀ d ∈ Bundle.stringAtoms, d ∈ tables_1) d hd)
  have pre0 : ∀ t, Steps p.tables e below (s₁.setTop (mkF m 0 #[.val (.ref a0), .val (.ref a1), .unset, .unset, .unset] [])) t → Steps p.tables e below (s₁.setTop (entryFrame m #[(.ref a0), (.ref a1)] 5)) t := fun t k => castTop (ef7_1 m a0 a1) k
  let L_148 : Array Slot := #[.val (.ref a0), .val (.ref a1), .unset, .unset, .unset]
  have pre150 := fun (t : State) (k : Steps p.tables e below (s₁.setTop (mkF m 2 L_148 [(.ref a1), (.ref a0)])) t) => pre0 t (by
    show Steps p.tables e below (s₁.setTop (mkF m 0 L_148 [])) _
    refine XS.aloadN X0.here hx rfl (hb hby d7_0) rfl rfl ?_
    refine XS.aloadN X0.here hx rfl (hb hby d7_1) rfl rfl ?_
    exact k)
  obtain ⟨cq149, kq149, q149a, q149b, q149c⟩ := isOf hZ e0 E_a0
  obtain ⟨_, _, ⟨T149, L149, k149, n149⟩, -, X149, hSi149, hgr149, ⟨Lc149, hQ149, l149, y149, z149⟩, st149⟩ := X0.virtualBackS hx (y := (⟨"com/example/stowline/stowline/VolumeBound", "checkSizes", "([J)V"⟩ : MethodName)) (z := (⟨"com/example/stowline/stowline/VolumeBound", "checkSizes", "([J)V"⟩ : MethodName)) hown (mvT hZ (own_m hw 63 rfl)) (mvT hZ (own_m hw 64 rfl)) (notFace_of_selects (args := #[]) (mvT hZ (own_m hw 66 rfl))) (mvT hZ (own_m hw 66 rfl)) (mvT hZ (own_m hw 65 rfl)) (by decide) (backOfS (W := 0) (rm8_1 l Z aw hw [] a0 a1 bc c0 s0 k_bc k_a1 h0 n0 Z0 E_a0 F_capacities_a0 V_bc V_a1 hs0 ht0) hZ (own_m hw 67 rfl) (own_m hw 20 rfl) (by decide) (by decide)) q149a q149c (g := (mkF m 2 L_148 [(.ref a1), (.ref a0)])) rfl (by rw [hml]; rfl) (Steps.refl _) (argsL := [(.ref a1)]) (rest := []) (lenOf pd_6 rfl) rfl (by show 2 * 0 + _ ≤ _; exact Nat.le_of_eq rfl) (hb hby d7_2) (fun _ _ => ⟨rfl, e0, (by decide : 0 + 2 ≤ _), (by decide : 0 + 24 ≤ _)⟩)
  dsimp only [Pt.U, Pt.locs, Pt.cells, Pt.slots] at X149 l149 y149 z149 st149 hQ149 hSi149 hgr149
  subst l149 y149 z149
  obtain ⟨X149, hS, hZ, hown⟩ := rebS hS (show _ ≤ s₁.heap.size from own_hk hk e0) X149 hSi149 hgr149 hZ hown
  obtain ⟨h149, e149⟩ : ∃ z, T149.heap = z := ⟨_, rfl⟩
  rw [e149] at hQ149
  obtain ⟨rfl, N149q, K149q⟩ := hQ149
  have f151 := E_a0.keep K149q
  have f152 := F_capacities_a0.keep K149q nin0
  have f153 := F_wholeCapacities_a0.keep K149q nin0
  have f154 := F_remainders_a0.keep K149q nin0
  have f155 := V_bc.keep K149q nin0
  have f156 := V_bw.keep K149q nin0
  have f157 := V_br.keep K149q nin0
  have f158 := V_a1.keep K149q nin0
  have K149 := K0.trans K149q all0
  have Z149 := Nat.le_trans Z0 K149q.1
  have hk : T149.heap.size ≤ h149.size := by rw [e149]; exact Nat.le_refl _
  have N149 := Fr.app N0 N149q
  let L_159 : Array Slot := #[.val (.ref a0), .val (.ref a1), .val (.int (0 : Int32)), .unset, .unset]
  obtain ⟨cl160, Ar160, q160, S160, M160, H160, G160⟩ := id f158
  obtain ⟨T161, X161, e161, st161⟩ := getF X149 hx hZ hown (host := "") (Or.inl (own_m hw 52 rfl)) Via.refl e149 f152 (g := (mkF m 14 L_159 [(.ref a0)])) rfl rfl (hb hby d7_14)
  obtain ⟨cl162, Ar162, q162, S162, M162, H162, G162⟩ := id f155
  have hin163 : ¬ ((0 : Int32) < 0 ∨ cl162.slots.size ≤ ((0 : Int32)).toNatClampNeg) := inb_of S162 ⟨by decide, by decide⟩
  have hat164 : cl162.slots[((0 : Int32)).toNatClampNeg]? = some (.long c0) := H162.at hin163 rfl
  obtain ⟨T165, X165, e165, st165⟩ := getF X161 hx hZ hown (host := "") (Or.inl (own_m hw 56 rfl)) Via.refl e161 f154 (g := (mkF m 20 L_159 [(.ref a0), (.long c0)])) rfl rfl (hb hby d7_20)
  obtain ⟨cl166, Ar166, q166, S166, M166, H166, G166⟩ := id f157
  have hin167 : ¬ ((0 : Int32) < 0 ∨ cl166.slots.size ≤ ((0 : Int32)).toNatClampNeg) := inb_of S166 ⟨by decide, by decide⟩
  have hat168 : cl166.slots[((0 : Int32)).toNatClampNeg]? = some (.long r0) := H166.at hin167 rfl
  let L_169 : Array Slot := #[.val (.ref a0), .val (.ref a1), .val (.int (0 : Int32)), .val (.long (c0 - r0)), .second]
  obtain ⟨cl170, Ar170, q170, S170, M170, H170, G170⟩ := id f158
  have hin171 : ¬ ((0 : Int32) < 0 ∨ cl170.slots.size ≤ ((0 : Int32)).toNatClampNeg) := inb_of S170 ⟨by decide, by decide⟩
  have hat172 : cl170.slots[((0 : Int32)).toNatClampNeg]? = some (.long s0) := H170.at hin171 rfl
  have pre230 := fun (t : State) (k : Steps p.tables e below (T165.setTop (mkF m 32 L_169 [(.int (lcmpW s0 (c0 - r0)))])) t) => pre150 t (by
    show Steps p.tables e below (s₁.setTop (mkF m 2 L_148 [(.ref a1), (.ref a0)])) _
    refine st149.trans ?_
    refine XS.iconst X149.here hx rfl (hb hby d7_5) ?_
    refine XS.istoreN X149.here hx rfl (hb hby d7_6) rfl (l' := L_159) rfl ?_
    refine XS.iloadN X149.here hx rfl (hb hby d7_7) rfl ?_
    refine XS.aloadN X149.here hx rfl (hb hby d7_8) rfl rfl ?_
    show Steps p.tables e below (T149.setTop (mkF m 9 L_159 [(.ref a1), (.int (0 : Int32))])) _
    refine X149.arraylength hx (by rw [e149]; exact Ar160.1) (State.isArrayOf_alike hZ.alike Ar160.2.1) (g := (mkF m 9 L_159 [(.ref a1), (.int (0 : Int32))])) rfl rfl (hb hby d7_9) _ ?_
    rw [len_of S160 M160]
    refine XS.icmpNo X149.here hx rfl (hb hby d7_10) rfl (tlt (by decide : (0 : Int32) < (1 : Int32))).2.1 ?_
    refine XS.aloadN X149.here hx rfl (hb hby d7_13) rfl rfl ?_
    show Steps p.tables e below (T149.setTop (mkF m 14 L_159 [(.ref a0)])) _
    refine st161 _ ?_
    refine XS.iloadN X161.here hx rfl (hb hby d7_17) rfl ?_
    show Steps p.tables e below (T161.setTop (mkF m 18 L_159 [(.int (0 : Int32)), (.ref bc)])) _
    refine X161.laload hx (j := (0 : Int32)) (v := (.long c0)) (by rw [e161]; exact Ar162.1) (State.isArrayOf_alike hZ.alike Ar162.2.1) Ar162.2.2 hin163 hat164 (g := (mkF m 18 L_159 [(.int (0 : Int32)), (.ref bc)])) rfl rfl (hb hby d7_18) _ ?_
    refine XS.aloadN X161.here hx rfl (hb hby d7_19) rfl rfl ?_
    show Steps p.tables e below (T161.setTop (mkF m 20 L_159 [(.ref a0), (.long c0)])) _
    refine st165 _ ?_
    refine XS.iloadN X165.here hx rfl (hb hby d7_23) rfl ?_
    show Steps p.tables e below (T165.setTop (mkF m 24 L_159 [(.int (0 : Int32)), (.ref br), (.long c0)])) _
    refine X165.laload hx (j := (0 : Int32)) (v := (.long r0)) (by rw [e165]; exact Ar166.1) (State.isArrayOf_alike hZ.alike Ar166.2.1) Ar166.2.2 hin167 hat168 (g := (mkF m 24 L_159 [(.int (0 : Int32)), (.ref br), (.long c0)])) rfl rfl (hb hby d7_24) _ ?_
    refine XS.lsub X165.here hx rfl (hb hby d7_25) rfl ?_
    refine XS.lstoreN X165.here hx rfl (hb hby d7_26) rfl (l' := L_169) rfl ?_
    refine XS.aloadN X165.here hx rfl (hb hby d7_27) rfl rfl ?_
    refine XS.iloadN X165.here hx rfl (hb hby d7_28) rfl ?_
    show Steps p.tables e below (T165.setTop (mkF m 29 L_169 [(.int (0 : Int32)), (.ref a1)])) _
    refine X165.laload hx (j := (0 : Int32)) (v := (.long s0)) (by rw [e165]; exact Ar170.1) (State.isArrayOf_alike hZ.alike Ar170.2.1) Ar170.2.2 hin171 hat172 (g := (mkF m 29 L_169 [(.int (0 : Int32)), (.ref a1)])) rfl rfl (hb hby d7_29) _ ?_
    refine XS.lloadN X165.here hx rfl (hb hby d7_30) rfl ?_
    refine XS.lcmp X165.here hx rfl (hb hby d7_31) rfl ?_
    exact k)
  obtain ⟨T231, h231, L231, X231, e231, N231, Z231, hk, K231, f231_0, f231_1, f231_2, f231_3, f231_4, f231_5, f231_6, f231_7, pre231⟩ : ∃ (T231 : State) (h231 : Heap) (L231 : List Loc), Stand p l e rr7_1 (s.setVm T149.vm) m #[(.ref a0), (.ref a1)] below meth c T231 L231 2 24 ∧ T231.heap = h231 ∧ Fr n0 L231 ∧ n0 ≤ h231.size ∧ T149.heap.size ≤ h231.size ∧ Keep h0 h231 [bw, br] ∧ Exa Z h231 a0 "com/example/stowline/stowline/VolumeBound" ∧ Fld Z h231 a0 "com/example/stowline/stowline/VolumeBound" "capacities" "[J" (.ref bc) ∧ Fld Z h231 a0 "com/example/stowline/stowline/VolumeBound" "wholeCapacities" "[J" (.ref bw) ∧ Fld Z h231 a0 "com/example/stowline/stowline/VolumeBound" "remainders" "[J" (.ref br) ∧ Arv Z h231 bc k_bc .long (1 : Int32) [(.long c0)] (.long (0 : Int64)) ∧ Arv Z h231 bw k_bw .long (1 : Int32) [(.long (j7_1_0 c0 w0 r0 s0))] (.long (0 : Int64)) ∧ Arv Z h231 br k_br .long (1 : Int32) [(.long (j7_1_1 c0 r0 s0))] (.long (0 : Int64)) ∧ Arv Z h231 a1 k_a1 .long (1 : Int32) [(.long s0)] (.long (0 : Int64)) ∧ ∀ t, Steps p.tables e below (T231.setTop (mkF m 71 L_169 [])) t → Steps p.tables e below (s₁.setTop (entryFrame m #[(.ref a0), (.ref a1)] 5)) t := by
    by_cases hc232 : s0 < (c0 - r0)
    · skip
      obtain ⟨T233, X233, e233, st233⟩ := getF X165 hx hZ hown (host := "") (Or.inl (own_m hw 56 rfl)) Via.refl e165 f154 (g := (mkF m 60 L_169 [(.ref a0)])) rfl rfl (hb hby d7_60)
      obtain ⟨cl234, Ar234, q234, S234, M234, H234, G234⟩ := id f157
      have hin235 : ¬ ((0 : Int32) < 0 ∨ cl234.slots.size ≤ ((0 : Int32)).toNatClampNeg) := inb_of S234 ⟨by decide, by decide⟩
      have hat236 : cl234.slots[((0 : Int32)).toNatClampNeg]? = some (.long r0) := H234.at hin235 rfl
      obtain ⟨cl237, Ar237, q237, S237, M237, H237, G237⟩ := id f158
      have hin238 : ¬ ((0 : Int32) < 0 ∨ cl237.slots.size ≤ ((0 : Int32)).toNatClampNeg) := inb_of S237 ⟨by decide, by decide⟩
      have hat239 : cl237.slots[((0 : Int32)).toNatClampNeg]? = some (.long s0) := H237.at hin238 rfl
      obtain ⟨cl240, Ar240, q240, S240, M240, H240, G240⟩ := id f157
      have hin241 : ¬ ((0 : Int32) < 0 ∨ cl240.slots.size ≤ ((0 : Int32)).toNatClampNeg) := inb_of S240 ⟨by decide, by decide⟩
      obtain ⟨T242, h242, X242, e242, W242, st242⟩ := stJ X233 hx hZ e233 Ar240 (j := (0 : Int32)) hin241 (g := (mkF m 70 L_169 [(.long (r0 + s0)), (.int (0 : Int32)), (.ref br)])) rfl rfl (hb hby d7_70)
      have V242 : Arv Z h242 br k_br .long (1 : Int32) [(.long (r0 + s0))] (.long (0 : Int64)) := Arv.set Ar240 q240 S240 M240 H240 G240 rfl W242 0 rfl (Nat.le_of_ble_eq_true rfl)
      have f243 := f151.wr W242
      have f244 := f152.other W242 (Or.inl ne_a0_br)
      have f245 := f153.other W242 (Or.inl ne_a0_br)
      have f246 := f154.other W242 (Or.inl ne_a0_br)
      have f247 := f155.other W242 ne_bc_br
      have f248 := f156.other W242 ne_bw_br
      have f250 := f158.other W242 ne_a1_br
      have K251 := K149.wr W242 (Or.inl (List.mem_of_getElem? (i := 1) rfl))
      have Z252 := Nat.le_trans Z149 (Keep.of_wr W242).1
      have hk := Nat.le_trans hk (Keep.of_wr W242).1
      have N253 := Fr.snoc X242 N149 g_br
      have pre254 := fun (t : State) (k : Steps p.tables e below (T242.setTop (mkF m 71 L_169 [])) t) => pre230 t (by
        show Steps p.tables e below (T165.setTop (mkF m 32 L_169 [(.int (lcmpW s0 (c0 - r0)))])) _
        refine XS.ifYes X165.here hx rfl (pc0 := 32) (pc' := 59) rfl (hb hby d7_32) rfl ((if0 _ _).trans (tlt ((own_lt s0 (c0 - r0)).mpr hc232)).1) (by decide) (by decide) ?_
        refine XS.aloadN X165.here hx rfl (hb hby d7_59) rfl rfl ?_
        show Steps p.tables e below (T165.setTop (mkF m 60 L_169 [(.ref a0)])) _
        refine st233 _ ?_
        refine XS.iloadN X233.here hx rfl (hb hby d7_63) rfl ?_
        show Steps p.tables e below (T233.setTop (mkF m 64 L_169 [(.int (0 : Int32)), (.ref br)])) _
        refine XT.dup2 X233.here hx rfl (hb hby d7_64) rfl rfl rfl ?_
        show Steps p.tables e below (T233.setTop (mkF m 65 L_169 [(.int (0 : Int32)), (.ref br), (.int (0 : Int32)), (.ref br)])) _
        refine X233.laload hx (j := (0 : Int32)) (v := (.long r0)) (by rw [e233]; exact Ar234.1) (State.isArrayOf_alike hZ.alike Ar234.2.1) Ar234.2.2 hin235 hat236 (g := (mkF m 65 L_169 [(.int (0 : Int32)), (.ref br), (.int (0 : Int32)), (.ref br)])) rfl rfl (hb hby d7_65) _ ?_
        refine XS.aloadN X233.here hx rfl (hb hby d7_66) rfl rfl ?_
        refine XS.iloadN X233.here hx rfl (hb hby d7_67) rfl ?_
        show Steps p.tables e below (T233.setTop (mkF m 68 L_169 [(.int (0 : Int32)), (.ref a1), (.long r0), (.int (0 : Int32)), (.ref br)])) _
        refine X233.laload hx (j := (0 : Int32)) (v := (.long s0)) (by rw [e233]; exact Ar237.1) (State.isArrayOf_alike hZ.alike Ar237.2.1) Ar237.2.2 hin238 hat239 (g := (mkF m 68 L_169 [(.int (0 : Int32)), (.ref a1), (.long r0), (.int (0 : Int32)), (.ref br)])) rfl rfl (hb hby d7_68) _ ?_
        refine XS.ladd X233.here hx rfl (hb hby d7_69) rfl ?_
        show Steps p.tables e below (T233.setTop (mkF m 70 L_169 [(.long (r0 + s0)), (.int (0 : Int32)), (.ref br)])) _
        refine st242 _ ?_
        exact k)
      have hj255 : (j7_1_0 c0 w0 r0 s0) = w0 := by unfold j7_1_0; first | (rw [if_pos hc232]) | (simp only [if_pos hc232])
      have hj256 : (j7_1_1 c0 r0 s0) = (r0 + s0) := by unfold j7_1_1; first | (rw [if_pos hc232]) | (simp only [if_pos hc232])
      exact ⟨T242, h242, _, X242, e242, N253, Z252, hk, K251, f243, f244, f245, f246, f247, (by rw [hj255]; exact f248), (by rw [hj256]; exact V242), f250, fun t k => pre254 t (by exact k)⟩
    · skip
      obtain ⟨T257, X257, e257, st257⟩ := getF X165 hx hZ hown (host := "") (Or.inl (own_m hw 54 rfl)) Via.refl e165 f153 (g := (mkF m 36 L_169 [(.ref a0)])) rfl rfl (hb hby d7_36)
      obtain ⟨cl258, Ar258, q258, S258, M258, H258, G258⟩ := id f156
      have hin259 : ¬ ((0 : Int32) < 0 ∨ cl258.slots.size ≤ ((0 : Int32)).toNatClampNeg) := inb_of S258 ⟨by decide, by decide⟩
      have hat260 : cl258.slots[((0 : Int32)).toNatClampNeg]? = some (.long w0) := H258.at hin259 rfl
      obtain ⟨cl261, Ar261, q261, S261, M261, H261, G261⟩ := id f156
      have hin262 : ¬ ((0 : Int32) < 0 ∨ cl261.slots.size ≤ ((0 : Int32)).toNatClampNeg) := inb_of S261 ⟨by decide, by decide⟩
      obtain ⟨T263, h263, X263, e263, W263, st263⟩ := stJ X257 hx hZ e257 Ar261 (j := (0 : Int32)) hin262 (g := (mkF m 44 L_169 [(.long (w0 + (1 : Int64))), (.int (0 : Int32)), (.ref bw)])) rfl rfl (hb hby d7_44)
      have V263 : Arv Z h263 bw k_bw .long (1 : Int32) [(.long (w0 + (1 : Int64)))] (.long (0 : Int64)) := Arv.set Ar261 q261 S261 M261 H261 G261 rfl W263 0 rfl (Nat.le_of_ble_eq_true rfl)
      have f264 := f151.wr W263
      have f265 := f152.other W263 (Or.inl ne_a0_bw)
      have f266 := f153.other W263 (Or.inl ne_a0_bw)
      have f267 := f154.other W263 (Or.inl ne_a0_bw)
      have f268 := f155.other W263 ne_bc_bw
      have f270 := f157.other W263 (Ne.symm ne_bw_br)
      have f271 := f158.other W263 ne_a1_bw
      have K272 := K149.wr W263 (Or.inl (List.mem_of_getElem? (i := 0) rfl))
      have Z273 := Nat.le_trans Z149 (Keep.of_wr W263).1
      have hk := Nat.le_trans hk (Keep.of_wr W263).1
      have N274 := Fr.snoc X263 N149 g_bw
      obtain ⟨T275, X275, e275, st275⟩ := getF X263 hx hZ hown (host := "") (Or.inl (own_m hw 56 rfl)) Via.refl e263 f267 (g := (mkF m 46 L_169 [(.ref a0)])) rfl rfl (hb hby d7_46)
      obtain ⟨cl276, Ar276, q276, S276, M276, H276, G276⟩ := id f271
      have hin277 : ¬ ((0 : Int32) < 0 ∨ cl276.slots.size ≤ ((0 : Int32)).toNatClampNeg) := inb_of S276 ⟨by decide, by decide⟩
      have hat278 : cl276.slots[((0 : Int32)).toNatClampNeg]? = some (.long s0) := H276.at hin277 rfl
      obtain ⟨cl279, Ar279, q279, S279, M279, H279, G279⟩ := id f270
      have hin280 : ¬ ((0 : Int32) < 0 ∨ cl279.slots.size ≤ ((0 : Int32)).toNatClampNeg) := inb_of S279 ⟨by decide, by decide⟩
      obtain ⟨T281, h281, X281, e281, W281, st281⟩ := stJ X275 hx hZ e275 Ar279 (j := (0 : Int32)) hin280 (g := (mkF m 55 L_169 [(.long (s0 - (c0 - r0))), (.int (0 : Int32)), (.ref br)])) rfl rfl (hb hby d7_55)
      have V281 : Arv Z h281 br k_br .long (1 : Int32) [(.long (s0 - (c0 - r0)))] (.long (0 : Int64)) := Arv.set Ar279 q279 S279 M279 H279 G279 rfl W281 0 rfl (Nat.le_of_ble_eq_true rfl)
      have f282 := f264.wr W281
      have f283 := f265.other W281 (Or.inl ne_a0_br)
      have f284 := f266.other W281 (Or.inl ne_a0_br)
      have f285 := f267.other W281 (Or.inl ne_a0_br)
      have f286 := f268.other W281 ne_bc_br
      have f287 := V263.other W281 ne_bw_br
      have f289 := f271.other W281 ne_a1_br
      have K290 := K272.wr W281 (Or.inl (List.mem_of_getElem? (i := 1) rfl))
      have Z291 := Nat.le_trans Z273 (Keep.of_wr W281).1
      have hk := Nat.le_trans hk (Keep.of_wr W281).1
      have N292 := Fr.snoc X281 N274 g_br
      have pre293 := fun (t : State) (k : Steps p.tables e below (T281.setTop (mkF m 71 L_169 [])) t) => pre230 t (by
        show Steps p.tables e below (T165.setTop (mkF m 32 L_169 [(.int (lcmpW s0 (c0 - r0)))])) _
        refine XS.ifNo X165.here hx rfl (hb hby d7_32) rfl ((if0 _ _).trans (flt (mt (own_lt s0 (c0 - r0)).mp hc232)).1) ?_
        refine XS.aloadN X165.here hx rfl (hb hby d7_35) rfl rfl ?_
        show Steps p.tables e below (T165.setTop (mkF m 36 L_169 [(.ref a0)])) _
        refine st257 _ ?_
        refine XS.iloadN X257.here hx rfl (hb hby d7_39) rfl ?_
        show Steps p.tables e below (T257.setTop (mkF m 40 L_169 [(.int (0 : Int32)), (.ref bw)])) _
        refine XT.dup2 X257.here hx rfl (hb hby d7_40) rfl rfl rfl ?_
        show Steps p.tables e below (T257.setTop (mkF m 41 L_169 [(.int (0 : Int32)), (.ref bw), (.int (0 : Int32)), (.ref bw)])) _
        refine X257.laload hx (j := (0 : Int32)) (v := (.long w0)) (by rw [e257]; exact Ar258.1) (State.isArrayOf_alike hZ.alike Ar258.2.1) Ar258.2.2 hin259 hat260 (g := (mkF m 41 L_169 [(.int (0 : Int32)), (.ref bw), (.int (0 : Int32)), (.ref bw)])) rfl rfl (hb hby d7_41) _ ?_
        refine XS.lconst X257.here hx rfl (hb hby d7_42) ?_
        refine XS.ladd X257.here hx rfl (hb hby d7_43) rfl ?_
        show Steps p.tables e below (T257.setTop (mkF m 44 L_169 [(.long (w0 + (1 : Int64))), (.int (0 : Int32)), (.ref bw)])) _
        refine st263 _ ?_
        refine XS.aloadN X263.here hx rfl (hb hby d7_45) rfl rfl ?_
        show Steps p.tables e below (T263.setTop (mkF m 46 L_169 [(.ref a0)])) _
        refine st275 _ ?_
        refine XS.iloadN X275.here hx rfl (hb hby d7_49) rfl ?_
        refine XS.aloadN X275.here hx rfl (hb hby d7_50) rfl rfl ?_
        refine XS.iloadN X275.here hx rfl (hb hby d7_51) rfl ?_
        show Steps p.tables e below (T275.setTop (mkF m 52 L_169 [(.int (0 : Int32)), (.ref a1), (.int (0 : Int32)), (.ref br)])) _
        refine X275.laload hx (j := (0 : Int32)) (v := (.long s0)) (by rw [e275]; exact Ar276.1) (State.isArrayOf_alike hZ.alike Ar276.2.1) Ar276.2.2 hin277 hat278 (g := (mkF m 52 L_169 [(.int (0 : Int32)), (.ref a1), (.int (0 : Int32)), (.ref br)])) rfl rfl (hb hby d7_52) _ ?_
        refine XS.lloadN X275.here hx rfl (hb hby d7_53) rfl ?_
        refine XS.lsub X275.here hx rfl (hb hby d7_54) rfl ?_
        show Steps p.tables e below (T275.setTop (mkF m 55 L_169 [(.long (s0 - (c0 - r0))), (.int (0 : Int32)), (.ref br)])) _
        refine st281 _ ?_
        refine XS.goto X281.here hx rfl (pc0 := 56) (pc' := 71) rfl (hb hby d7_56) (by decide) (by decide) ?_
        exact k)
      have hj294 : (j7_1_0 c0 w0 r0 s0) = (w0 + (1 : Int64)) := by unfold j7_1_0; first | (rw [if_neg hc232]) | (simp only [if_neg hc232])
      have hj295 : (j7_1_1 c0 r0 s0) = (s0 - (c0 - r0)) := by unfold j7_1_1; first | (rw [if_neg hc232]) | (simp only [if_neg hc232])
      exact ⟨T281, h281, _, X281, e281, N292, Z291, hk, K290, f282, f283, f284, f285, f286, (by rw [hj294]; exact f287), (by rw [hj295]; exact V281), f289, fun t k => pre293 t (by exact k)⟩
  let L_296 : Array Slot := #[.val (.ref a0), .val (.ref a1), .val (.int (1 : Int32)), .val (.long (c0 - r0)), .second]
  obtain ⟨cl297, Ar297, q297, S297, M297, H297, G297⟩ := id f231_7
  obtain ⟨fs, hr, hrun, hended, hRW⟩ := X231.leaveW hS (own_hk hk e231) (v := none) (fun _ => rfl)
  refine ⟨_, _, pre231 _ ?_, hrun, hended, _, _, rfl, ?_, hRW.1, hRW.2.1, hRW.2.2.1, hRW.2.2.2.mono (by decide) (by decide)⟩
  · skip
    show Steps p.tables e below (T231.setTop (mkF m 71 L_169 [])) _
    refine XS.iinc X231.here hx rfl (hb hby d7_71) rfl (l' := L_296) rfl ?_
    refine XS.goto X231.here hx rfl (pc0 := 74) (pc' := 7) rfl (hb hby d7_74) (by decide) (by decide) ?_
    refine XS.iloadN X231.here hx rfl (hb hby d7_7) rfl ?_
    refine XS.aloadN X231.here hx rfl (hb hby d7_8) rfl rfl ?_
    show Steps p.tables e below (T231.setTop (mkF m 9 L_296 [(.ref a1), (.int (1 : Int32))])) _
    refine X231.arraylength hx (by rw [e231]; exact Ar297.1) (State.isArrayOf_alike hZ.alike Ar297.2.1) (g := (mkF m 9 L_296 [(.ref a1), (.int (1 : Int32))])) rfl rfl (hb hby d7_9) _ ?_
    rw [len_of S297 M297]
    refine XS.icmpYes X231.here hx rfl (pc0 := 10) (pc' := 77) rfl (hb hby d7_10) rfl (flt (by decide : ¬ ((1 : Int32) < (1 : Int32)))).2.1 (by decide) (by decide) ?_
    show Steps p.tables e below (T231.setTop (mkF m 77 L_296 [])) _
    exact X231.returnOut hx Bd.returns (hb hby d7_77) hr
  · show Q7_1 Z a0 a1 bc bw br c0 w0 r0 s0 k_bc k_bw k_br k_a1 h0 n0 _ T231.heap _
    rw [e231]
    exact ⟨rfl, N231, K231, f231_5, f231_6⟩
theorem d13_0 : decode prog_29_method_4_code 0 = .ok (.aload_n 0, 1) := by decide +kernel
theorem d13_1 : decode prog_29_method_4_code 1 = .ok (.aload_n 1, 1) := by decide +kernel
theorem d13_2 : decode prog_29_method_4_code 2 = .ok (.invokevirtual 25, 3) := by decide +kernel
theorem d13_5 : decode prog_29_method_4_code 5 = .ok (.iconst 0, 1) := by decide +kernel
theorem d13_6 : decode prog_29_method_4_code 6 = .ok (.istore_n 2, 1) := by decide +kernel
theorem d13_7 : decode prog_29_method_4_code 7 = .ok (.iload_n 2, 1) := by decide +kernel
theorem d13_8 : decode prog_29_method_4_code 8 = .ok (.aload_n 1, 1) := by decide +kernel
theorem d13_9 : decode prog_29_method_4_code 9 = .ok (.arraylength, 1) := by decide +kernel
theorem d13_10 : decode prog_29_method_4_code 10 = .ok (.if_icmp .ge 50, 3) := by decide +kernel
theorem d13_13 : decode prog_29_method_4_code 13 = .ok (.aload_n 1, 1) := by decide +kernel
theorem d13_14 : decode prog_29_method_4_code 14 = .ok (.iload_n 2, 1) := by decide +kernel
theorem d13_15 : decode prog_29_method_4_code 15 = .ok (.laload, 1) := by decide +kernel
theorem d13_16 : decode prog_29_method_4_code 16 = .ok (.aload_n 0, 1) := by decide +kernel
theorem d13_17 : decode prog_29_method_4_code 17 = .ok (.getfield 22, 3) := by decide +kernel
theorem d13_20 : decode prog_29_method_4_code 20 = .ok (.iload_n 2, 1) := by decide +kernel
theorem d13_21 : decode prog_29_method_4_code 21 = .ok (.laload, 1) := by decide +kernel
theorem d13_22 : decode prog_29_method_4_code 22 = .ok (.lcmp, 1) := by decide +kernel
theorem d13_23 : decode prog_29_method_4_code 23 = .ok (.ifCond .le 31, 3) := by decide +kernel
theorem d13_26 : decode prog_29_method_4_code 26 = .ok (.aload_n 0, 1) := by decide +kernel
theorem d13_27 : decode prog_29_method_4_code 27 = .ok (.getfield 19, 3) := by decide +kernel
theorem d13_30 : decode prog_29_method_4_code 30 = .ok (.iload_n 2, 1) := by decide +kernel
theorem d13_31 : decode prog_29_method_4_code 31 = .ok (.laload, 1) := by decide +kernel
theorem d13_32 : decode prog_29_method_4_code 32 = .ok (.lconst 0, 1) := by decide +kernel
theorem d13_33 : decode prog_29_method_4_code 33 = .ok (.lcmp, 1) := by decide +kernel
theorem d13_34 : decode prog_29_method_4_code 34 = .ok (.ifCond .ne 20, 3) := by decide +kernel
theorem d13_54 : decode prog_29_method_4_code 54 = .ok (.iinc 2 1, 3) := by decide +kernel
theorem d13_57 : decode prog_29_method_4_code 57 = .ok (.goto (-50), 3) := by decide +kernel
theorem d13_60 : decode prog_29_method_4_code 60 = .ok (.iconst 0, 1) := by decide +kernel
theorem d13_61 : decode prog_29_method_4_code 61 = .ok (.istore_n 2, 1) := by decide +kernel
theorem d13_62 : decode prog_29_method_4_code 62 = .ok (.iload_n 2, 1) := by decide +kernel
theorem d13_63 : decode prog_29_method_4_code 63 = .ok (.aload_n 1, 1) := by decide +kernel
theorem d13_64 : decode prog_29_method_4_code 64 = .ok (.arraylength, 1) := by decide +kernel
theorem d13_65 : decode prog_29_method_4_code 65 = .ok (.if_icmp .ge 66, 3) := by decide +kernel
theorem d13_68 : decode prog_29_method_4_code 68 = .ok (.aload_n 1, 1) := by decide +kernel
theorem d13_69 : decode prog_29_method_4_code 69 = .ok (.iload_n 2, 1) := by decide +kernel
theorem d13_70 : decode prog_29_method_4_code 70 = .ok (.laload, 1) := by decide +kernel
theorem d13_71 : decode prog_29_method_4_code 71 = .ok (.aload_n 0, 1) := by decide +kernel
theorem d13_72 : decode prog_29_method_4_code 72 = .ok (.getfield 22, 3) := by decide +kernel
theorem d13_75 : decode prog_29_method_4_code 75 = .ok (.iload_n 2, 1) := by decide +kernel
theorem d13_76 : decode prog_29_method_4_code 76 = .ok (.laload, 1) := by decide +kernel
theorem d13_77 : decode prog_29_method_4_code 77 = .ok (.lcmp, 1) := by decide +kernel
theorem d13_78 : decode prog_29_method_4_code 78 = .ok (.ifCond .le 35, 3) := by decide +kernel
theorem d13_81 : decode prog_29_method_4_code 81 = .ok (.aload_n 0, 1) := by decide +kernel
theorem d13_82 : decode prog_29_method_4_code 82 = .ok (.getfield 19, 3) := by decide +kernel
theorem d13_85 : decode prog_29_method_4_code 85 = .ok (.iload_n 2, 1) := by decide +kernel
theorem d13_86 : decode prog_29_method_4_code 86 = .ok (.dup2, 1) := by decide +kernel
theorem d13_87 : decode prog_29_method_4_code 87 = .ok (.laload, 1) := by decide +kernel
theorem d13_88 : decode prog_29_method_4_code 88 = .ok (.lconst 1, 1) := by decide +kernel
theorem d13_89 : decode prog_29_method_4_code 89 = .ok (.lsub, 1) := by decide +kernel
theorem d13_90 : decode prog_29_method_4_code 90 = .ok (.lastore, 1) := by decide +kernel
theorem d13_91 : decode prog_29_method_4_code 91 = .ok (.aload_n 0, 1) := by decide +kernel
theorem d13_92 : decode prog_29_method_4_code 92 = .ok (.getfield 22, 3) := by decide +kernel
theorem d13_95 : decode prog_29_method_4_code 95 = .ok (.iload_n 2, 1) := by decide +kernel
theorem d13_96 : decode prog_29_method_4_code 96 = .ok (.dup2, 1) := by decide +kernel
theorem d13_97 : decode prog_29_method_4_code 97 = .ok (.laload, 1) := by decide +kernel
theorem d13_98 : decode prog_29_method_4_code 98 = .ok (.aload_n 0, 1) := by decide +kernel
theorem d13_99 : decode prog_29_method_4_code 99 = .ok (.getfield 13, 3) := by decide +kernel
theorem d13_102 : decode prog_29_method_4_code 102 = .ok (.iload_n 2, 1) := by decide +kernel
theorem d13_103 : decode prog_29_method_4_code 103 = .ok (.laload, 1) := by decide +kernel
theorem d13_104 : decode prog_29_method_4_code 104 = .ok (.aload_n 1, 1) := by decide +kernel
theorem d13_105 : decode prog_29_method_4_code 105 = .ok (.iload_n 2, 1) := by decide +kernel
theorem d13_106 : decode prog_29_method_4_code 106 = .ok (.laload, 1) := by decide +kernel
theorem d13_107 : decode prog_29_method_4_code 107 = .ok (.lsub, 1) := by decide +kernel
theorem d13_108 : decode prog_29_method_4_code 108 = .ok (.ladd, 1) := by decide +kernel
theorem d13_109 : decode prog_29_method_4_code 109 = .ok (.lastore, 1) := by decide +kernel
theorem d13_110 : decode prog_29_method_4_code 110 = .ok (.goto 15, 3) := by decide +kernel
theorem d13_113 : decode prog_29_method_4_code 113 = .ok (.aload_n 0, 1) := by decide +kernel
theorem d13_114 : decode prog_29_method_4_code 114 = .ok (.getfield 22, 3) := by decide +kernel
theorem d13_117 : decode prog_29_method_4_code 117 = .ok (.iload_n 2, 1) := by decide +kernel
theorem d13_118 : decode prog_29_method_4_code 118 = .ok (.dup2, 1) := by decide +kernel
theorem d13_119 : decode prog_29_method_4_code 119 = .ok (.laload, 1) := by decide +kernel
theorem d13_120 : decode prog_29_method_4_code 120 = .ok (.aload_n 1, 1) := by decide +kernel
theorem d13_121 : decode prog_29_method_4_code 121 = .ok (.iload_n 2, 1) := by decide +kernel
theorem d13_122 : decode prog_29_method_4_code 122 = .ok (.laload, 1) := by decide +kernel
theorem d13_123 : decode prog_29_method_4_code 123 = .ok (.lsub, 1) := by decide +kernel
theorem d13_124 : decode prog_29_method_4_code 124 = .ok (.lastore, 1) := by decide +kernel
theorem d13_125 : decode prog_29_method_4_code 125 = .ok (.iinc 2 1, 3) := by decide +kernel
theorem d13_128 : decode prog_29_method_4_code 128 = .ok (.goto (-66), 3) := by decide +kernel
theorem d13_131 : decode prog_29_method_4_code 131 = .ok (.return_, 1) := by decide +kernel
def j13_1_0 (w0 : Int64) (r0 : Int64) (s0 : Int64) : Int64 := (if r0 < s0 then (w0 - (1 : Int64)) else w0)
def j13_1_1 (c0 : Int64) (r0 : Int64) (s0 : Int64) : Int64 := (if r0 < s0 then (r0 + (c0 - s0)) else (r0 - s0))
theorem ef13_1 (m : MethodId) (x0 : Addr) (x1 : Addr) : entryFrame m #[(.ref x0), (.ref x1)] 3 = mkF m 0 #[.val (.ref x0), .val (.ref x1), .unset] [] := by first | (simp [entryFrame, mkF, argsToLocals, Value.category]; done) | rfl
abbrev rr13_1 : Room := { frames := 3, cells := 2, slots := 24, locals := 40 }
def Q13_1 (Z : State) (a0 : Addr) (a1 : Addr) (bc : Addr) (bw : Addr) (br : Addr) (c0 : Int64) (w0 : Int64) (r0 : Int64) (s0 : Int64) (k_bc : ClassId) (k_bw : ClassId) (k_br : ClassId) (k_a1 : ClassId) (h0 : Heap) (n0 : Nat) (v : Option Value) (h : Heap) (L : List Loc) : Prop := v = none ∧ Fr n0 L ∧ Keep h0 h [bw, br] ∧ Arv Z h bw k_bw .long (1 : Int32) [(.long (j13_1_0 w0 r0 s0))] (.long (0 : Int64)) ∧ Arv Z h br k_br .long (1 : Int32) [(.long (j13_1_1 c0 r0 s0))] (.long (0 : Int64))
set_option maxRecDepth 65536 in
set_option maxHeartbeats 40000000 in
theorem rm13_1 (l : Launch) (Z : State) (aw : Array Value) (hw : ∀ d ∈ tables_1, d.before aw Z = true) (ws : List Jvm.Cond) (a0 : Addr) (a1 : Addr) (bc : Addr) (bw : Addr) (br : Addr) (c0 : Int64) (w0 : Int64) (r0 : Int64) (s0 : Int64) (k_bc : ClassId) (k_bw : ClassId) (k_br : ClassId) (k_a1 : ClassId) (h0 : Heap) (n0 : Nat) (Z0 : n0 ≤ h0.size) (E_a0 : Exa Z h0 a0 "com/example/stowline/stowline/VolumeBound") (F_capacities_a0 : Fld Z h0 a0 "com/example/stowline/stowline/VolumeBound" "capacities" "[J" (.ref bc)) (F_wholeCapacities_a0 : Fld Z h0 a0 "com/example/stowline/stowline/VolumeBound" "wholeCapacities" "[J" (.ref bw)) (F_remainders_a0 : Fld Z h0 a0 "com/example/stowline/stowline/VolumeBound" "remainders" "[J" (.ref br)) (V_bc : Arv Z h0 bc k_bc .long (1 : Int32) [(.long c0)] (.long (0 : Int64))) (V_bw : Arv Z h0 bw k_bw .long (1 : Int32) [(.long w0)] (.long (0 : Int64))) (V_br : Arv Z h0 br k_br .long (1 : Int32) [(.long r0)] (.long (0 : Int64))) (V_a1 : Arv Z h0 a1 k_a1 .long (1 : Int32) [(.long s0)] (.long (0 : Int64))) (g_bw : n0 ≤ bw) (g_br : n0 ≤ br) (ne_a0_bw : a0 ≠ bw) (ne_a0_br : a0 ≠ br) (ne_bc_bw : bc ≠ bw) (ne_bc_br : bc ≠ br) (ne_bw_br : bw ≠ br) (ne_a1_bw : a1 ≠ bw) (ne_a1_br : a1 ≠ br) (hs0 : ¬ s0 < (0 : Int64)) (ht0 : ¬ c0 < s0) (hr0 : r0 < s0 → ¬ w0 = (0 : Int64)) :
    MetFree l (⟨"com/example/stowline/stowline/VolumeBound", "remove", "([J)V"⟩ : MethodName) (head1 (Jvm.Cond.code (⟨"com/example/stowline/stowline/VolumeBound", "remove", "([J)V"⟩ : MethodName) prog_29_method_4_code 3 none :: ws) rr13_1) (fun a U => a = #[(.ref a0), (.ref a1)] ∧ Z.Warmed39 U.vm ∧ U.heap = h0) (fun _ _ _ _ _ => True) (fun _ U o U' => ∃ v L, o = .returned v ∧ Q13_1 Z a0 a1 bc bw br c0 w0 r0 s0 k_bc k_bw k_br k_a1 h0 n0 v U'.heap L ∧ ReturnedEndW U o U' L rr13_1.cells rr13_1.slots) := by
  refine MetFree.of_bodySF (plainFor_of_name pn_3) hisR ?_
  intro p e s m args below meth c s₁ Bd hml0 hP hK
  obtain ⟨rfl, hZ, hh⟩ := hP
  have hx := Bd.exec
  have hby := Bd.bytes
  have hml : c.maxLocals = 3 := hml0
  have hown : s.vm.findClass "com/example/stowline/stowline/VolumeBound" = some m.cls := findClass_of_methodNamed Bd.named
  have hnm := (name_of_methodNamed Bd.named Bd.method).1
  have X0 : Stand p l e rr13_1 (s.setVm s.vm) m #[(.ref a0), (.ref a1)] below meth c s₁ [] 0 0 := Stand.of_body Bd
  have e0 : s₁.heap = h0 := by rw [← hh, Bd.state]; rfl
  have N0 := Fr.nil n0
  have K0 := Keep.refl h0 [bw, br]
  have hS : s.Since s.vm 0 := (State.WarmedH.refl s).since 0
  have hk : 0 ≤ h0.size := Nat.zero_le _
  have hstr : ∀ a ∈ Bundle.stringAtoms, a.before aw Z = true := fun d hd => hw d ((by decide +kernel : ∀ d ∈ Bundle.stringAtoms, d ∈ tables_1) d hd)
  have pre0 : ∀ t, Steps p.tables e below (s₁.setTop (mkF m 0 #[.val (.ref a0), .val (.ref a1), .unset] [])) t → Steps p.tables e below (s₁.setTop (entryFrame m #[(.ref a0), (.ref a1)] 3)) t := fun t k => castTop (ef13_1 m a0 a1) k
  let L_298 : Array Slot := #[.val (.ref a0), .val (.ref a1), .unset]
  have pre300 := fun (t : State) (k : Steps p.tables e below (s₁.setTop (mkF m 2 L_298 [(.ref a1), (.ref a0)])) t) => pre0 t (by
    show Steps p.tables e below (s₁.setTop (mkF m 0 L_298 [])) _
    refine XS.aloadN X0.here hx rfl (hb hby d13_0) rfl rfl ?_
    refine XS.aloadN X0.here hx rfl (hb hby d13_1) rfl rfl ?_
    exact k)
  obtain ⟨cq299, kq299, q299a, q299b, q299c⟩ := isOf hZ e0 E_a0
  obtain ⟨_, _, ⟨T299, L299, k299, n299⟩, -, X299, hSi299, hgr299, ⟨Lc299, hQ299, l299, y299, z299⟩, st299⟩ := X0.virtualBackS hx (y := (⟨"com/example/stowline/stowline/VolumeBound", "checkSizes", "([J)V"⟩ : MethodName)) (z := (⟨"com/example/stowline/stowline/VolumeBound", "checkSizes", "([J)V"⟩ : MethodName)) hown (mvT hZ (own_m hw 63 rfl)) (mvT hZ (own_m hw 64 rfl)) (notFace_of_selects (args := #[]) (mvT hZ (own_m hw 66 rfl))) (mvT hZ (own_m hw 66 rfl)) (mvT hZ (own_m hw 65 rfl)) (by decide) (backOfS (W := 0) (rm8_1 l Z aw hw [] a0 a1 bc c0 s0 k_bc k_a1 h0 n0 Z0 E_a0 F_capacities_a0 V_bc V_a1 hs0 ht0) hZ (own_m hw 67 rfl) (own_m hw 20 rfl) (by decide) (by decide)) q299a q299c (g := (mkF m 2 L_298 [(.ref a1), (.ref a0)])) rfl (by rw [hml]; rfl) (Steps.refl _) (argsL := [(.ref a1)]) (rest := []) (lenOf pd_6 rfl) rfl (by show 2 * 0 + _ ≤ _; exact Nat.le_of_eq rfl) (hb hby d13_2) (fun _ _ => ⟨rfl, e0, (by decide : 0 + 2 ≤ _), (by decide : 0 + 24 ≤ _)⟩)
  dsimp only [Pt.U, Pt.locs, Pt.cells, Pt.slots] at X299 l299 y299 z299 st299 hQ299 hSi299 hgr299
  subst l299 y299 z299
  obtain ⟨X299, hS, hZ, hown⟩ := rebS hS (show _ ≤ s₁.heap.size from own_hk hk e0) X299 hSi299 hgr299 hZ hown
  obtain ⟨h299, e299⟩ : ∃ z, T299.heap = z := ⟨_, rfl⟩
  rw [e299] at hQ299
  obtain ⟨rfl, N299q, K299q⟩ := hQ299
  have f301 := E_a0.keep K299q
  have f302 := F_capacities_a0.keep K299q nin0
  have f303 := F_wholeCapacities_a0.keep K299q nin0
  have f304 := F_remainders_a0.keep K299q nin0
  have f305 := V_bc.keep K299q nin0
  have f306 := V_bw.keep K299q nin0
  have f307 := V_br.keep K299q nin0
  have f308 := V_a1.keep K299q nin0
  have K299 := K0.trans K299q all0
  have Z299 := Nat.le_trans Z0 K299q.1
  have hk : T299.heap.size ≤ h299.size := by rw [e299]; exact Nat.le_refl _
  have N299 := Fr.app N0 N299q
  let L_309 : Array Slot := #[.val (.ref a0), .val (.ref a1), .val (.int (0 : Int32))]
  obtain ⟨cl310, Ar310, q310, S310, M310, H310, G310⟩ := id f308
  obtain ⟨cl311, Ar311, q311, S311, M311, H311, G311⟩ := id f308
  have hin312 : ¬ ((0 : Int32) < 0 ∨ cl311.slots.size ≤ ((0 : Int32)).toNatClampNeg) := inb_of S311 ⟨by decide, by decide⟩
  have hat313 : cl311.slots[((0 : Int32)).toNatClampNeg]? = some (.long s0) := H311.at hin312 rfl
  obtain ⟨T314, X314, e314, st314⟩ := getF X299 hx hZ hown (host := "") (Or.inl (own_m hw 56 rfl)) Via.refl e299 f304 (g := (mkF m 17 L_309 [(.ref a0), (.long s0)])) rfl rfl (hb hby d13_17)
  obtain ⟨cl315, Ar315, q315, S315, M315, H315, G315⟩ := id f307
  have hin316 : ¬ ((0 : Int32) < 0 ∨ cl315.slots.size ≤ ((0 : Int32)).toNatClampNeg) := inb_of S315 ⟨by decide, by decide⟩
  have hat317 : cl315.slots[((0 : Int32)).toNatClampNeg]? = some (.long r0) := H315.at hin316 rfl
  have pre322 := fun (t : State) (k : Steps p.tables e below (T314.setTop (mkF m 23 L_309 [(.int (lcmpW s0 r0))])) t) => pre300 t (by
    show Steps p.tables e below (s₁.setTop (mkF m 2 L_298 [(.ref a1), (.ref a0)])) _
    refine st299.trans ?_
    refine XS.iconst X299.here hx rfl (hb hby d13_5) ?_
    refine XS.istoreN X299.here hx rfl (hb hby d13_6) rfl (l' := L_309) rfl ?_
    refine XS.iloadN X299.here hx rfl (hb hby d13_7) rfl ?_
    refine XS.aloadN X299.here hx rfl (hb hby d13_8) rfl rfl ?_
    show Steps p.tables e below (T299.setTop (mkF m 9 L_309 [(.ref a1), (.int (0 : Int32))])) _
    refine X299.arraylength hx (by rw [e299]; exact Ar310.1) (State.isArrayOf_alike hZ.alike Ar310.2.1) (g := (mkF m 9 L_309 [(.ref a1), (.int (0 : Int32))])) rfl rfl (hb hby d13_9) _ ?_
    rw [len_of S310 M310]
    refine XS.icmpNo X299.here hx rfl (hb hby d13_10) rfl (tlt (by decide : (0 : Int32) < (1 : Int32))).2.1 ?_
    refine XS.aloadN X299.here hx rfl (hb hby d13_13) rfl rfl ?_
    refine XS.iloadN X299.here hx rfl (hb hby d13_14) rfl ?_
    show Steps p.tables e below (T299.setTop (mkF m 15 L_309 [(.int (0 : Int32)), (.ref a1)])) _
    refine X299.laload hx (j := (0 : Int32)) (v := (.long s0)) (by rw [e299]; exact Ar311.1) (State.isArrayOf_alike hZ.alike Ar311.2.1) Ar311.2.2 hin312 hat313 (g := (mkF m 15 L_309 [(.int (0 : Int32)), (.ref a1)])) rfl rfl (hb hby d13_15) _ ?_
    refine XS.aloadN X299.here hx rfl (hb hby d13_16) rfl rfl ?_
    show Steps p.tables e below (T299.setTop (mkF m 17 L_309 [(.ref a0), (.long s0)])) _
    refine st314 _ ?_
    refine XS.iloadN X314.here hx rfl (hb hby d13_20) rfl ?_
    show Steps p.tables e below (T314.setTop (mkF m 21 L_309 [(.int (0 : Int32)), (.ref br), (.long s0)])) _
    refine X314.laload hx (j := (0 : Int32)) (v := (.long r0)) (by rw [e314]; exact Ar315.1) (State.isArrayOf_alike hZ.alike Ar315.2.1) Ar315.2.2 hin316 hat317 (g := (mkF m 21 L_309 [(.int (0 : Int32)), (.ref br), (.long s0)])) rfl rfl (hb hby d13_21) _ ?_
    refine XS.lcmp X314.here hx rfl (hb hby d13_22) rfl ?_
    exact k)
  obtain ⟨T323, L323, X323, e323, N323, pre323⟩ : ∃ (T323 : State) (L323 : List Loc), Stand p l e rr13_1 (s.setVm T299.vm) m #[(.ref a0), (.ref a1)] below meth c T323 L323 2 24 ∧ T323.heap = h299 ∧ Fr n0 L323 ∧ ∀ t, Steps p.tables e below (T323.setTop (mkF m 54 L_309 [])) t → Steps p.tables e below (s₁.setTop (entryFrame m #[(.ref a0), (.ref a1)] 3)) t := by
    by_cases hc324 : r0 < s0
    · skip
      obtain ⟨T325, X325, e325, st325⟩ := getF X314 hx hZ hown (host := "") (Or.inl (own_m hw 54 rfl)) Via.refl e314 f303 (g := (mkF m 27 L_309 [(.ref a0)])) rfl rfl (hb hby d13_27)
      obtain ⟨cl326, Ar326, q326, S326, M326, H326, G326⟩ := id f306
      have hin327 : ¬ ((0 : Int32) < 0 ∨ cl326.slots.size ≤ ((0 : Int32)).toNatClampNeg) := inb_of S326 ⟨by decide, by decide⟩
      have hat328 : cl326.slots[((0 : Int32)).toNatClampNeg]? = some (.long w0) := H326.at hin327 rfl
      have pre329 := fun (t : State) (k : Steps p.tables e below (T325.setTop (mkF m 54 L_309 [])) t) => pre322 t (by
        show Steps p.tables e below (T314.setTop (mkF m 23 L_309 [(.int (lcmpW s0 r0))])) _
        refine XS.ifNo X314.here hx rfl (hb hby d13_23) rfl ((if0 _ _).trans (tlt ((own_gt s0 r0).mpr hc324)).2.2.2) ?_
        refine XS.aloadN X314.here hx rfl (hb hby d13_26) rfl rfl ?_
        show Steps p.tables e below (T314.setTop (mkF m 27 L_309 [(.ref a0)])) _
        refine st325 _ ?_
        refine XS.iloadN X325.here hx rfl (hb hby d13_30) rfl ?_
        show Steps p.tables e below (T325.setTop (mkF m 31 L_309 [(.int (0 : Int32)), (.ref bw)])) _
        refine X325.laload hx (j := (0 : Int32)) (v := (.long w0)) (by rw [e325]; exact Ar326.1) (State.isArrayOf_alike hZ.alike Ar326.2.1) Ar326.2.2 hin327 hat328 (g := (mkF m 31 L_309 [(.int (0 : Int32)), (.ref bw)])) rfl rfl (hb hby d13_31) _ ?_
        refine XS.lconst X325.here hx rfl (hb hby d13_32) ?_
        refine XS.lcmp X325.here hx rfl (hb hby d13_33) rfl ?_
        refine XS.ifYes X325.here hx rfl (pc0 := 34) (pc' := 54) rfl (hb hby d13_34) rfl ((if0 _ _).trans (feq (mt (own_eq w0 (0 : Int64)).mp (hr0 hc324))).2) (by decide) (by decide) ?_
        exact k)
      exact ⟨T325, _, X325, e325, N299, fun t k => pre329 t (by exact k)⟩
    · skip
      have pre330 := fun (t : State) (k : Steps p.tables e below (T314.setTop (mkF m 54 L_309 [])) t) => pre322 t (by
        show Steps p.tables e below (T314.setTop (mkF m 23 L_309 [(.int (lcmpW s0 r0))])) _
        refine XS.ifYes X314.here hx rfl (pc0 := 23) (pc' := 54) rfl (hb hby d13_23) rfl ((if0 _ _).trans (flt (mt (own_gt s0 r0).mp hc324)).2.2.2) (by decide) (by decide) ?_
        exact k)
      exact ⟨T314, _, X314, e314, N299, fun t k => pre330 t (by exact k)⟩
  let L_331 : Array Slot := #[.val (.ref a0), .val (.ref a1), .val (.int (1 : Int32))]
  obtain ⟨cl332, Ar332, q332, S332, M332, H332, G332⟩ := id f308
  obtain ⟨cl333, Ar333, q333, S333, M333, H333, G333⟩ := id f308
  obtain ⟨cl334, Ar334, q334, S334, M334, H334, G334⟩ := id f308
  have hin335 : ¬ ((0 : Int32) < 0 ∨ cl334.slots.size ≤ ((0 : Int32)).toNatClampNeg) := inb_of S334 ⟨by decide, by decide⟩
  have hat336 : cl334.slots[((0 : Int32)).toNatClampNeg]? = some (.long s0) := H334.at hin335 rfl
  obtain ⟨T337, X337, e337, st337⟩ := getF X323 hx hZ hown (host := "") (Or.inl (own_m hw 56 rfl)) Via.refl e323 f304 (g := (mkF m 72 L_309 [(.ref a0), (.long s0)])) rfl rfl (hb hby d13_72)
  obtain ⟨cl338, Ar338, q338, S338, M338, H338, G338⟩ := id f307
  have hin339 : ¬ ((0 : Int32) < 0 ∨ cl338.slots.size ≤ ((0 : Int32)).toNatClampNeg) := inb_of S338 ⟨by decide, by decide⟩
  have hat340 : cl338.slots[((0 : Int32)).toNatClampNeg]? = some (.long r0) := H338.at hin339 rfl
  have pre405 := fun (t : State) (k : Steps p.tables e below (T337.setTop (mkF m 78 L_309 [(.int (lcmpW s0 r0))])) t) => pre323 t (by
    show Steps p.tables e below (T323.setTop (mkF m 54 L_309 [])) _
    refine XS.iinc X323.here hx rfl (hb hby d13_54) rfl (l' := L_331) rfl ?_
    refine XS.goto X323.here hx rfl (pc0 := 57) (pc' := 7) rfl (hb hby d13_57) (by decide) (by decide) ?_
    refine XS.iloadN X323.here hx rfl (hb hby d13_7) rfl ?_
    refine XS.aloadN X323.here hx rfl (hb hby d13_8) rfl rfl ?_
    show Steps p.tables e below (T323.setTop (mkF m 9 L_331 [(.ref a1), (.int (1 : Int32))])) _
    refine X323.arraylength hx (by rw [e323]; exact Ar332.1) (State.isArrayOf_alike hZ.alike Ar332.2.1) (g := (mkF m 9 L_331 [(.ref a1), (.int (1 : Int32))])) rfl rfl (hb hby d13_9) _ ?_
    rw [len_of S332 M332]
    refine XS.icmpYes X323.here hx rfl (pc0 := 10) (pc' := 60) rfl (hb hby d13_10) rfl (flt (by decide : ¬ ((1 : Int32) < (1 : Int32)))).2.1 (by decide) (by decide) ?_
    refine XS.iconst X323.here hx rfl (hb hby d13_60) ?_
    refine XS.istoreN X323.here hx rfl (hb hby d13_61) rfl (l' := L_309) rfl ?_
    refine XS.iloadN X323.here hx rfl (hb hby d13_62) rfl ?_
    refine XS.aloadN X323.here hx rfl (hb hby d13_63) rfl rfl ?_
    show Steps p.tables e below (T323.setTop (mkF m 64 L_309 [(.ref a1), (.int (0 : Int32))])) _
    refine X323.arraylength hx (by rw [e323]; exact Ar333.1) (State.isArrayOf_alike hZ.alike Ar333.2.1) (g := (mkF m 64 L_309 [(.ref a1), (.int (0 : Int32))])) rfl rfl (hb hby d13_64) _ ?_
    rw [len_of S333 M333]
    refine XS.icmpNo X323.here hx rfl (hb hby d13_65) rfl (tlt (by decide : (0 : Int32) < (1 : Int32))).2.1 ?_
    refine XS.aloadN X323.here hx rfl (hb hby d13_68) rfl rfl ?_
    refine XS.iloadN X323.here hx rfl (hb hby d13_69) rfl ?_
    show Steps p.tables e below (T323.setTop (mkF m 70 L_309 [(.int (0 : Int32)), (.ref a1)])) _
    refine X323.laload hx (j := (0 : Int32)) (v := (.long s0)) (by rw [e323]; exact Ar334.1) (State.isArrayOf_alike hZ.alike Ar334.2.1) Ar334.2.2 hin335 hat336 (g := (mkF m 70 L_309 [(.int (0 : Int32)), (.ref a1)])) rfl rfl (hb hby d13_70) _ ?_
    refine XS.aloadN X323.here hx rfl (hb hby d13_71) rfl rfl ?_
    show Steps p.tables e below (T323.setTop (mkF m 72 L_309 [(.ref a0), (.long s0)])) _
    refine st337 _ ?_
    refine XS.iloadN X337.here hx rfl (hb hby d13_75) rfl ?_
    show Steps p.tables e below (T337.setTop (mkF m 76 L_309 [(.int (0 : Int32)), (.ref br), (.long s0)])) _
    refine X337.laload hx (j := (0 : Int32)) (v := (.long r0)) (by rw [e337]; exact Ar338.1) (State.isArrayOf_alike hZ.alike Ar338.2.1) Ar338.2.2 hin339 hat340 (g := (mkF m 76 L_309 [(.int (0 : Int32)), (.ref br), (.long s0)])) rfl rfl (hb hby d13_76) _ ?_
    refine XS.lcmp X337.here hx rfl (hb hby d13_77) rfl ?_
    exact k)
  obtain ⟨T406, h406, L406, X406, e406, N406, Z406, hk, K406, f406_0, f406_1, f406_2, f406_3, f406_4, f406_5, f406_6, f406_7, pre406⟩ : ∃ (T406 : State) (h406 : Heap) (L406 : List Loc), Stand p l e rr13_1 (s.setVm T299.vm) m #[(.ref a0), (.ref a1)] below meth c T406 L406 2 24 ∧ T406.heap = h406 ∧ Fr n0 L406 ∧ n0 ≤ h406.size ∧ T299.heap.size ≤ h406.size ∧ Keep h0 h406 [bw, br] ∧ Exa Z h406 a0 "com/example/stowline/stowline/VolumeBound" ∧ Fld Z h406 a0 "com/example/stowline/stowline/VolumeBound" "capacities" "[J" (.ref bc) ∧ Fld Z h406 a0 "com/example/stowline/stowline/VolumeBound" "wholeCapacities" "[J" (.ref bw) ∧ Fld Z h406 a0 "com/example/stowline/stowline/VolumeBound" "remainders" "[J" (.ref br) ∧ Arv Z h406 bc k_bc .long (1 : Int32) [(.long c0)] (.long (0 : Int64)) ∧ Arv Z h406 bw k_bw .long (1 : Int32) [(.long (j13_1_0 w0 r0 s0))] (.long (0 : Int64)) ∧ Arv Z h406 br k_br .long (1 : Int32) [(.long (j13_1_1 c0 r0 s0))] (.long (0 : Int64)) ∧ Arv Z h406 a1 k_a1 .long (1 : Int32) [(.long s0)] (.long (0 : Int64)) ∧ ∀ t, Steps p.tables e below (T406.setTop (mkF m 125 L_309 [])) t → Steps p.tables e below (s₁.setTop (entryFrame m #[(.ref a0), (.ref a1)] 3)) t := by
    by_cases hc407 : r0 < s0
    · skip
      obtain ⟨T408, X408, e408, st408⟩ := getF X337 hx hZ hown (host := "") (Or.inl (own_m hw 54 rfl)) Via.refl e337 f303 (g := (mkF m 82 L_309 [(.ref a0)])) rfl rfl (hb hby d13_82)
      obtain ⟨cl409, Ar409, q409, S409, M409, H409, G409⟩ := id f306
      have hin410 : ¬ ((0 : Int32) < 0 ∨ cl409.slots.size ≤ ((0 : Int32)).toNatClampNeg) := inb_of S409 ⟨by decide, by decide⟩
      have hat411 : cl409.slots[((0 : Int32)).toNatClampNeg]? = some (.long w0) := H409.at hin410 rfl
      obtain ⟨cl412, Ar412, q412, S412, M412, H412, G412⟩ := id f306
      have hin413 : ¬ ((0 : Int32) < 0 ∨ cl412.slots.size ≤ ((0 : Int32)).toNatClampNeg) := inb_of S412 ⟨by decide, by decide⟩
      obtain ⟨T414, h414, X414, e414, W414, st414⟩ := stJ X408 hx hZ e408 Ar412 (j := (0 : Int32)) hin413 (g := (mkF m 90 L_309 [(.long (w0 - (1 : Int64))), (.int (0 : Int32)), (.ref bw)])) rfl rfl (hb hby d13_90)
      have V414 : Arv Z h414 bw k_bw .long (1 : Int32) [(.long (w0 - (1 : Int64)))] (.long (0 : Int64)) := Arv.set Ar412 q412 S412 M412 H412 G412 rfl W414 0 rfl (Nat.le_of_ble_eq_true rfl)
      have f415 := f301.wr W414
      have f416 := f302.other W414 (Or.inl ne_a0_bw)
      have f417 := f303.other W414 (Or.inl ne_a0_bw)
      have f418 := f304.other W414 (Or.inl ne_a0_bw)
      have f419 := f305.other W414 ne_bc_bw
      have f421 := f307.other W414 (Ne.symm ne_bw_br)
      have f422 := f308.other W414 ne_a1_bw
      have K423 := K299.wr W414 (Or.inl (List.mem_of_getElem? (i := 0) rfl))
      have Z424 := Nat.le_trans Z299 (Keep.of_wr W414).1
      have hk := Nat.le_trans hk (Keep.of_wr W414).1
      have N425 := Fr.snoc X414 N323 g_bw
      obtain ⟨T426, X426, e426, st426⟩ := getF X414 hx hZ hown (host := "") (Or.inl (own_m hw 56 rfl)) Via.refl e414 f418 (g := (mkF m 92 L_309 [(.ref a0)])) rfl rfl (hb hby d13_92)
      obtain ⟨cl427, Ar427, q427, S427, M427, H427, G427⟩ := id f421
      have hin428 : ¬ ((0 : Int32) < 0 ∨ cl427.slots.size ≤ ((0 : Int32)).toNatClampNeg) := inb_of S427 ⟨by decide, by decide⟩
      have hat429 : cl427.slots[((0 : Int32)).toNatClampNeg]? = some (.long r0) := H427.at hin428 rfl
      obtain ⟨T430, X430, e430, st430⟩ := getF X426 hx hZ hown (host := "") (Or.inl (own_m hw 52 rfl)) Via.refl e426 f416 (g := (mkF m 99 L_309 [(.ref a0), (.long r0), (.int (0 : Int32)), (.ref br)])) rfl rfl (hb hby d13_99)
      obtain ⟨cl431, Ar431, q431, S431, M431, H431, G431⟩ := id f419
      have hin432 : ¬ ((0 : Int32) < 0 ∨ cl431.slots.size ≤ ((0 : Int32)).toNatClampNeg) := inb_of S431 ⟨by decide, by decide⟩
      have hat433 : cl431.slots[((0 : Int32)).toNatClampNeg]? = some (.long c0) := H431.at hin432 rfl
      obtain ⟨cl434, Ar434, q434, S434, M434, H434, G434⟩ := id f422
      have hin435 : ¬ ((0 : Int32) < 0 ∨ cl434.slots.size ≤ ((0 : Int32)).toNatClampNeg) := inb_of S434 ⟨by decide, by decide⟩
      have hat436 : cl434.slots[((0 : Int32)).toNatClampNeg]? = some (.long s0) := H434.at hin435 rfl
      obtain ⟨cl437, Ar437, q437, S437, M437, H437, G437⟩ := id f421
      have hin438 : ¬ ((0 : Int32) < 0 ∨ cl437.slots.size ≤ ((0 : Int32)).toNatClampNeg) := inb_of S437 ⟨by decide, by decide⟩
      obtain ⟨T439, h439, X439, e439, W439, st439⟩ := stJ X430 hx hZ e430 Ar437 (j := (0 : Int32)) hin438 (g := (mkF m 109 L_309 [(.long (r0 + (c0 - s0))), (.int (0 : Int32)), (.ref br)])) rfl rfl (hb hby d13_109)
      have V439 : Arv Z h439 br k_br .long (1 : Int32) [(.long (r0 + (c0 - s0)))] (.long (0 : Int64)) := Arv.set Ar437 q437 S437 M437 H437 G437 rfl W439 0 rfl (Nat.le_of_ble_eq_true rfl)
      have f440 := f415.wr W439
      have f441 := f416.other W439 (Or.inl ne_a0_br)
      have f442 := f417.other W439 (Or.inl ne_a0_br)
      have f443 := f418.other W439 (Or.inl ne_a0_br)
      have f444 := f419.other W439 ne_bc_br
      have f445 := V414.other W439 ne_bw_br
      have f447 := f422.other W439 ne_a1_br
      have K448 := K423.wr W439 (Or.inl (List.mem_of_getElem? (i := 1) rfl))
      have Z449 := Nat.le_trans Z424 (Keep.of_wr W439).1
      have hk := Nat.le_trans hk (Keep.of_wr W439).1
      have N450 := Fr.snoc X439 N425 g_br
      have pre451 := fun (t : State) (k : Steps p.tables e below (T439.setTop (mkF m 125 L_309 [])) t) => pre405 t (by
        show Steps p.tables e below (T337.setTop (mkF m 78 L_309 [(.int (lcmpW s0 r0))])) _
        refine XS.ifNo X337.here hx rfl (hb hby d13_78) rfl ((if0 _ _).trans (tlt ((own_gt s0 r0).mpr hc407)).2.2.2) ?_
        refine XS.aloadN X337.here hx rfl (hb hby d13_81) rfl rfl ?_
        show Steps p.tables e below (T337.setTop (mkF m 82 L_309 [(.ref a0)])) _
        refine st408 _ ?_
        refine XS.iloadN X408.here hx rfl (hb hby d13_85) rfl ?_
        show Steps p.tables e below (T408.setTop (mkF m 86 L_309 [(.int (0 : Int32)), (.ref bw)])) _
        refine XT.dup2 X408.here hx rfl (hb hby d13_86) rfl rfl rfl ?_
        show Steps p.tables e below (T408.setTop (mkF m 87 L_309 [(.int (0 : Int32)), (.ref bw), (.int (0 : Int32)), (.ref bw)])) _
        refine X408.laload hx (j := (0 : Int32)) (v := (.long w0)) (by rw [e408]; exact Ar409.1) (State.isArrayOf_alike hZ.alike Ar409.2.1) Ar409.2.2 hin410 hat411 (g := (mkF m 87 L_309 [(.int (0 : Int32)), (.ref bw), (.int (0 : Int32)), (.ref bw)])) rfl rfl (hb hby d13_87) _ ?_
        refine XS.lconst X408.here hx rfl (hb hby d13_88) ?_
        refine XS.lsub X408.here hx rfl (hb hby d13_89) rfl ?_
        show Steps p.tables e below (T408.setTop (mkF m 90 L_309 [(.long (w0 - (1 : Int64))), (.int (0 : Int32)), (.ref bw)])) _
        refine st414 _ ?_
        refine XS.aloadN X414.here hx rfl (hb hby d13_91) rfl rfl ?_
        show Steps p.tables e below (T414.setTop (mkF m 92 L_309 [(.ref a0)])) _
        refine st426 _ ?_
        refine XS.iloadN X426.here hx rfl (hb hby d13_95) rfl ?_
        show Steps p.tables e below (T426.setTop (mkF m 96 L_309 [(.int (0 : Int32)), (.ref br)])) _
        refine XT.dup2 X426.here hx rfl (hb hby d13_96) rfl rfl rfl ?_
        show Steps p.tables e below (T426.setTop (mkF m 97 L_309 [(.int (0 : Int32)), (.ref br), (.int (0 : Int32)), (.ref br)])) _
        refine X426.laload hx (j := (0 : Int32)) (v := (.long r0)) (by rw [e426]; exact Ar427.1) (State.isArrayOf_alike hZ.alike Ar427.2.1) Ar427.2.2 hin428 hat429 (g := (mkF m 97 L_309 [(.int (0 : Int32)), (.ref br), (.int (0 : Int32)), (.ref br)])) rfl rfl (hb hby d13_97) _ ?_
        refine XS.aloadN X426.here hx rfl (hb hby d13_98) rfl rfl ?_
        show Steps p.tables e below (T426.setTop (mkF m 99 L_309 [(.ref a0), (.long r0), (.int (0 : Int32)), (.ref br)])) _
        refine st430 _ ?_
        refine XS.iloadN X430.here hx rfl (hb hby d13_102) rfl ?_
        show Steps p.tables e below (T430.setTop (mkF m 103 L_309 [(.int (0 : Int32)), (.ref bc), (.long r0), (.int (0 : Int32)), (.ref br)])) _
        refine X430.laload hx (j := (0 : Int32)) (v := (.long c0)) (by rw [e430]; exact Ar431.1) (State.isArrayOf_alike hZ.alike Ar431.2.1) Ar431.2.2 hin432 hat433 (g := (mkF m 103 L_309 [(.int (0 : Int32)), (.ref bc), (.long r0), (.int (0 : Int32)), (.ref br)])) rfl rfl (hb hby d13_103) _ ?_
        refine XS.aloadN X430.here hx rfl (hb hby d13_104) rfl rfl ?_
        refine XS.iloadN X430.here hx rfl (hb hby d13_105) rfl ?_
        show Steps p.tables e below (T430.setTop (mkF m 106 L_309 [(.int (0 : Int32)), (.ref a1), (.long c0), (.long r0), (.int (0 : Int32)), (.ref br)])) _
        refine X430.laload hx (j := (0 : Int32)) (v := (.long s0)) (by rw [e430]; exact Ar434.1) (State.isArrayOf_alike hZ.alike Ar434.2.1) Ar434.2.2 hin435 hat436 (g := (mkF m 106 L_309 [(.int (0 : Int32)), (.ref a1), (.long c0), (.long r0), (.int (0 : Int32)), (.ref br)])) rfl rfl (hb hby d13_106) _ ?_
        refine XS.lsub X430.here hx rfl (hb hby d13_107) rfl ?_
        refine XS.ladd X430.here hx rfl (hb hby d13_108) rfl ?_
        show Steps p.tables e below (T430.setTop (mkF m 109 L_309 [(.long (r0 + (c0 - s0))), (.int (0 : Int32)), (.ref br)])) _
        refine st439 _ ?_
        refine XS.goto X439.here hx rfl (pc0 := 110) (pc' := 125) rfl (hb hby d13_110) (by decide) (by decide) ?_
        exact k)
      have hj452 : (j13_1_0 w0 r0 s0) = (w0 - (1 : Int64)) := by unfold j13_1_0; first | (rw [if_pos hc407]) | (simp only [if_pos hc407])
      have hj453 : (j13_1_1 c0 r0 s0) = (r0 + (c0 - s0)) := by unfold j13_1_1; first | (rw [if_pos hc407]) | (simp only [if_pos hc407])
      exact ⟨T439, h439, _, X439, e439, N450, Z449, hk, K448, f440, f441, f442, f443, f444, (by rw [hj452]; exact f445), (by rw [hj453]; exact V439), f447, fun t k => pre451 t (by exact k)⟩
    · skip
      obtain ⟨T454, X454, e454, st454⟩ := getF X337 hx hZ hown (host := "") (Or.inl (own_m hw 56 rfl)) Via.refl e337 f304 (g := (mkF m 114 L_309 [(.ref a0)])) rfl rfl (hb hby d13_114)
      obtain ⟨cl455, Ar455, q455, S455, M455, H455, G455⟩ := id f307
      have hin456 : ¬ ((0 : Int32) < 0 ∨ cl455.slots.size ≤ ((0 : Int32)).toNatClampNeg) := inb_of S455 ⟨by decide, by decide⟩
      have hat457 : cl455.slots[((0 : Int32)).toNatClampNeg]? = some (.long r0) := H455.at hin456 rfl
      obtain ⟨cl458, Ar458, q458, S458, M458, H458, G458⟩ := id f308
      have hin459 : ¬ ((0 : Int32) < 0 ∨ cl458.slots.size ≤ ((0 : Int32)).toNatClampNeg) := inb_of S458 ⟨by decide, by decide⟩
      have hat460 : cl458.slots[((0 : Int32)).toNatClampNeg]? = some (.long s0) := H458.at hin459 rfl
      obtain ⟨cl461, Ar461, q461, S461, M461, H461, G461⟩ := id f307
      have hin462 : ¬ ((0 : Int32) < 0 ∨ cl461.slots.size ≤ ((0 : Int32)).toNatClampNeg) := inb_of S461 ⟨by decide, by decide⟩
      obtain ⟨T463, h463, X463, e463, W463, st463⟩ := stJ X454 hx hZ e454 Ar461 (j := (0 : Int32)) hin462 (g := (mkF m 124 L_309 [(.long (r0 - s0)), (.int (0 : Int32)), (.ref br)])) rfl rfl (hb hby d13_124)
      have V463 : Arv Z h463 br k_br .long (1 : Int32) [(.long (r0 - s0))] (.long (0 : Int64)) := Arv.set Ar461 q461 S461 M461 H461 G461 rfl W463 0 rfl (Nat.le_of_ble_eq_true rfl)
      have f464 := f301.wr W463
      have f465 := f302.other W463 (Or.inl ne_a0_br)
      have f466 := f303.other W463 (Or.inl ne_a0_br)
      have f467 := f304.other W463 (Or.inl ne_a0_br)
      have f468 := f305.other W463 ne_bc_br
      have f469 := f306.other W463 ne_bw_br
      have f471 := f308.other W463 ne_a1_br
      have K472 := K299.wr W463 (Or.inl (List.mem_of_getElem? (i := 1) rfl))
      have Z473 := Nat.le_trans Z299 (Keep.of_wr W463).1
      have hk := Nat.le_trans hk (Keep.of_wr W463).1
      have N474 := Fr.snoc X463 N323 g_br
      have pre475 := fun (t : State) (k : Steps p.tables e below (T463.setTop (mkF m 125 L_309 [])) t) => pre405 t (by
        show Steps p.tables e below (T337.setTop (mkF m 78 L_309 [(.int (lcmpW s0 r0))])) _
        refine XS.ifYes X337.here hx rfl (pc0 := 78) (pc' := 113) rfl (hb hby d13_78) rfl ((if0 _ _).trans (flt (mt (own_gt s0 r0).mp hc407)).2.2.2) (by decide) (by decide) ?_
        refine XS.aloadN X337.here hx rfl (hb hby d13_113) rfl rfl ?_
        show Steps p.tables e below (T337.setTop (mkF m 114 L_309 [(.ref a0)])) _
        refine st454 _ ?_
        refine XS.iloadN X454.here hx rfl (hb hby d13_117) rfl ?_
        show Steps p.tables e below (T454.setTop (mkF m 118 L_309 [(.int (0 : Int32)), (.ref br)])) _
        refine XT.dup2 X454.here hx rfl (hb hby d13_118) rfl rfl rfl ?_
        show Steps p.tables e below (T454.setTop (mkF m 119 L_309 [(.int (0 : Int32)), (.ref br), (.int (0 : Int32)), (.ref br)])) _
        refine X454.laload hx (j := (0 : Int32)) (v := (.long r0)) (by rw [e454]; exact Ar455.1) (State.isArrayOf_alike hZ.alike Ar455.2.1) Ar455.2.2 hin456 hat457 (g := (mkF m 119 L_309 [(.int (0 : Int32)), (.ref br), (.int (0 : Int32)), (.ref br)])) rfl rfl (hb hby d13_119) _ ?_
        refine XS.aloadN X454.here hx rfl (hb hby d13_120) rfl rfl ?_
        refine XS.iloadN X454.here hx rfl (hb hby d13_121) rfl ?_
        show Steps p.tables e below (T454.setTop (mkF m 122 L_309 [(.int (0 : Int32)), (.ref a1), (.long r0), (.int (0 : Int32)), (.ref br)])) _
        refine X454.laload hx (j := (0 : Int32)) (v := (.long s0)) (by rw [e454]; exact Ar458.1) (State.isArrayOf_alike hZ.alike Ar458.2.1) Ar458.2.2 hin459 hat460 (g := (mkF m 122 L_309 [(.int (0 : Int32)), (.ref a1), (.long r0), (.int (0 : Int32)), (.ref br)])) rfl rfl (hb hby d13_122) _ ?_
        refine XS.lsub X454.here hx rfl (hb hby d13_123) rfl ?_
        show Steps p.tables e below (T454.setTop (mkF m 124 L_309 [(.long (r0 - s0)), (.int (0 : Int32)), (.ref br)])) _
        refine st463 _ ?_
        exact k)
      have hj476 : (j13_1_0 w0 r0 s0) = w0 := by unfold j13_1_0; first | (rw [if_neg hc407]) | (simp only [if_neg hc407])
      have hj477 : (j13_1_1 c0 r0 s0) = (r0 - s0) := by unfold j13_1_1; first | (rw [if_neg hc407]) | (simp only [if_neg hc407])
      exact ⟨T463, h463, _, X463, e463, N474, Z473, hk, K472, f464, f465, f466, f467, f468, (by rw [hj476]; exact f469), (by rw [hj477]; exact V463), f471, fun t k => pre475 t (by exact k)⟩
  obtain ⟨cl478, Ar478, q478, S478, M478, H478, G478⟩ := id f406_7
  obtain ⟨fs, hr, hrun, hended, hRW⟩ := X406.leaveW hS (own_hk hk e406) (v := none) (fun _ => rfl)
  refine ⟨_, _, pre406 _ ?_, hrun, hended, _, _, rfl, ?_, hRW.1, hRW.2.1, hRW.2.2.1, hRW.2.2.2.mono (by decide) (by decide)⟩
  · skip
    show Steps p.tables e below (T406.setTop (mkF m 125 L_309 [])) _
    refine XS.iinc X406.here hx rfl (hb hby d13_125) rfl (l' := L_331) rfl ?_
    refine XS.goto X406.here hx rfl (pc0 := 128) (pc' := 62) rfl (hb hby d13_128) (by decide) (by decide) ?_
    refine XS.iloadN X406.here hx rfl (hb hby d13_62) rfl ?_
    refine XS.aloadN X406.here hx rfl (hb hby d13_63) rfl rfl ?_
    show Steps p.tables e below (T406.setTop (mkF m 64 L_331 [(.ref a1), (.int (1 : Int32))])) _
    refine X406.arraylength hx (by rw [e406]; exact Ar478.1) (State.isArrayOf_alike hZ.alike Ar478.2.1) (g := (mkF m 64 L_331 [(.ref a1), (.int (1 : Int32))])) rfl rfl (hb hby d13_64) _ ?_
    rw [len_of S478 M478]
    refine XS.icmpYes X406.here hx rfl (pc0 := 65) (pc' := 131) rfl (hb hby d13_65) rfl (flt (by decide : ¬ ((1 : Int32) < (1 : Int32)))).2.1 (by decide) (by decide) ?_
    show Steps p.tables e below (T406.setTop (mkF m 131 L_331 [])) _
    exact X406.returnOut hx Bd.returns (hb hby d13_131) hr
  · show Q13_1 Z a0 a1 bc bw br c0 w0 r0 s0 k_bc k_bw k_br k_a1 h0 n0 _ T406.heap _
    rw [e406]
    exact ⟨rfl, N406, K406, f406_5, f406_6⟩
theorem ef5_2 (m : MethodId) (x0 : Addr) : entryFrame m #[(.ref x0)] 2 = mkF m 0 #[.val (.ref x0), .unset] [] := by first | (simp [entryFrame, mkF, argsToLocals, Value.category]; done) | rfl
abbrev rr5_2 : Room := { frames := 1, cells := 3, slots := 46, locals := 14 }
def Q5_2 (Z : State) (a0 : Addr) (c0 : Int64) (c1 : Int64) (k_a0 : ClassId) (h0 : Heap) (n0 : Nat) (v : Option Value) (h : Heap) (L : List Loc) : Prop := ∃ (x0 : Addr) (y0 : ClassId), v = some (.ref x0) ∧ Fr n0 L ∧ Keep h0 h [] ∧ n0 ≤ x0 ∧ h0.size ≤ x0 ∧ Arv Z h x0 y0 .long (2 : Int32) [(.long c0), (.long c1)] (.long (0 : Int64)) ∧ Exa Z h x0 "[J"
set_option maxRecDepth 65536 in
set_option maxHeartbeats 40000000 in
theorem rm5_2 (l : Launch) (Z : State) (aw : Array Value) (hw : ∀ d ∈ tables_1, d.before aw Z = true) (ws : List Jvm.Cond) (a0 : Addr) (c0 : Int64) (c1 : Int64) (k_a0 : ClassId) (h0 : Heap) (n0 : Nat) (Z0 : n0 ≤ h0.size) (V_a0 : Arv Z h0 a0 k_a0 .long (2 : Int32) [(.long c0), (.long c1)] (.long (0 : Int64))) (E_a0 : Exa Z h0 a0 "[J") (hc0 : ¬ c0 < (1 : Int64)) (hc1 : ¬ c1 < (1 : Int64)) :
    MetFree l (⟨"com/example/stowline/stowline/Capacities", "checkedCopy", "([J)[J"⟩ : MethodName) (head1 (Jvm.Cond.code (⟨"com/example/stowline/stowline/Capacities", "checkedCopy", "([J)[J"⟩ : MethodName) prog_4_method_2_code 2 (some (.array .long)) :: ws) rr5_2) (fun a U => a = #[(.ref a0)] ∧ Z.Warmed39 U.vm ∧ U.heap = h0) (fun _ _ _ _ _ => True) (fun _ U o U' => ∃ v L, o = .returned v ∧ Q5_2 Z a0 c0 c1 k_a0 h0 n0 v U'.heap L ∧ ReturnedEndW U o U' L rr5_2.cells rr5_2.slots) := by
  refine MetFree.of_bodySF (plainFor_of_name pn_2) hisR ?_
  intro p e s m args below meth c s₁ Bd hml0 hP hK
  obtain ⟨rfl, hZ, hh⟩ := hP
  have hx := Bd.exec
  have hby := Bd.bytes
  have hml : c.maxLocals = 2 := hml0
  have hown : s.vm.findClass "com/example/stowline/stowline/Capacities" = some m.cls := findClass_of_methodNamed Bd.named
  have hnm := (name_of_methodNamed Bd.named Bd.method).1
  have X0 : Stand p l e rr5_2 (s.setVm s.vm) m #[(.ref a0)] below meth c s₁ [] 0 0 := Stand.of_body Bd
  have e0 : s₁.heap = h0 := by rw [← hh, Bd.state]; rfl
  have N0 := Fr.nil n0
  have K0 := Keep.refl h0 []
  have hS : s.Since s.vm 0 := (State.WarmedH.refl s).since 0
  have hk : 0 ≤ h0.size := Nat.zero_le _
  have hstr : ∀ a ∈ Bundle.stringAtoms, a.before aw Z = true := fun d hd => hw d ((by decide +kernel : ∀ d ∈ Bundle.stringAtoms, d ∈ tables_1) d hd)
  have pre0 : ∀ t, Steps p.tables e below (s₁.setTop (mkF m 0 #[.val (.ref a0), .unset] [])) t → Steps p.tables e below (s₁.setTop (entryFrame m #[(.ref a0)] 2)) t := fun t k => castTop (ef5_2 m a0) k
  let L_479 : Array Slot := #[.val (.ref a0), .unset]
  have pre480 := fun (t : State) (k : Steps p.tables e below (s₁.setTop (mkF m 1 L_479 [(.ref a0)])) t) => pre0 t (by
    show Steps p.tables e below (s₁.setTop (mkF m 0 L_479 [])) _
    refine XS.aloadN X0.here hx rfl (hb hby d5_0) rfl rfl ?_
    exact k)
  obtain ⟨a481, T481, h481, k481, X481, e481, E481, hS, hk, hZ, hown, st481⟩ := ldcS X0 hx hZ hown (own_m hw 31 rfl) hstr e0 hS hk (g := (mkF m 1 L_479 [(.ref a0)])) rfl (hb hby d5_1) (n := 40) (by decide) (by decide) (by decide) (by decide)
  have f482 := V_a0.ext E481
  have f483 := E_a0.ext E481
  have K484 := K0.ext E481
  have Z485 := Nat.le_trans Z0 E481.1
  obtain ⟨_, _, ⟨T486, L486, k486, n486⟩, -, X486, ⟨Lc486, hQ486, l486, y486, z486⟩, st486⟩ := Jvm.LawKit.callS X481 hx (y := (⟨"java/util/Objects", "requireNonNull", "(Ljava/lang/Object;Ljava/lang/String;)Ljava/lang/Object;"⟩ : MethodName)) hown (mvT hZ (own_m hw 39 rfl)) (mvT hZ (own_m hw 40 rfl)) (mvT hZ (own_m hw 41 rfl)) (mvT hZ (own_m hw 42 rfl)) (by decide) (backOf (W := 0) (rm6 l Z aw hw [] a0 a481 h481 n0 Z485 ) hZ (own_m hw 42 rfl) (own_m hw 41 rfl) (by decide) (by decide)) (g := (mkF m 3 L_479 [(.ref a481), (.ref a0)])) rfl (by rw [hml]; rfl) (argsL := [(.ref a0), (.ref a481)]) (rest := []) (lenOf pd_1 rfl) rfl (by show 2 * 0 + _ ≤ _; exact Nat.le_of_eq rfl) (hb hby d5_3) (fun _ _ => ⟨rfl, e481, (by decide : 2 + 0 ≤ _), (by decide : 44 + 0 ≤ _)⟩)
  dsimp only [Pt.U, Pt.locs, Pt.cells, Pt.slots] at X486 l486 y486 z486 st486 hQ486
  subst l486 y486 z486
  obtain ⟨rfl, N486q, e486⟩ := hQ486
  have N486 := Fr.app N0 N486q
  obtain ⟨cl487, Ar487, q487, S487, M487, H487, G487⟩ := id f482
  let L_488 : Array Slot := #[.val (.ref a0), .val (.int (0 : Int32))]
  obtain ⟨cl489, Ar489, q489, S489, M489, H489, G489⟩ := id f482
  obtain ⟨cl490, Ar490, q490, S490, M490, H490, G490⟩ := id f482
  have hin491 : ¬ ((0 : Int32) < 0 ∨ cl490.slots.size ≤ ((0 : Int32)).toNatClampNeg) := inb_of S490 ⟨by decide, by decide⟩
  have hat492 : cl490.slots[((0 : Int32)).toNatClampNeg]? = some (.long c0) := H490.at hin491 rfl
  let L_493 : Array Slot := #[.val (.ref a0), .val (.int (1 : Int32))]
  obtain ⟨cl494, Ar494, q494, S494, M494, H494, G494⟩ := id f482
  obtain ⟨cl495, Ar495, q495, S495, M495, H495, G495⟩ := id f482
  have hin496 : ¬ ((1 : Int32) < 0 ∨ cl495.slots.size ≤ ((1 : Int32)).toNatClampNeg) := inb_of S495 ⟨by decide, by decide⟩
  have hat497 : cl495.slots[((1 : Int32)).toNatClampNeg]? = some (.long c1) := H495.at hin496 rfl
  let L_498 : Array Slot := #[.val (.ref a0), .val (.int (2 : Int32))]
  obtain ⟨cl499, Ar499, q499, S499, M499, H499, G499⟩ := id f482
  obtain ⟨cl501, Ar501, q501, S501, M501, H501, G501⟩ := id f482
  obtain ⟨T500, h500, X500, e500, E500, A500, B500, st500⟩ := cloneA X486 hx hZ hown (own_m hw 43 rfl) (own_m hw 44 rfl) (own_m hw 48 rfl) (own_m hw 46 rfl) (own_m hw 47 rfl) (own_m hw 49 rfl) e486 Ar501 f483 (fitC_of Ar501 fun i hi v hv => by rw [H501 i hi] at hv; cases hv; exact G501 i hi) (g := (mkF m 62 L_498 [(.ref a0)])) rfl (by rw [hml]; rfl) rfl (hb hby d5_62) (by decide) (W := 0) (cap := 2) (by show 2 * 0 + _ ≤ _; exact Nat.le_of_eq rfl) (by decide) (by rw [S501]; decide) (by decide) (by decide)
  obtain ⟨b500, gg500⟩ : ∃ z, z = h481.size := ⟨_, rfl⟩
  rw [← gg500] at A500 B500 st500
  have f502 := f482.ext E500
  have f503 := f483.ext E500
  have ne504 : a0 ≠ b500 := Nat.ne_of_lt (Nat.lt_of_lt_of_le f482.lt (Nat.le_of_eq gg500.symm))
  have g_b500 : n0 ≤ b500 := Nat.le_trans Z485 (Nat.le_of_eq gg500.symm)
  have sz_b500 : h0.size ≤ b500 := Nat.le_trans K484.1 (Nat.le_of_eq gg500.symm)
  have K505 := K484.ext E500
  have Z506 := Nat.le_trans Z485 E500.1
  have hk := Nat.le_trans hk E500.1
  have V500 : Arv Z h500 b500 k_a0 .long (2 : Int32) [(.long c0), (.long c1)] (.long (0 : Int64)) := ⟨cloneOf cl501, A500, q501, S501, M501, H501, G501⟩
  obtain ⟨T507, X507, e507, st507⟩ := castY X500 hx hZ hown (own_m hw 50 rfl) e500 (Ins.self B500) (g := (mkF m 65 L_498 [(.ref b500)])) rfl rfl (hb hby d5_65)
  obtain ⟨fs, hr, hrun, hended, hRW⟩ := X507.leaveW hS (own_hk hk e507) (v := some (.ref b500)) (fun h => by rw [Bd.returns] at h; cases h)
  refine ⟨_, _, pre480 _ ?_, hrun, hended, _, _, rfl, ?_, hRW.1, hRW.2.1, hRW.2.2.1, hRW.2.2.2.mono (by decide) (by decide)⟩
  · skip
    show Steps p.tables e below (s₁.setTop (mkF m 1 L_479 [(.ref a0)])) _
    refine st481 _ ?_
    show Steps p.tables e below (T481.setTop (mkF m 3 L_479 [(.ref a481), (.ref a0)])) _
    refine st486 _ ?_
    refine XS.pop X486.here hx rfl (hb hby d5_6) rfl rfl ?_
    refine XS.aloadN X486.here hx rfl (hb hby d5_7) rfl rfl ?_
    show Steps p.tables e below (T486.setTop (mkF m 8 L_479 [(.ref a0)])) _
    refine X486.arraylength hx (by rw [e486]; exact Ar487.1) (State.isArrayOf_alike hZ.alike Ar487.2.1) (g := (mkF m 8 L_479 [(.ref a0)])) rfl rfl (hb hby d5_8) _ ?_
    rw [len_of S487 M487]
    refine XS.ifYes X486.here hx rfl (pc0 := 9) (pc' := 22) rfl (hb hby d5_9) rfl ((if0 _ _).trans (feq (by decide : ¬ ((2 : Int32) = (0 : Int32)))).2) (by decide) (by decide) ?_
    refine XS.iconst X486.here hx rfl (hb hby d5_22) ?_
    refine XS.istoreN X486.here hx rfl (hb hby d5_23) rfl (l' := L_488) rfl ?_
    refine XS.iloadN X486.here hx rfl (hb hby d5_24) rfl ?_
    refine XS.aloadN X486.here hx rfl (hb hby d5_25) rfl rfl ?_
    show Steps p.tables e below (T486.setTop (mkF m 26 L_488 [(.ref a0), (.int (0 : Int32))])) _
    refine X486.arraylength hx (by rw [e486]; exact Ar489.1) (State.isArrayOf_alike hZ.alike Ar489.2.1) (g := (mkF m 26 L_488 [(.ref a0), (.int (0 : Int32))])) rfl rfl (hb hby d5_26) _ ?_
    rw [len_of S489 M489]
    refine XS.icmpNo X486.here hx rfl (hb hby d5_27) rfl (tlt (by decide : (0 : Int32) < (2 : Int32))).2.1 ?_
    refine XS.aloadN X486.here hx rfl (hb hby d5_30) rfl rfl ?_
    refine XS.iloadN X486.here hx rfl (hb hby d5_31) rfl ?_
    show Steps p.tables e below (T486.setTop (mkF m 32 L_488 [(.int (0 : Int32)), (.ref a0)])) _
    refine X486.laload hx (j := (0 : Int32)) (v := (.long c0)) (by rw [e486]; exact Ar490.1) (State.isArrayOf_alike hZ.alike Ar490.2.1) Ar490.2.2 hin491 hat492 (g := (mkF m 32 L_488 [(.int (0 : Int32)), (.ref a0)])) rfl rfl (hb hby d5_32) _ ?_
    refine XS.lconst X486.here hx rfl (hb hby d5_33) ?_
    refine XS.lcmp X486.here hx rfl (hb hby d5_34) rfl ?_
    refine XS.ifYes X486.here hx rfl (pc0 := 35) (pc' := 55) rfl (hb hby d5_35) rfl ((if0 _ _).trans (flt (mt (own_lt c0 (1 : Int64)).mp hc0)).2.1) (by decide) (by decide) ?_
    refine XS.iinc X486.here hx rfl (hb hby d5_55) rfl (l' := L_493) rfl ?_
    refine XS.goto X486.here hx rfl (pc0 := 58) (pc' := 24) rfl (hb hby d5_58) (by decide) (by decide) ?_
    show Steps p.tables e below (T486.setTop (mkF m 24 L_493 [])) _
    refine XS.iloadN X486.here hx rfl (hb hby d5_24) rfl ?_
    refine XS.aloadN X486.here hx rfl (hb hby d5_25) rfl rfl ?_
    show Steps p.tables e below (T486.setTop (mkF m 26 L_493 [(.ref a0), (.int (1 : Int32))])) _
    refine X486.arraylength hx (by rw [e486]; exact Ar494.1) (State.isArrayOf_alike hZ.alike Ar494.2.1) (g := (mkF m 26 L_493 [(.ref a0), (.int (1 : Int32))])) rfl rfl (hb hby d5_26) _ ?_
    rw [len_of S494 M494]
    refine XS.icmpNo X486.here hx rfl (hb hby d5_27) rfl (tlt (by decide : (1 : Int32) < (2 : Int32))).2.1 ?_
    refine XS.aloadN X486.here hx rfl (hb hby d5_30) rfl rfl ?_
    refine XS.iloadN X486.here hx rfl (hb hby d5_31) rfl ?_
    show Steps p.tables e below (T486.setTop (mkF m 32 L_493 [(.int (1 : Int32)), (.ref a0)])) _
    refine X486.laload hx (j := (1 : Int32)) (v := (.long c1)) (by rw [e486]; exact Ar495.1) (State.isArrayOf_alike hZ.alike Ar495.2.1) Ar495.2.2 hin496 hat497 (g := (mkF m 32 L_493 [(.int (1 : Int32)), (.ref a0)])) rfl rfl (hb hby d5_32) _ ?_
    refine XS.lconst X486.here hx rfl (hb hby d5_33) ?_
    refine XS.lcmp X486.here hx rfl (hb hby d5_34) rfl ?_
    refine XS.ifYes X486.here hx rfl (pc0 := 35) (pc' := 55) rfl (hb hby d5_35) rfl ((if0 _ _).trans (flt (mt (own_lt c1 (1 : Int64)).mp hc1)).2.1) (by decide) (by decide) ?_
    refine XS.iinc X486.here hx rfl (hb hby d5_55) rfl (l' := L_498) rfl ?_
    refine XS.goto X486.here hx rfl (pc0 := 58) (pc' := 24) rfl (hb hby d5_58) (by decide) (by decide) ?_
    show Steps p.tables e below (T486.setTop (mkF m 24 L_498 [])) _
    refine XS.iloadN X486.here hx rfl (hb hby d5_24) rfl ?_
    refine XS.aloadN X486.here hx rfl (hb hby d5_25) rfl rfl ?_
    show Steps p.tables e below (T486.setTop (mkF m 26 L_498 [(.ref a0), (.int (2 : Int32))])) _
    refine X486.arraylength hx (by rw [e486]; exact Ar499.1) (State.isArrayOf_alike hZ.alike Ar499.2.1) (g := (mkF m 26 L_498 [(.ref a0), (.int (2 : Int32))])) rfl rfl (hb hby d5_26) _ ?_
    rw [len_of S499 M499]
    refine XS.icmpYes X486.here hx rfl (pc0 := 27) (pc' := 61) rfl (hb hby d5_27) rfl (flt (by decide : ¬ ((2 : Int32) < (2 : Int32)))).2.1 (by decide) (by decide) ?_
    refine XS.aloadN X486.here hx rfl (hb hby d5_61) rfl rfl ?_
    show Steps p.tables e below (T486.setTop (mkF m 62 L_498 [(.ref a0)])) _
    refine st500 _ ?_
    show Steps p.tables e below (T500.setTop (mkF m 65 L_498 [(.ref b500)])) _
    refine st507 _ ?_
    show Steps p.tables e below (T507.setTop (mkF m 68 L_498 [(.ref b500)])) _
    exact retOut X507 hx Bd.returns rfl (Or.inr (Or.inr (Or.inr (Or.inr ⟨rfl, rfl, rfl⟩)))) (hb hby d5_68) hr
  · show Q5_2 Z a0 c0 c1 k_a0 h0 n0 _ T507.heap _
    rw [e507]
    exact ⟨b500, k_a0, rfl, N486, K505, g_b500, sz_b500, V500, B500⟩
theorem ef3_2 (m : MethodId) (x0 : Addr) (x1 : Addr) : entryFrame m #[(.ref x0), (.ref x1)] 2 = mkF m 0 #[.val (.ref x0), .val (.ref x1)] [] := by first | (simp [entryFrame, mkF, argsToLocals, Value.category]; done) | rfl
abbrev rr3_2 : Room := { frames := 2, cells := 5, slots := 50, locals := 28 }
def Q3_2 (Z : State) (a0 : Addr) (a1 : Addr) (c0 : Int64) (c1 : Int64) (k_a1 : ClassId) (h0 : Heap) (n0 : Nat) (v : Option Value) (h : Heap) (L : List Loc) : Prop := ∃ (x0 : Addr) (x1 : Addr) (x2 : Addr) (y0 : ClassId) (y1 : ClassId) (y2 : ClassId), v = none ∧ Fr n0 L ∧ Keep h0 h [a0] ∧ n0 ≤ x0 ∧ h0.size ≤ x0 ∧ n0 ≤ x1 ∧ h0.size ≤ x1 ∧ n0 ≤ x2 ∧ h0.size ≤ x2 ∧ x0 ≠ x1 ∧ x0 ≠ x2 ∧ x1 ≠ x2 ∧ Exa Z h a0 "com/example/stowline/stowline/VolumeBound" ∧ Fld Z h a0 "com/example/stowline/stowline/VolumeBound" "capacities" "[J" (.ref x0) ∧ Fld Z h a0 "com/example/stowline/stowline/VolumeBound" "wholeCapacities" "[J" (.ref x1) ∧ Fld Z h a0 "com/example/stowline/stowline/VolumeBound" "remainders" "[J" (.ref x2) ∧ Arv Z h x0 y0 .long (2 : Int32) [(.long c0), (.long c1)] (.long (0 : Int64)) ∧ Arv Z h x1 y1 .long (2 : Int32) [(.long (0 : Int64)), (.long (0 : Int64))] (.long (0 : Int64)) ∧ Arv Z h x2 y2 .long (2 : Int32) [(.long (0 : Int64)), (.long (0 : Int64))] (.long (0 : Int64))
set_option maxRecDepth 65536 in
set_option maxHeartbeats 40000000 in
theorem rm3_2 (l : Launch) (Z : State) (aw : Array Value) (hw : ∀ d ∈ tables_1, d.before aw Z = true) (ws : List Jvm.Cond) (a0 : Addr) (a1 : Addr) (c0 : Int64) (c1 : Int64) (k_a1 : ClassId) (h0 : Heap) (n0 : Nat) (Z0 : n0 ≤ h0.size) (E_a0 : Exa Z h0 a0 "com/example/stowline/stowline/VolumeBound") (F_capacities_a0 : Fld Z h0 a0 "com/example/stowline/stowline/VolumeBound" "capacities" "[J" .null) (F_wholeCapacities_a0 : Fld Z h0 a0 "com/example/stowline/stowline/VolumeBound" "wholeCapacities" "[J" .null) (F_remainders_a0 : Fld Z h0 a0 "com/example/stowline/stowline/VolumeBound" "remainders" "[J" .null) (V_a1 : Arv Z h0 a1 k_a1 .long (2 : Int32) [(.long c0), (.long c1)] (.long (0 : Int64))) (E_a1 : Exa Z h0 a1 "[J") (g_a0 : n0 ≤ a0) (ne_a0_a1 : a0 ≠ a1) (hc0 : ¬ c0 < (1 : Int64)) (hc1 : ¬ c1 < (1 : Int64)) :
    MetFree l (⟨"com/example/stowline/stowline/VolumeBound", "<init>", "([J)V"⟩ : MethodName) (head1 (Jvm.Cond.code (⟨"com/example/stowline/stowline/VolumeBound", "<init>", "([J)V"⟩ : MethodName) prog_29_method_1_code 2 none :: ws) rr3_2) (fun a U => a = #[(.ref a0), (.ref a1)] ∧ Z.Warmed39 U.vm ∧ U.heap = h0) (fun _ _ _ _ _ => True) (fun _ U o U' => ∃ v L, o = .returned v ∧ Q3_2 Z a0 a1 c0 c1 k_a1 h0 n0 v U'.heap L ∧ ReturnedEndW U o U' L rr3_2.cells rr3_2.slots) := by
  refine MetFree.of_bodySF (plainFor_of_name pn_3) hisR ?_
  intro p e s m args below meth c s₁ Bd hml0 hP hK
  obtain ⟨rfl, hZ, hh⟩ := hP
  have hx := Bd.exec
  have hby := Bd.bytes
  have hml : c.maxLocals = 2 := hml0
  have hown : s.vm.findClass "com/example/stowline/stowline/VolumeBound" = some m.cls := findClass_of_methodNamed Bd.named
  have hnm := (name_of_methodNamed Bd.named Bd.method).1
  have X0 : Stand p l e rr3_2 (s.setVm s.vm) m #[(.ref a0), (.ref a1)] below meth c s₁ [] 0 0 := Stand.of_body Bd
  have e0 : s₁.heap = h0 := by rw [← hh, Bd.state]; rfl
  have N0 := Fr.nil n0
  have K0 := Keep.refl h0 [a0]
  have hS : s.Since s.vm 0 := (State.WarmedH.refl s).since 0
  have hk : 0 ≤ h0.size := Nat.zero_le _
  have hstr : ∀ a ∈ Bundle.stringAtoms, a.before aw Z = true := fun d hd => hw d ((by decide +kernel : ∀ d ∈ Bundle.stringAtoms, d ∈ tables_1) d hd)
  have pre0 : ∀ t, Steps p.tables e below (s₁.setTop (mkF m 0 #[.val (.ref a0), .val (.ref a1)] [])) t → Steps p.tables e below (s₁.setTop (entryFrame m #[(.ref a0), (.ref a1)] 2)) t := fun t k => castTop (ef3_2 m a0 a1) k
  let L_508 : Array Slot := #[.val (.ref a0), .val (.ref a1)]
  obtain ⟨T509, X509, e509, st509⟩ := initO X0 hx hZ hown (own_m hw 24 rfl) (own_m hw 25 rfl) (own_m hw 26 rfl) e0 (g := (mkF m 1 L_508 [(.ref a0)])) rfl (by rw [hml]; rfl) rfl (hb hby d3_1) (by decide) (W := 0) (by show 2 * 0 + _ ≤ _; exact Nat.le_of_eq rfl) (by decide)
  have pre511 := fun (t : State) (k : Steps p.tables e below (T509.setTop (mkF m 6 L_508 [(.ref a1), (.ref a0)])) t) => pre0 t (by
    show Steps p.tables e below (s₁.setTop (mkF m 0 L_508 [])) _
    refine XS.aloadN X0.here hx rfl (hb hby d3_0) rfl rfl ?_
    show Steps p.tables e below (s₁.setTop (mkF m 1 L_508 [(.ref a0)])) _
    refine st509 _ ?_
    refine XS.aloadN X509.here hx rfl (hb hby d3_4) rfl rfl ?_
    refine XS.aloadN X509.here hx rfl (hb hby d3_5) rfl rfl ?_
    exact k)
  obtain ⟨_, _, ⟨T510, L510, k510, n510⟩, -, X510, hSi510, hgr510, ⟨Lc510, hQ510, l510, y510, z510⟩, st510⟩ := Jvm.RoadKit.callSS X509 hx (y := (⟨"com/example/stowline/stowline/Capacities", "checkedCopy", "([J)[J"⟩ : MethodName)) hown (mvT hZ (own_m hw 27 rfl)) (mvT hZ (own_m hw 28 rfl)) (mvT hZ (own_m hw 29 rfl)) (mvT hZ (own_m hw 30 rfl)) (by decide) (backOfS (W := 1) (rm5_2 l Z aw hw [] a1 c0 c1 k_a1 h0 n0 Z0 V_a1 E_a1 hc0 hc1) hZ (own_m hw 30 rfl) (own_m hw 29 rfl) (by decide) (by decide)) (g := (mkF m 6 L_508 [(.ref a1), (.ref a0)])) rfl (by rw [hml]; rfl) (argsL := [(.ref a1)]) (rest := [(.ref a0)]) (lenOf pd_3 rfl) rfl (by show 2 * 0 + _ ≤ _; exact Nat.le_of_eq rfl) (hb hby d3_6) (fun _ _ => ⟨rfl, e509, (by decide : 0 + 3 ≤ _), (by decide : 0 + 46 ≤ _)⟩)
  dsimp only [Pt.U, Pt.locs, Pt.cells, Pt.slots] at X510 l510 y510 z510 st510 hQ510 hSi510 hgr510
  subst l510 y510 z510
  obtain ⟨X510, hS, hZ, hown⟩ := rebS hS (show _ ≤ T509.heap.size from own_hk hk e509) X510 hSi510 hgr510 hZ hown
  obtain ⟨h510, e510⟩ : ∃ z, T510.heap = z := ⟨_, rfl⟩
  rw [e510] at hQ510
  obtain ⟨cx0510, cy0510, rfl, N510q, K510q, g_cx0510, zz_cx0510, f512, f513⟩ := hQ510
  have f514 := E_a0.keep K510q
  have f515 := F_capacities_a0.keep K510q nin0
  have f516 := F_wholeCapacities_a0.keep K510q nin0
  have f517 := F_remainders_a0.keep K510q nin0
  have f518 := V_a1.keep K510q nin0
  have f519 := E_a1.keep K510q
  have ne520 : a0 ≠ cx0510 := Nat.ne_of_lt (Nat.lt_of_lt_of_le E_a0.lt zz_cx0510)
  have ne521 : a1 ≠ cx0510 := Nat.ne_of_lt (Nat.lt_of_lt_of_le V_a1.lt zz_cx0510)
  have sz_cx0510 : h0.size ≤ cx0510 := Nat.le_trans K0.1 zz_cx0510
  have K510 := K0.trans K510q all0
  have Z510 := Nat.le_trans Z0 K510q.1
  have hk : T510.heap.size ≤ h510.size := by rw [e510]; exact Nat.le_refl _
  have N510 := Fr.app N0 N510q
  obtain ⟨T522, h522, X522, e522, W522, st522⟩ := putF X510 hx hZ hown (host := "") (Or.inl (own_m hw 52 rfl)) Via.refl e510 f515 f514 (Or.inr ⟨(own_m hw 53 rfl), rfl, hnm⟩) (own_m hw 19 rfl) (ty := (.array .long)) (by decide) rfl rfl (g := (mkF m 9 L_508 [(.ref cx0510), (.ref a0)])) rfl rfl (hb hby d3_9)
  have f522w : Fld Z h522 a0 "com/example/stowline/stowline/VolumeBound" "capacities" "[J" (.ref cx0510) := f515.same W522
  have f523 := f514.wr W522
  have f525 := f516.other W522 (Or.inr (slot_ne (Or.inr (own_m hw 55 rfl)) (Or.inr (own_m hw 53 rfl)) (by decide) (t := (.array .long)) (t' := (.array .long)) (by decide) (by decide)))
  have f526 := f517.other W522 (Or.inr (slot_ne (Or.inr (own_m hw 57 rfl)) (Or.inr (own_m hw 53 rfl)) (by decide) (t := (.array .long)) (t' := (.array .long)) (by decide) (by decide)))
  have f527 := f518.other W522 (Ne.symm ne_a0_a1)
  have f528 := f519.wr W522
  have f529 := f512.other W522 (Ne.symm ne520)
  have f530 := f513.wr W522
  have K531 := K510.wr W522 (Or.inl (List.mem_of_getElem? (i := 0) rfl))
  have Z532 := Nat.le_trans Z510 (Keep.of_wr W522).1
  have hk := Nat.le_trans hk (Keep.of_wr W522).1
  have N533 := Fr.snoc X522 N510 g_a0
  obtain ⟨cl534, Ar534, q534, S534, M534, H534, G534⟩ := id f527
  obtain ⟨T535, h535, k535, X535, e535, E535, A535, st535⟩ := newP X522 hx hZ (own_m hw 9 rfl) e522 (g := (mkF m 15 L_508 [(.int (2 : Int32)), (.ref a0)])) rfl (hb hby d3_15) rfl (by decide) (cap := 2) (by decide) (by decide) (by decide) (by decide)
  obtain ⟨b535, gg535⟩ : ∃ z, z = h522.size := ⟨_, rfl⟩
  rw [← gg535] at A535 st535
  have f536 := f523.ext E535
  have f537 := f522w.ext E535
  have f538 := f525.ext E535
  have f539 := f526.ext E535
  have f540 := f527.ext E535
  have f541 := f528.ext E535
  have f542 := f529.ext E535
  have f543 := f530.ext E535
  have ne544 : a0 ≠ b535 := Nat.ne_of_lt (Nat.lt_of_lt_of_le f523.lt (Nat.le_of_eq gg535.symm))
  have ne545 : a1 ≠ b535 := Nat.ne_of_lt (Nat.lt_of_lt_of_le f527.lt (Nat.le_of_eq gg535.symm))
  have ne546 : cx0510 ≠ b535 := Nat.ne_of_lt (Nat.lt_of_lt_of_le f529.lt (Nat.le_of_eq gg535.symm))
  have g_b535 : n0 ≤ b535 := Nat.le_trans Z532 (Nat.le_of_eq gg535.symm)
  have sz_b535 : h0.size ≤ b535 := Nat.le_trans K531.1 (Nat.le_of_eq gg535.symm)
  have K547 := K531.ext E535
  have Z548 := Nat.le_trans Z532 E535.1
  have hk := Nat.le_trans hk E535.1
  have V535 : Arv Z h535 b535 k535 .long (2 : Int32) [(.long (0 : Int64)), (.long (0 : Int64))] (.long (0 : Int64)) := (Arv.new A535 (by decide)).pad (pad_rep [] (.long (0 : Int64)) 2)
  obtain ⟨T549, h549, X549, e549, W549, st549⟩ := putF X535 hx hZ hown (host := "") (Or.inl (own_m hw 54 rfl)) Via.refl e535 f538 f536 (Or.inr ⟨(own_m hw 55 rfl), rfl, hnm⟩) (own_m hw 19 rfl) (ty := (.array .long)) (by decide) rfl rfl (g := (mkF m 17 L_508 [(.ref b535), (.ref a0)])) rfl rfl (hb hby d3_17)
  have f549w : Fld Z h549 a0 "com/example/stowline/stowline/VolumeBound" "wholeCapacities" "[J" (.ref b535) := f538.same W549
  have f550 := f536.wr W549
  have f551 := f537.other W549 (Or.inr (slot_ne (Or.inr (own_m hw 53 rfl)) (Or.inr (own_m hw 55 rfl)) (by decide) (t := (.array .long)) (t' := (.array .long)) (by decide) (by decide)))
  have f553 := f539.other W549 (Or.inr (slot_ne (Or.inr (own_m hw 57 rfl)) (Or.inr (own_m hw 55 rfl)) (by decide) (t := (.array .long)) (t' := (.array .long)) (by decide) (by decide)))
  have f554 := f540.other W549 (Ne.symm ne_a0_a1)
  have f555 := f541.wr W549
  have f556 := f542.other W549 (Ne.symm ne520)
  have f557 := f543.wr W549
  have f558 := V535.other W549 (Ne.symm ne544)
  have K559 := K547.wr W549 (Or.inl (List.mem_of_getElem? (i := 0) rfl))
  have Z560 := Nat.le_trans Z548 (Keep.of_wr W549).1
  have hk := Nat.le_trans hk (Keep.of_wr W549).1
  have N561 := Fr.snoc X549 N533 g_a0
  obtain ⟨cl562, Ar562, q562, S562, M562, H562, G562⟩ := id f554
  obtain ⟨T563, h563, k563, X563, e563, E563, A563, st563⟩ := newP X549 hx hZ (own_m hw 9 rfl) e549 (g := (mkF m 23 L_508 [(.int (2 : Int32)), (.ref a0)])) rfl (hb hby d3_23) rfl (by decide) (cap := 2) (by decide) (by decide) (by decide) (by decide)
  obtain ⟨b563, gg563⟩ : ∃ z, z = h549.size := ⟨_, rfl⟩
  rw [← gg563] at A563 st563
  have f564 := f550.ext E563
  have f565 := f551.ext E563
  have f566 := f549w.ext E563
  have f567 := f553.ext E563
  have f568 := f554.ext E563
  have f569 := f555.ext E563
  have f570 := f556.ext E563
  have f571 := f557.ext E563
  have f572 := f558.ext E563
  have ne573 : a0 ≠ b563 := Nat.ne_of_lt (Nat.lt_of_lt_of_le f550.lt (Nat.le_of_eq gg563.symm))
  have ne574 : a1 ≠ b563 := Nat.ne_of_lt (Nat.lt_of_lt_of_le f554.lt (Nat.le_of_eq gg563.symm))
  have ne575 : cx0510 ≠ b563 := Nat.ne_of_lt (Nat.lt_of_lt_of_le f556.lt (Nat.le_of_eq gg563.symm))
  have ne576 : b535 ≠ b563 := Nat.ne_of_lt (Nat.lt_of_lt_of_le f558.lt (Nat.le_of_eq gg563.symm))
  have g_b563 : n0 ≤ b563 := Nat.le_trans Z560 (Nat.le_of_eq gg563.symm)
  have sz_b563 : h0.size ≤ b563 := Nat.le_trans K559.1 (Nat.le_of_eq gg563.symm)
  have K577 := K559.ext E563
  have Z578 := Nat.le_trans Z560 E563.1
  have hk := Nat.le_trans hk E563.1
  have V563 : Arv Z h563 b563 k563 .long (2 : Int32) [(.long (0 : Int64)), (.long (0 : Int64))] (.long (0 : Int64)) := (Arv.new A563 (by decide)).pad (pad_rep [] (.long (0 : Int64)) 2)
  obtain ⟨T579, h579, X579, e579, W579, st579⟩ := putF X563 hx hZ hown (host := "") (Or.inl (own_m hw 56 rfl)) Via.refl e563 f567 f564 (Or.inr ⟨(own_m hw 57 rfl), rfl, hnm⟩) (own_m hw 19 rfl) (ty := (.array .long)) (by decide) rfl rfl (g := (mkF m 25 L_508 [(.ref b563), (.ref a0)])) rfl rfl (hb hby d3_25)
  have f579w : Fld Z h579 a0 "com/example/stowline/stowline/VolumeBound" "remainders" "[J" (.ref b563) := f567.same W579
  have f580 := f564.wr W579
  have f581 := f565.other W579 (Or.inr (slot_ne (Or.inr (own_m hw 53 rfl)) (Or.inr (own_m hw 57 rfl)) (by decide) (t := (.array .long)) (t' := (.array .long)) (by decide) (by decide)))
  have f582 := f566.other W579 (Or.inr (slot_ne (Or.inr (own_m hw 55 rfl)) (Or.inr (own_m hw 57 rfl)) (by decide) (t := (.array .long)) (t' := (.array .long)) (by decide) (by decide)))
  have f584 := f568.other W579 (Ne.symm ne_a0_a1)
  have f585 := f569.wr W579
  have f586 := f570.other W579 (Ne.symm ne520)
  have f587 := f571.wr W579
  have f588 := f572.other W579 (Ne.symm ne544)
  have f589 := V563.other W579 (Ne.symm ne573)
  have K590 := K577.wr W579 (Or.inl (List.mem_of_getElem? (i := 0) rfl))
  have Z591 := Nat.le_trans Z578 (Keep.of_wr W579).1
  have hk := Nat.le_trans hk (Keep.of_wr W579).1
  have N592 := Fr.snoc X579 N561 g_a0
  obtain ⟨fs, hr, hrun, hended, hRW⟩ := X579.leaveW hS (own_hk hk e579) (v := none) (fun _ => rfl)
  refine ⟨_, _, pre511 _ ?_, hrun, hended, _, _, rfl, ?_, hRW.1, hRW.2.1, hRW.2.2.1, hRW.2.2.2.mono (by decide) (by decide)⟩
  · skip
    show Steps p.tables e below (T509.setTop (mkF m 6 L_508 [(.ref a1), (.ref a0)])) _
    refine st510.trans ?_
    show Steps p.tables e below (T510.setTop (mkF m 9 L_508 [(.ref cx0510), (.ref a0)])) _
    refine st522 _ ?_
    refine XS.aloadN X522.here hx rfl (hb hby d3_12) rfl rfl ?_
    refine XS.aloadN X522.here hx rfl (hb hby d3_13) rfl rfl ?_
    show Steps p.tables e below (T522.setTop (mkF m 14 L_508 [(.ref a1), (.ref a0)])) _
    refine X522.arraylength hx (by rw [e522]; exact Ar534.1) (State.isArrayOf_alike hZ.alike Ar534.2.1) (g := (mkF m 14 L_508 [(.ref a1), (.ref a0)])) rfl rfl (hb hby d3_14) _ ?_
    rw [len_of S534 M534]
    show Steps p.tables e below (T522.setTop (mkF m 15 L_508 [(.int (2 : Int32)), (.ref a0)])) _
    refine st535 _ ?_
    show Steps p.tables e below (T535.setTop (mkF m 17 L_508 [(.ref b535), (.ref a0)])) _
    refine st549 _ ?_
    refine XS.aloadN X549.here hx rfl (hb hby d3_20) rfl rfl ?_
    refine XS.aloadN X549.here hx rfl (hb hby d3_21) rfl rfl ?_
    show Steps p.tables e below (T549.setTop (mkF m 22 L_508 [(.ref a1), (.ref a0)])) _
    refine X549.arraylength hx (by rw [e549]; exact Ar562.1) (State.isArrayOf_alike hZ.alike Ar562.2.1) (g := (mkF m 22 L_508 [(.ref a1), (.ref a0)])) rfl rfl (hb hby d3_22) _ ?_
    rw [len_of S562 M562]
    show Steps p.tables e below (T549.setTop (mkF m 23 L_508 [(.int (2 : Int32)), (.ref a0)])) _
    refine st563 _ ?_
    show Steps p.tables e below (T563.setTop (mkF m 25 L_508 [(.ref b563), (.ref a0)])) _
    refine st579 _ ?_
    show Steps p.tables e below (T579.setTop (mkF m 28 L_508 [])) _
    exact X579.returnOut hx Bd.returns (hb hby d3_28) hr
  · show Q3_2 Z a0 a1 c0 c1 k_a1 h0 n0 _ T579.heap _
    rw [e579]
    exact ⟨cx0510, b535, b563, cy0510, k535, k563, rfl, N592, K590, g_cx0510, sz_cx0510, g_b535, sz_b535, g_b563, sz_b563, ne546, ne575, ne576, f580, f581, f582, f579w, f586, f588, f589⟩
theorem ef9_2 (m : MethodId) (x0 : Addr) (x1 : Addr) : entryFrame m #[(.ref x0), (.ref x1)] 3 = mkF m 0 #[.val (.ref x0), .val (.ref x1), .unset] [] := by first | (simp [entryFrame, mkF, argsToLocals, Value.category]; done) | rfl
abbrev rr9_2 : Room := { frames := 1, cells := 2, slots := 24, locals := 13 }
def Q9_2 (Z : State) (a0 : Addr) (a1 : Addr) (c0 : Int64) (c1 : Int64) (s0 : Int64) (s1 : Int64) (k_a0 : ClassId) (k_a1 : ClassId) (h0 : Heap) (n0 : Nat) (v : Option Value) (h : Heap) (L : List Loc) : Prop := v = none ∧ Fr n0 L ∧ Keep h0 h []
set_option maxRecDepth 65536 in
set_option maxHeartbeats 40000000 in
theorem rm9_2 (l : Launch) (Z : State) (aw : Array Value) (hw : ∀ d ∈ tables_1, d.before aw Z = true) (ws : List Jvm.Cond) (a0 : Addr) (a1 : Addr) (c0 : Int64) (c1 : Int64) (s0 : Int64) (s1 : Int64) (k_a0 : ClassId) (k_a1 : ClassId) (h0 : Heap) (n0 : Nat) (Z0 : n0 ≤ h0.size) (V_a0 : Arv Z h0 a0 k_a0 .long (2 : Int32) [(.long c0), (.long c1)] (.long (0 : Int64))) (V_a1 : Arv Z h0 a1 k_a1 .long (2 : Int32) [(.long s0), (.long s1)] (.long (0 : Int64))) (hs0 : ¬ s0 < (0 : Int64)) (hs1 : ¬ s1 < (0 : Int64)) (ht0 : ¬ c0 < s0) (ht1 : ¬ c1 < s1) :
    MetFree l (⟨"com/example/stowline/stowline/Capacities", "checkSizes", "([J[J)V"⟩ : MethodName) (head1 (Jvm.Cond.code (⟨"com/example/stowline/stowline/Capacities", "checkSizes", "([J[J)V"⟩ : MethodName) prog_4_method_3_code 3 none :: ws) rr9_2) (fun a U => a = #[(.ref a0), (.ref a1)] ∧ Z.Warmed39 U.vm ∧ U.heap = h0) (fun _ _ _ _ _ => True) (fun _ U o U' => ∃ v L, o = .returned v ∧ Q9_2 Z a0 a1 c0 c1 s0 s1 k_a0 k_a1 h0 n0 v U'.heap L ∧ ReturnedEndW U o U' L rr9_2.cells rr9_2.slots) := by
  refine MetFree.of_bodySF (plainFor_of_name pn_2) hisR ?_
  intro p e s m args below meth c s₁ Bd hml0 hP hK
  obtain ⟨rfl, hZ, hh⟩ := hP
  have hx := Bd.exec
  have hby := Bd.bytes
  have hml : c.maxLocals = 3 := hml0
  have hown : s.vm.findClass "com/example/stowline/stowline/Capacities" = some m.cls := findClass_of_methodNamed Bd.named
  have hnm := (name_of_methodNamed Bd.named Bd.method).1
  have X0 : Stand p l e rr9_2 (s.setVm s.vm) m #[(.ref a0), (.ref a1)] below meth c s₁ [] 0 0 := Stand.of_body Bd
  have e0 : s₁.heap = h0 := by rw [← hh, Bd.state]; rfl
  have N0 := Fr.nil n0
  have K0 := Keep.refl h0 []
  have hS : s.Since s.vm 0 := (State.WarmedH.refl s).since 0
  have hk : 0 ≤ h0.size := Nat.zero_le _
  have hstr : ∀ a ∈ Bundle.stringAtoms, a.before aw Z = true := fun d hd => hw d ((by decide +kernel : ∀ d ∈ Bundle.stringAtoms, d ∈ tables_1) d hd)
  have pre0 : ∀ t, Steps p.tables e below (s₁.setTop (mkF m 0 #[.val (.ref a0), .val (.ref a1), .unset] [])) t → Steps p.tables e below (s₁.setTop (entryFrame m #[(.ref a0), (.ref a1)] 3)) t := fun t k => castTop (ef9_2 m a0 a1) k
  let L_593 : Array Slot := #[.val (.ref a0), .val (.ref a1), .unset]
  have pre594 := fun (t : State) (k : Steps p.tables e below (s₁.setTop (mkF m 1 L_593 [(.ref a1)])) t) => pre0 t (by
    show Steps p.tables e below (s₁.setTop (mkF m 0 L_593 [])) _
    refine XS.aloadN X0.here hx rfl (hb hby d9_0) rfl rfl ?_
    exact k)
  obtain ⟨a595, T595, h595, k595, X595, e595, E595, hS, hk, hZ, hown, st595⟩ := ldcS X0 hx hZ hown (own_m hw 71 rfl) hstr e0 hS hk (g := (mkF m 1 L_593 [(.ref a1)])) rfl (hb hby d9_1) (n := 20) (by decide) (by decide) (by decide) (by decide)
  have f596 := V_a0.ext E595
  have f597 := V_a1.ext E595
  have K598 := K0.ext E595
  have Z599 := Nat.le_trans Z0 E595.1
  obtain ⟨_, _, ⟨T600, L600, k600, n600⟩, -, X600, ⟨Lc600, hQ600, l600, y600, z600⟩, st600⟩ := Jvm.LawKit.callS X595 hx (y := (⟨"java/util/Objects", "requireNonNull", "(Ljava/lang/Object;Ljava/lang/String;)Ljava/lang/Object;"⟩ : MethodName)) hown (mvT hZ (own_m hw 39 rfl)) (mvT hZ (own_m hw 40 rfl)) (mvT hZ (own_m hw 41 rfl)) (mvT hZ (own_m hw 42 rfl)) (by decide) (backOf (W := 0) (rm6 l Z aw hw [] a1 a595 h595 n0 Z599 ) hZ (own_m hw 42 rfl) (own_m hw 41 rfl) (by decide) (by decide)) (g := (mkF m 3 L_593 [(.ref a595), (.ref a1)])) rfl (by rw [hml]; rfl) (argsL := [(.ref a1), (.ref a595)]) (rest := []) (lenOf pd_1 rfl) rfl (by show 2 * 0 + _ ≤ _; exact Nat.le_of_eq rfl) (hb hby d9_3) (fun _ _ => ⟨rfl, e595, (by decide : 2 + 0 ≤ _), (by decide : 24 + 0 ≤ _)⟩)
  dsimp only [Pt.U, Pt.locs, Pt.cells, Pt.slots] at X600 l600 y600 z600 st600 hQ600
  subst l600 y600 z600
  obtain ⟨rfl, N600q, e600⟩ := hQ600
  have N600 := Fr.app N0 N600q
  obtain ⟨cl601, Ar601, q601, S601, M601, H601, G601⟩ := id f597
  obtain ⟨cl602, Ar602, q602, S602, M602, H602, G602⟩ := id f596
  let L_603 : Array Slot := #[.val (.ref a0), .val (.ref a1), .val (.int (0 : Int32))]
  obtain ⟨cl604, Ar604, q604, S604, M604, H604, G604⟩ := id f597
  obtain ⟨cl605, Ar605, q605, S605, M605, H605, G605⟩ := id f597
  have hin606 : ¬ ((0 : Int32) < 0 ∨ cl605.slots.size ≤ ((0 : Int32)).toNatClampNeg) := inb_of S605 ⟨by decide, by decide⟩
  have hat607 : cl605.slots[((0 : Int32)).toNatClampNeg]? = some (.long s0) := H605.at hin606 rfl
  obtain ⟨cl608, Ar608, q608, S608, M608, H608, G608⟩ := id f597
  have hin609 : ¬ ((0 : Int32) < 0 ∨ cl608.slots.size ≤ ((0 : Int32)).toNatClampNeg) := inb_of S608 ⟨by decide, by decide⟩
  have hat610 : cl608.slots[((0 : Int32)).toNatClampNeg]? = some (.long s0) := H608.at hin609 rfl
  obtain ⟨cl611, Ar611, q611, S611, M611, H611, G611⟩ := id f596
  have hin612 : ¬ ((0 : Int32) < 0 ∨ cl611.slots.size ≤ ((0 : Int32)).toNatClampNeg) := inb_of S611 ⟨by decide, by decide⟩
  have hat613 : cl611.slots[((0 : Int32)).toNatClampNeg]? = some (.long c0) := H611.at hin612 rfl
  let L_614 : Array Slot := #[.val (.ref a0), .val (.ref a1), .val (.int (1 : Int32))]
  obtain ⟨cl615, Ar615, q615, S615, M615, H615, G615⟩ := id f597
  obtain ⟨cl616, Ar616, q616, S616, M616, H616, G616⟩ := id f597
  have hin617 : ¬ ((1 : Int32) < 0 ∨ cl616.slots.size ≤ ((1 : Int32)).toNatClampNeg) := inb_of S616 ⟨by decide, by decide⟩
  have hat618 : cl616.slots[((1 : Int32)).toNatClampNeg]? = some (.long s1) := H616.at hin617 rfl
  obtain ⟨cl619, Ar619, q619, S619, M619, H619, G619⟩ := id f597
  have hin620 : ¬ ((1 : Int32) < 0 ∨ cl619.slots.size ≤ ((1 : Int32)).toNatClampNeg) := inb_of S619 ⟨by decide, by decide⟩
  have hat621 : cl619.slots[((1 : Int32)).toNatClampNeg]? = some (.long s1) := H619.at hin620 rfl
  obtain ⟨cl622, Ar622, q622, S622, M622, H622, G622⟩ := id f596
  have hin623 : ¬ ((1 : Int32) < 0 ∨ cl622.slots.size ≤ ((1 : Int32)).toNatClampNeg) := inb_of S622 ⟨by decide, by decide⟩
  have hat624 : cl622.slots[((1 : Int32)).toNatClampNeg]? = some (.long c1) := H622.at hin623 rfl
  let L_625 : Array Slot := #[.val (.ref a0), .val (.ref a1), .val (.int (2 : Int32))]
  obtain ⟨cl626, Ar626, q626, S626, M626, H626, G626⟩ := id f597
  obtain ⟨fs, hr, hrun, hended, hRW⟩ := X600.leaveW hS (own_hk hk e600) (v := none) (fun _ => rfl)
  refine ⟨_, _, pre594 _ ?_, hrun, hended, _, _, rfl, ?_, hRW.1, hRW.2.1, hRW.2.2.1, hRW.2.2.2.mono (by decide) (by decide)⟩
  · skip
    show Steps p.tables e below (s₁.setTop (mkF m 1 L_593 [(.ref a1)])) _
    refine st595 _ ?_
    show Steps p.tables e below (T595.setTop (mkF m 3 L_593 [(.ref a595), (.ref a1)])) _
    refine st600 _ ?_
    refine XS.pop X600.here hx rfl (hb hby d9_6) rfl rfl ?_
    refine XS.aloadN X600.here hx rfl (hb hby d9_7) rfl rfl ?_
    show Steps p.tables e below (T600.setTop (mkF m 8 L_593 [(.ref a1)])) _
    refine X600.arraylength hx (by rw [e600]; exact Ar601.1) (State.isArrayOf_alike hZ.alike Ar601.2.1) (g := (mkF m 8 L_593 [(.ref a1)])) rfl rfl (hb hby d9_8) _ ?_
    rw [len_of S601 M601]
    refine XS.aloadN X600.here hx rfl (hb hby d9_9) rfl rfl ?_
    show Steps p.tables e below (T600.setTop (mkF m 10 L_593 [(.ref a0), (.int (2 : Int32))])) _
    refine X600.arraylength hx (by rw [e600]; exact Ar602.1) (State.isArrayOf_alike hZ.alike Ar602.2.1) (g := (mkF m 10 L_593 [(.ref a0), (.int (2 : Int32))])) rfl rfl (hb hby d9_10) _ ?_
    rw [len_of S602 M602]
    refine XS.icmpYes X600.here hx rfl (pc0 := 11) (pc' := 31) rfl (hb hby d9_11) rfl (teq (rfl : (2 : Int32) = (2 : Int32))).1 (by decide) (by decide) ?_
    refine XS.iconst X600.here hx rfl (hb hby d9_31) ?_
    refine XS.istoreN X600.here hx rfl (hb hby d9_32) rfl (l' := L_603) rfl ?_
    refine XS.iloadN X600.here hx rfl (hb hby d9_33) rfl ?_
    refine XS.aloadN X600.here hx rfl (hb hby d9_34) rfl rfl ?_
    show Steps p.tables e below (T600.setTop (mkF m 35 L_603 [(.ref a1), (.int (0 : Int32))])) _
    refine X600.arraylength hx (by rw [e600]; exact Ar604.1) (State.isArrayOf_alike hZ.alike Ar604.2.1) (g := (mkF m 35 L_603 [(.ref a1), (.int (0 : Int32))])) rfl rfl (hb hby d9_35) _ ?_
    rw [len_of S604 M604]
    refine XS.icmpNo X600.here hx rfl (hb hby d9_36) rfl (tlt (by decide : (0 : Int32) < (2 : Int32))).2.1 ?_
    refine XS.aloadN X600.here hx rfl (hb hby d9_39) rfl rfl ?_
    refine XS.iloadN X600.here hx rfl (hb hby d9_40) rfl ?_
    show Steps p.tables e below (T600.setTop (mkF m 41 L_603 [(.int (0 : Int32)), (.ref a1)])) _
    refine X600.laload hx (j := (0 : Int32)) (v := (.long s0)) (by rw [e600]; exact Ar605.1) (State.isArrayOf_alike hZ.alike Ar605.2.1) Ar605.2.2 hin606 hat607 (g := (mkF m 41 L_603 [(.int (0 : Int32)), (.ref a1)])) rfl rfl (hb hby d9_41) _ ?_
    refine XS.lconst X600.here hx rfl (hb hby d9_42) ?_
    refine XS.lcmp X600.here hx rfl (hb hby d9_43) rfl ?_
    refine XS.ifNo X600.here hx rfl (hb hby d9_44) rfl ((if0 _ _).trans (flt (mt (own_lt s0 (0 : Int64)).mp hs0)).1) ?_
    refine XS.aloadN X600.here hx rfl (hb hby d9_47) rfl rfl ?_
    refine XS.iloadN X600.here hx rfl (hb hby d9_48) rfl ?_
    show Steps p.tables e below (T600.setTop (mkF m 49 L_603 [(.int (0 : Int32)), (.ref a1)])) _
    refine X600.laload hx (j := (0 : Int32)) (v := (.long s0)) (by rw [e600]; exact Ar608.1) (State.isArrayOf_alike hZ.alike Ar608.2.1) Ar608.2.2 hin609 hat610 (g := (mkF m 49 L_603 [(.int (0 : Int32)), (.ref a1)])) rfl rfl (hb hby d9_49) _ ?_
    refine XS.aloadN X600.here hx rfl (hb hby d9_50) rfl rfl ?_
    refine XS.iloadN X600.here hx rfl (hb hby d9_51) rfl ?_
    show Steps p.tables e below (T600.setTop (mkF m 52 L_603 [(.int (0 : Int32)), (.ref a0), (.long s0)])) _
    refine X600.laload hx (j := (0 : Int32)) (v := (.long c0)) (by rw [e600]; exact Ar611.1) (State.isArrayOf_alike hZ.alike Ar611.2.1) Ar611.2.2 hin612 hat613 (g := (mkF m 52 L_603 [(.int (0 : Int32)), (.ref a0), (.long s0)])) rfl rfl (hb hby d9_52) _ ?_
    refine XS.lcmp X600.here hx rfl (hb hby d9_53) rfl ?_
    refine XS.ifYes X600.here hx rfl (pc0 := 54) (pc' := 77) rfl (hb hby d9_54) rfl ((if0 _ _).trans (flt (mt (own_gt s0 c0).mp ht0)).2.2.2) (by decide) (by decide) ?_
    refine XS.iinc X600.here hx rfl (hb hby d9_77) rfl (l' := L_614) rfl ?_
    refine XS.goto X600.here hx rfl (pc0 := 80) (pc' := 33) rfl (hb hby d9_80) (by decide) (by decide) ?_
    refine XS.iloadN X600.here hx rfl (hb hby d9_33) rfl ?_
    show Steps p.tables e below (T600.setTop (mkF m 34 L_614 [(.int (1 : Int32))])) _
    refine XS.aloadN X600.here hx rfl (hb hby d9_34) rfl rfl ?_
    show Steps p.tables e below (T600.setTop (mkF m 35 L_614 [(.ref a1), (.int (1 : Int32))])) _
    refine X600.arraylength hx (by rw [e600]; exact Ar615.1) (State.isArrayOf_alike hZ.alike Ar615.2.1) (g := (mkF m 35 L_614 [(.ref a1), (.int (1 : Int32))])) rfl rfl (hb hby d9_35) _ ?_
    rw [len_of S615 M615]
    refine XS.icmpNo X600.here hx rfl (hb hby d9_36) rfl (tlt (by decide : (1 : Int32) < (2 : Int32))).2.1 ?_
    refine XS.aloadN X600.here hx rfl (hb hby d9_39) rfl rfl ?_
    refine XS.iloadN X600.here hx rfl (hb hby d9_40) rfl ?_
    show Steps p.tables e below (T600.setTop (mkF m 41 L_614 [(.int (1 : Int32)), (.ref a1)])) _
    refine X600.laload hx (j := (1 : Int32)) (v := (.long s1)) (by rw [e600]; exact Ar616.1) (State.isArrayOf_alike hZ.alike Ar616.2.1) Ar616.2.2 hin617 hat618 (g := (mkF m 41 L_614 [(.int (1 : Int32)), (.ref a1)])) rfl rfl (hb hby d9_41) _ ?_
    refine XS.lconst X600.here hx rfl (hb hby d9_42) ?_
    refine XS.lcmp X600.here hx rfl (hb hby d9_43) rfl ?_
    refine XS.ifNo X600.here hx rfl (hb hby d9_44) rfl ((if0 _ _).trans (flt (mt (own_lt s1 (0 : Int64)).mp hs1)).1) ?_
    refine XS.aloadN X600.here hx rfl (hb hby d9_47) rfl rfl ?_
    refine XS.iloadN X600.here hx rfl (hb hby d9_48) rfl ?_
    show Steps p.tables e below (T600.setTop (mkF m 49 L_614 [(.int (1 : Int32)), (.ref a1)])) _
    refine X600.laload hx (j := (1 : Int32)) (v := (.long s1)) (by rw [e600]; exact Ar619.1) (State.isArrayOf_alike hZ.alike Ar619.2.1) Ar619.2.2 hin620 hat621 (g := (mkF m 49 L_614 [(.int (1 : Int32)), (.ref a1)])) rfl rfl (hb hby d9_49) _ ?_
    refine XS.aloadN X600.here hx rfl (hb hby d9_50) rfl rfl ?_
    refine XS.iloadN X600.here hx rfl (hb hby d9_51) rfl ?_
    show Steps p.tables e below (T600.setTop (mkF m 52 L_614 [(.int (1 : Int32)), (.ref a0), (.long s1)])) _
    refine X600.laload hx (j := (1 : Int32)) (v := (.long c1)) (by rw [e600]; exact Ar622.1) (State.isArrayOf_alike hZ.alike Ar622.2.1) Ar622.2.2 hin623 hat624 (g := (mkF m 52 L_614 [(.int (1 : Int32)), (.ref a0), (.long s1)])) rfl rfl (hb hby d9_52) _ ?_
    refine XS.lcmp X600.here hx rfl (hb hby d9_53) rfl ?_
    refine XS.ifYes X600.here hx rfl (pc0 := 54) (pc' := 77) rfl (hb hby d9_54) rfl ((if0 _ _).trans (flt (mt (own_gt s1 c1).mp ht1)).2.2.2) (by decide) (by decide) ?_
    refine XS.iinc X600.here hx rfl (hb hby d9_77) rfl (l' := L_625) rfl ?_
    refine XS.goto X600.here hx rfl (pc0 := 80) (pc' := 33) rfl (hb hby d9_80) (by decide) (by decide) ?_
    refine XS.iloadN X600.here hx rfl (hb hby d9_33) rfl ?_
    show Steps p.tables e below (T600.setTop (mkF m 34 L_625 [(.int (2 : Int32))])) _
    refine XS.aloadN X600.here hx rfl (hb hby d9_34) rfl rfl ?_
    show Steps p.tables e below (T600.setTop (mkF m 35 L_625 [(.ref a1), (.int (2 : Int32))])) _
    refine X600.arraylength hx (by rw [e600]; exact Ar626.1) (State.isArrayOf_alike hZ.alike Ar626.2.1) (g := (mkF m 35 L_625 [(.ref a1), (.int (2 : Int32))])) rfl rfl (hb hby d9_35) _ ?_
    rw [len_of S626 M626]
    refine XS.icmpYes X600.here hx rfl (pc0 := 36) (pc' := 83) rfl (hb hby d9_36) rfl (flt (by decide : ¬ ((2 : Int32) < (2 : Int32)))).2.1 (by decide) (by decide) ?_
    show Steps p.tables e below (T600.setTop (mkF m 83 L_625 [])) _
    exact X600.returnOut hx Bd.returns (hb hby d9_83) hr
  · show Q9_2 Z a0 a1 c0 c1 s0 s1 k_a0 k_a1 h0 n0 _ T600.heap _
    rw [e600]
    exact ⟨rfl, N600, K598⟩
theorem ef8_2 (m : MethodId) (x0 : Addr) (x1 : Addr) : entryFrame m #[(.ref x0), (.ref x1)] 2 = mkF m 0 #[.val (.ref x0), .val (.ref x1)] [] := by first | (simp [entryFrame, mkF, argsToLocals, Value.category]; done) | rfl
abbrev rr8_2 : Room := { frames := 2, cells := 2, slots := 24, locals := 27 }
def Q8_2 (Z : State) (a0 : Addr) (a1 : Addr) (bc : Addr) (c0 : Int64) (c1 : Int64) (s0 : Int64) (s1 : Int64) (k_bc : ClassId) (k_a1 : ClassId) (h0 : Heap) (n0 : Nat) (v : Option Value) (h : Heap) (L : List Loc) : Prop := v = none ∧ Fr n0 L ∧ Keep h0 h []
set_option maxRecDepth 65536 in
set_option maxHeartbeats 40000000 in
theorem rm8_2 (l : Launch) (Z : State) (aw : Array Value) (hw : ∀ d ∈ tables_1, d.before aw Z = true) (ws : List Jvm.Cond) (a0 : Addr) (a1 : Addr) (bc : Addr) (c0 : Int64) (c1 : Int64) (s0 : Int64) (s1 : Int64) (k_bc : ClassId) (k_a1 : ClassId) (h0 : Heap) (n0 : Nat) (Z0 : n0 ≤ h0.size) (E_a0 : Exa Z h0 a0 "com/example/stowline/stowline/VolumeBound") (F_capacities_a0 : Fld Z h0 a0 "com/example/stowline/stowline/VolumeBound" "capacities" "[J" (.ref bc)) (V_bc : Arv Z h0 bc k_bc .long (2 : Int32) [(.long c0), (.long c1)] (.long (0 : Int64))) (V_a1 : Arv Z h0 a1 k_a1 .long (2 : Int32) [(.long s0), (.long s1)] (.long (0 : Int64))) (hs0 : ¬ s0 < (0 : Int64)) (hs1 : ¬ s1 < (0 : Int64)) (ht0 : ¬ c0 < s0) (ht1 : ¬ c1 < s1) :
    MetFree l (⟨"com/example/stowline/stowline/VolumeBound", "checkSizes", "([J)V"⟩ : MethodName) (head1 (Jvm.Cond.code (⟨"com/example/stowline/stowline/VolumeBound", "checkSizes", "([J)V"⟩ : MethodName) prog_29_method_10_code 2 none :: ws) rr8_2) (fun a U => a = #[(.ref a0), (.ref a1)] ∧ Z.Warmed39 U.vm ∧ U.heap = h0) (fun _ _ _ _ _ => True) (fun _ U o U' => ∃ v L, o = .returned v ∧ Q8_2 Z a0 a1 bc c0 c1 s0 s1 k_bc k_a1 h0 n0 v U'.heap L ∧ ReturnedEndW U o U' L rr8_2.cells rr8_2.slots) := by
  refine MetFree.of_bodySF (plainFor_of_name pn_3) hisR ?_
  intro p e s m args below meth c s₁ Bd hml0 hP hK
  obtain ⟨rfl, hZ, hh⟩ := hP
  have hx := Bd.exec
  have hby := Bd.bytes
  have hml : c.maxLocals = 2 := hml0
  have hown : s.vm.findClass "com/example/stowline/stowline/VolumeBound" = some m.cls := findClass_of_methodNamed Bd.named
  have hnm := (name_of_methodNamed Bd.named Bd.method).1
  have X0 : Stand p l e rr8_2 (s.setVm s.vm) m #[(.ref a0), (.ref a1)] below meth c s₁ [] 0 0 := Stand.of_body Bd
  have e0 : s₁.heap = h0 := by rw [← hh, Bd.state]; rfl
  have N0 := Fr.nil n0
  have K0 := Keep.refl h0 []
  have hS : s.Since s.vm 0 := (State.WarmedH.refl s).since 0
  have hk : 0 ≤ h0.size := Nat.zero_le _
  have hstr : ∀ a ∈ Bundle.stringAtoms, a.before aw Z = true := fun d hd => hw d ((by decide +kernel : ∀ d ∈ Bundle.stringAtoms, d ∈ tables_1) d hd)
  have pre0 : ∀ t, Steps p.tables e below (s₁.setTop (mkF m 0 #[.val (.ref a0), .val (.ref a1)] [])) t → Steps p.tables e below (s₁.setTop (entryFrame m #[(.ref a0), (.ref a1)] 2)) t := fun t k => castTop (ef8_2 m a0 a1) k
  let L_627 : Array Slot := #[.val (.ref a0), .val (.ref a1)]
  obtain ⟨T628, X628, e628, st628⟩ := getF X0 hx hZ hown (host := "") (Or.inl (own_m hw 52 rfl)) Via.refl e0 F_capacities_a0 (g := (mkF m 1 L_627 [(.ref a0)])) rfl rfl (hb hby d8_1)
  have pre630 := fun (t : State) (k : Steps p.tables e below (T628.setTop (mkF m 5 L_627 [(.ref a1), (.ref bc)])) t) => pre0 t (by
    show Steps p.tables e below (s₁.setTop (mkF m 0 L_627 [])) _
    refine XS.aloadN X0.here hx rfl (hb hby d8_0) rfl rfl ?_
    show Steps p.tables e below (s₁.setTop (mkF m 1 L_627 [(.ref a0)])) _
    refine st628 _ ?_
    refine XS.aloadN X628.here hx rfl (hb hby d8_4) rfl rfl ?_
    exact k)
  obtain ⟨_, _, ⟨T629, L629, k629, n629⟩, -, X629, hSi629, hgr629, ⟨Lc629, hQ629, l629, y629, z629⟩, st629⟩ := Jvm.RoadKit.callSS X628 hx (y := (⟨"com/example/stowline/stowline/Capacities", "checkSizes", "([J[J)V"⟩ : MethodName)) hown (mvT hZ (own_m hw 68 rfl)) (mvT hZ (own_m hw 69 rfl)) (mvT hZ (own_m hw 29 rfl)) (mvT hZ (own_m hw 70 rfl)) (by decide) (backOfS (W := 0) (rm9_2 l Z aw hw [] bc a1 c0 c1 s0 s1 k_bc k_a1 h0 n0 Z0 V_bc V_a1 hs0 hs1 ht0 ht1) hZ (own_m hw 70 rfl) (own_m hw 29 rfl) (by decide) (by decide)) (g := (mkF m 5 L_627 [(.ref a1), (.ref bc)])) rfl (by rw [hml]; rfl) (argsL := [(.ref bc), (.ref a1)]) (rest := []) (lenOf pd_5 rfl) rfl (by show 2 * 0 + _ ≤ _; exact Nat.le_of_eq rfl) (hb hby d8_5) (fun _ _ => ⟨rfl, e628, (by decide : 0 + 2 ≤ _), (by decide : 0 + 24 ≤ _)⟩)
  dsimp only [Pt.U, Pt.locs, Pt.cells, Pt.slots] at X629 l629 y629 z629 st629 hQ629 hSi629 hgr629
  subst l629 y629 z629
  obtain ⟨X629, hS, hZ, hown⟩ := rebS hS (show _ ≤ T628.heap.size from own_hk hk e628) X629 hSi629 hgr629 hZ hown
  obtain ⟨h629, e629⟩ : ∃ z, T629.heap = z := ⟨_, rfl⟩
  rw [e629] at hQ629
  obtain ⟨rfl, N629q, K629q⟩ := hQ629
  have f631 := E_a0.keep K629q
  have f632 := F_capacities_a0.keep K629q nin0
  have f633 := V_bc.keep K629q nin0
  have f634 := V_a1.keep K629q nin0
  have K629 := K0.trans K629q all0
  have Z629 := Nat.le_trans Z0 K629q.1
  have hk : T629.heap.size ≤ h629.size := by rw [e629]; exact Nat.le_refl _
  have N629 := Fr.app N0 N629q
  obtain ⟨fs, hr, hrun, hended, hRW⟩ := X629.leaveW hS (own_hk hk e629) (v := none) (fun _ => rfl)
  refine ⟨_, _, pre630 _ ?_, hrun, hended, _, _, rfl, ?_, hRW.1, hRW.2.1, hRW.2.2.1, hRW.2.2.2.mono (by decide) (by decide)⟩
  · skip
    show Steps p.tables e below (T628.setTop (mkF m 5 L_627 [(.ref a1), (.ref bc)])) _
    refine st629.trans ?_
    show Steps p.tables e below (T629.setTop (mkF m 8 L_627 [])) _
    exact X629.returnOut hx Bd.returns (hb hby d8_8) hr
  · show Q8_2 Z a0 a1 bc c0 c1 s0 s1 k_bc k_a1 h0 n0 _ T629.heap _
    rw [e629]
    exact ⟨rfl, N629, K629⟩
def j7_2_0 (c0 : Int64) (w0 : Int64) (r0 : Int64) (s0 : Int64) : Int64 := (if s0 < (c0 - r0) then w0 else (w0 + (1 : Int64)))
def j7_2_1 (c0 : Int64) (r0 : Int64) (s0 : Int64) : Int64 := (if s0 < (c0 - r0) then (r0 + s0) else (s0 - (c0 - r0)))
def j7_2_2 (c1 : Int64) (w1 : Int64) (r1 : Int64) (s1 : Int64) : Int64 := (if s1 < (c1 - r1) then w1 else (w1 + (1 : Int64)))
def j7_2_3 (c1 : Int64) (r1 : Int64) (s1 : Int64) : Int64 := (if s1 < (c1 - r1) then (r1 + s1) else (s1 - (c1 - r1)))
theorem ef7_2 (m : MethodId) (x0 : Addr) (x1 : Addr) : entryFrame m #[(.ref x0), (.ref x1)] 5 = mkF m 0 #[.val (.ref x0), .val (.ref x1), .unset, .unset, .unset] [] := by first | (simp [entryFrame, mkF, argsToLocals, Value.category]; done) | rfl
abbrev rr7_2 : Room := { frames := 3, cells := 2, slots := 24, locals := 40 }
def Q7_2 (Z : State) (a0 : Addr) (a1 : Addr) (bc : Addr) (bw : Addr) (br : Addr) (c0 : Int64) (c1 : Int64) (w0 : Int64) (w1 : Int64) (r0 : Int64) (r1 : Int64) (s0 : Int64) (s1 : Int64) (k_bc : ClassId) (k_bw : ClassId) (k_br : ClassId) (k_a1 : ClassId) (h0 : Heap) (n0 : Nat) (v : Option Value) (h : Heap) (L : List Loc) : Prop := v = none ∧ Fr n0 L ∧ Keep h0 h [bw, br] ∧ Arv Z h bw k_bw .long (2 : Int32) [(.long (j7_2_0 c0 w0 r0 s0)), (.long (j7_2_2 c1 w1 r1 s1))] (.long (0 : Int64)) ∧ Arv Z h br k_br .long (2 : Int32) [(.long (j7_2_1 c0 r0 s0)), (.long (j7_2_3 c1 r1 s1))] (.long (0 : Int64))
set_option maxRecDepth 65536 in
set_option maxHeartbeats 40000000 in
theorem rm7_2 (l : Launch) (Z : State) (aw : Array Value) (hw : ∀ d ∈ tables_1, d.before aw Z = true) (ws : List Jvm.Cond) (a0 : Addr) (a1 : Addr) (bc : Addr) (bw : Addr) (br : Addr) (c0 : Int64) (c1 : Int64) (w0 : Int64) (w1 : Int64) (r0 : Int64) (r1 : Int64) (s0 : Int64) (s1 : Int64) (k_bc : ClassId) (k_bw : ClassId) (k_br : ClassId) (k_a1 : ClassId) (h0 : Heap) (n0 : Nat) (Z0 : n0 ≤ h0.size) (E_a0 : Exa Z h0 a0 "com/example/stowline/stowline/VolumeBound") (F_capacities_a0 : Fld Z h0 a0 "com/example/stowline/stowline/VolumeBound" "capacities" "[J" (.ref bc)) (F_wholeCapacities_a0 : Fld Z h0 a0 "com/example/stowline/stowline/VolumeBound" "wholeCapacities" "[J" (.ref bw)) (F_remainders_a0 : Fld Z h0 a0 "com/example/stowline/stowline/VolumeBound" "remainders" "[J" (.ref br)) (V_bc : Arv Z h0 bc k_bc .long (2 : Int32) [(.long c0), (.long c1)] (.long (0 : Int64))) (V_bw : Arv Z h0 bw k_bw .long (2 : Int32) [(.long w0), (.long w1)] (.long (0 : Int64))) (V_br : Arv Z h0 br k_br .long (2 : Int32) [(.long r0), (.long r1)] (.long (0 : Int64))) (V_a1 : Arv Z h0 a1 k_a1 .long (2 : Int32) [(.long s0), (.long s1)] (.long (0 : Int64))) (g_bw : n0 ≤ bw) (g_br : n0 ≤ br) (ne_a0_bw : a0 ≠ bw) (ne_a0_br : a0 ≠ br) (ne_bc_bw : bc ≠ bw) (ne_bc_br : bc ≠ br) (ne_bw_br : bw ≠ br) (ne_a1_bw : a1 ≠ bw) (ne_a1_br : a1 ≠ br) (hs0 : ¬ s0 < (0 : Int64)) (hs1 : ¬ s1 < (0 : Int64)) (ht0 : ¬ c0 < s0) (ht1 : ¬ c1 < s1) :
    MetFree l (⟨"com/example/stowline/stowline/VolumeBound", "add", "([J)V"⟩ : MethodName) (head1 (Jvm.Cond.code (⟨"com/example/stowline/stowline/VolumeBound", "add", "([J)V"⟩ : MethodName) prog_29_method_3_code 5 none :: ws) rr7_2) (fun a U => a = #[(.ref a0), (.ref a1)] ∧ Z.Warmed39 U.vm ∧ U.heap = h0) (fun _ _ _ _ _ => True) (fun _ U o U' => ∃ v L, o = .returned v ∧ Q7_2 Z a0 a1 bc bw br c0 c1 w0 w1 r0 r1 s0 s1 k_bc k_bw k_br k_a1 h0 n0 v U'.heap L ∧ ReturnedEndW U o U' L rr7_2.cells rr7_2.slots) := by
  refine MetFree.of_bodySF (plainFor_of_name pn_3) hisR ?_
  intro p e s m args below meth c s₁ Bd hml0 hP hK
  obtain ⟨rfl, hZ, hh⟩ := hP
  have hx := Bd.exec
  have hby := Bd.bytes
  have hml : c.maxLocals = 5 := hml0
  have hown : s.vm.findClass "com/example/stowline/stowline/VolumeBound" = some m.cls := findClass_of_methodNamed Bd.named
  have hnm := (name_of_methodNamed Bd.named Bd.method).1
  have X0 : Stand p l e rr7_2 (s.setVm s.vm) m #[(.ref a0), (.ref a1)] below meth c s₁ [] 0 0 := Stand.of_body Bd
  have e0 : s₁.heap = h0 := by rw [← hh, Bd.state]; rfl
  have N0 := Fr.nil n0
  have K0 := Keep.refl h0 [bw, br]
  have hS : s.Since s.vm 0 := (State.WarmedH.refl s).since 0
  have hk : 0 ≤ h0.size := Nat.zero_le _
  have hstr : ∀ a ∈ Bundle.stringAtoms, a.before aw Z = true := fun d hd => hw d ((by decide +kernel : ∀ d ∈ Bundle.stringAtoms, d ∈ tables_1) d hd)
  have pre0 : ∀ t, Steps p.tables e below (s₁.setTop (mkF m 0 #[.val (.ref a0), .val (.ref a1), .unset, .unset, .unset] [])) t → Steps p.tables e below (s₁.setTop (entryFrame m #[(.ref a0), (.ref a1)] 5)) t := fun t k => castTop (ef7_2 m a0 a1) k
  let L_635 : Array Slot := #[.val (.ref a0), .val (.ref a1), .unset, .unset, .unset]
  have pre637 := fun (t : State) (k : Steps p.tables e below (s₁.setTop (mkF m 2 L_635 [(.ref a1), (.ref a0)])) t) => pre0 t (by
    show Steps p.tables e below (s₁.setTop (mkF m 0 L_635 [])) _
    refine XS.aloadN X0.here hx rfl (hb hby d7_0) rfl rfl ?_
    refine XS.aloadN X0.here hx rfl (hb hby d7_1) rfl rfl ?_
    exact k)
  obtain ⟨cq636, kq636, q636a, q636b, q636c⟩ := isOf hZ e0 E_a0
  obtain ⟨_, _, ⟨T636, L636, k636, n636⟩, -, X636, hSi636, hgr636, ⟨Lc636, hQ636, l636, y636, z636⟩, st636⟩ := X0.virtualBackS hx (y := (⟨"com/example/stowline/stowline/VolumeBound", "checkSizes", "([J)V"⟩ : MethodName)) (z := (⟨"com/example/stowline/stowline/VolumeBound", "checkSizes", "([J)V"⟩ : MethodName)) hown (mvT hZ (own_m hw 63 rfl)) (mvT hZ (own_m hw 64 rfl)) (notFace_of_selects (args := #[]) (mvT hZ (own_m hw 66 rfl))) (mvT hZ (own_m hw 66 rfl)) (mvT hZ (own_m hw 65 rfl)) (by decide) (backOfS (W := 0) (rm8_2 l Z aw hw [] a0 a1 bc c0 c1 s0 s1 k_bc k_a1 h0 n0 Z0 E_a0 F_capacities_a0 V_bc V_a1 hs0 hs1 ht0 ht1) hZ (own_m hw 67 rfl) (own_m hw 20 rfl) (by decide) (by decide)) q636a q636c (g := (mkF m 2 L_635 [(.ref a1), (.ref a0)])) rfl (by rw [hml]; rfl) (Steps.refl _) (argsL := [(.ref a1)]) (rest := []) (lenOf pd_6 rfl) rfl (by show 2 * 0 + _ ≤ _; exact Nat.le_of_eq rfl) (hb hby d7_2) (fun _ _ => ⟨rfl, e0, (by decide : 0 + 2 ≤ _), (by decide : 0 + 24 ≤ _)⟩)
  dsimp only [Pt.U, Pt.locs, Pt.cells, Pt.slots] at X636 l636 y636 z636 st636 hQ636 hSi636 hgr636
  subst l636 y636 z636
  obtain ⟨X636, hS, hZ, hown⟩ := rebS hS (show _ ≤ s₁.heap.size from own_hk hk e0) X636 hSi636 hgr636 hZ hown
  obtain ⟨h636, e636⟩ : ∃ z, T636.heap = z := ⟨_, rfl⟩
  rw [e636] at hQ636
  obtain ⟨rfl, N636q, K636q⟩ := hQ636
  have f638 := E_a0.keep K636q
  have f639 := F_capacities_a0.keep K636q nin0
  have f640 := F_wholeCapacities_a0.keep K636q nin0
  have f641 := F_remainders_a0.keep K636q nin0
  have f642 := V_bc.keep K636q nin0
  have f643 := V_bw.keep K636q nin0
  have f644 := V_br.keep K636q nin0
  have f645 := V_a1.keep K636q nin0
  have K636 := K0.trans K636q all0
  have Z636 := Nat.le_trans Z0 K636q.1
  have hk : T636.heap.size ≤ h636.size := by rw [e636]; exact Nat.le_refl _
  have N636 := Fr.app N0 N636q
  let L_646 : Array Slot := #[.val (.ref a0), .val (.ref a1), .val (.int (0 : Int32)), .unset, .unset]
  obtain ⟨cl647, Ar647, q647, S647, M647, H647, G647⟩ := id f645
  obtain ⟨T648, X648, e648, st648⟩ := getF X636 hx hZ hown (host := "") (Or.inl (own_m hw 52 rfl)) Via.refl e636 f639 (g := (mkF m 14 L_646 [(.ref a0)])) rfl rfl (hb hby d7_14)
  obtain ⟨cl649, Ar649, q649, S649, M649, H649, G649⟩ := id f642
  have hin650 : ¬ ((0 : Int32) < 0 ∨ cl649.slots.size ≤ ((0 : Int32)).toNatClampNeg) := inb_of S649 ⟨by decide, by decide⟩
  have hat651 : cl649.slots[((0 : Int32)).toNatClampNeg]? = some (.long c0) := H649.at hin650 rfl
  obtain ⟨T652, X652, e652, st652⟩ := getF X648 hx hZ hown (host := "") (Or.inl (own_m hw 56 rfl)) Via.refl e648 f641 (g := (mkF m 20 L_646 [(.ref a0), (.long c0)])) rfl rfl (hb hby d7_20)
  obtain ⟨cl653, Ar653, q653, S653, M653, H653, G653⟩ := id f644
  have hin654 : ¬ ((0 : Int32) < 0 ∨ cl653.slots.size ≤ ((0 : Int32)).toNatClampNeg) := inb_of S653 ⟨by decide, by decide⟩
  have hat655 : cl653.slots[((0 : Int32)).toNatClampNeg]? = some (.long r0) := H653.at hin654 rfl
  let L_656 : Array Slot := #[.val (.ref a0), .val (.ref a1), .val (.int (0 : Int32)), .val (.long (c0 - r0)), .second]
  obtain ⟨cl657, Ar657, q657, S657, M657, H657, G657⟩ := id f645
  have hin658 : ¬ ((0 : Int32) < 0 ∨ cl657.slots.size ≤ ((0 : Int32)).toNatClampNeg) := inb_of S657 ⟨by decide, by decide⟩
  have hat659 : cl657.slots[((0 : Int32)).toNatClampNeg]? = some (.long s0) := H657.at hin658 rfl
  have pre717 := fun (t : State) (k : Steps p.tables e below (T652.setTop (mkF m 32 L_656 [(.int (lcmpW s0 (c0 - r0)))])) t) => pre637 t (by
    show Steps p.tables e below (s₁.setTop (mkF m 2 L_635 [(.ref a1), (.ref a0)])) _
    refine st636.trans ?_
    refine XS.iconst X636.here hx rfl (hb hby d7_5) ?_
    refine XS.istoreN X636.here hx rfl (hb hby d7_6) rfl (l' := L_646) rfl ?_
    refine XS.iloadN X636.here hx rfl (hb hby d7_7) rfl ?_
    refine XS.aloadN X636.here hx rfl (hb hby d7_8) rfl rfl ?_
    show Steps p.tables e below (T636.setTop (mkF m 9 L_646 [(.ref a1), (.int (0 : Int32))])) _
    refine X636.arraylength hx (by rw [e636]; exact Ar647.1) (State.isArrayOf_alike hZ.alike Ar647.2.1) (g := (mkF m 9 L_646 [(.ref a1), (.int (0 : Int32))])) rfl rfl (hb hby d7_9) _ ?_
    rw [len_of S647 M647]
    refine XS.icmpNo X636.here hx rfl (hb hby d7_10) rfl (tlt (by decide : (0 : Int32) < (2 : Int32))).2.1 ?_
    refine XS.aloadN X636.here hx rfl (hb hby d7_13) rfl rfl ?_
    show Steps p.tables e below (T636.setTop (mkF m 14 L_646 [(.ref a0)])) _
    refine st648 _ ?_
    refine XS.iloadN X648.here hx rfl (hb hby d7_17) rfl ?_
    show Steps p.tables e below (T648.setTop (mkF m 18 L_646 [(.int (0 : Int32)), (.ref bc)])) _
    refine X648.laload hx (j := (0 : Int32)) (v := (.long c0)) (by rw [e648]; exact Ar649.1) (State.isArrayOf_alike hZ.alike Ar649.2.1) Ar649.2.2 hin650 hat651 (g := (mkF m 18 L_646 [(.int (0 : Int32)), (.ref bc)])) rfl rfl (hb hby d7_18) _ ?_
    refine XS.aloadN X648.here hx rfl (hb hby d7_19) rfl rfl ?_
    show Steps p.tables e below (T648.setTop (mkF m 20 L_646 [(.ref a0), (.long c0)])) _
    refine st652 _ ?_
    refine XS.iloadN X652.here hx rfl (hb hby d7_23) rfl ?_
    show Steps p.tables e below (T652.setTop (mkF m 24 L_646 [(.int (0 : Int32)), (.ref br), (.long c0)])) _
    refine X652.laload hx (j := (0 : Int32)) (v := (.long r0)) (by rw [e652]; exact Ar653.1) (State.isArrayOf_alike hZ.alike Ar653.2.1) Ar653.2.2 hin654 hat655 (g := (mkF m 24 L_646 [(.int (0 : Int32)), (.ref br), (.long c0)])) rfl rfl (hb hby d7_24) _ ?_
    refine XS.lsub X652.here hx rfl (hb hby d7_25) rfl ?_
    refine XS.lstoreN X652.here hx rfl (hb hby d7_26) rfl (l' := L_656) rfl ?_
    refine XS.aloadN X652.here hx rfl (hb hby d7_27) rfl rfl ?_
    refine XS.iloadN X652.here hx rfl (hb hby d7_28) rfl ?_
    show Steps p.tables e below (T652.setTop (mkF m 29 L_656 [(.int (0 : Int32)), (.ref a1)])) _
    refine X652.laload hx (j := (0 : Int32)) (v := (.long s0)) (by rw [e652]; exact Ar657.1) (State.isArrayOf_alike hZ.alike Ar657.2.1) Ar657.2.2 hin658 hat659 (g := (mkF m 29 L_656 [(.int (0 : Int32)), (.ref a1)])) rfl rfl (hb hby d7_29) _ ?_
    refine XS.lloadN X652.here hx rfl (hb hby d7_30) rfl ?_
    refine XS.lcmp X652.here hx rfl (hb hby d7_31) rfl ?_
    exact k)
  obtain ⟨T718, h718, L718, X718, e718, N718, Z718, hk, K718, f718_0, f718_1, f718_2, f718_3, f718_4, f718_5, f718_6, f718_7, pre718⟩ : ∃ (T718 : State) (h718 : Heap) (L718 : List Loc), Stand p l e rr7_2 (s.setVm T636.vm) m #[(.ref a0), (.ref a1)] below meth c T718 L718 2 24 ∧ T718.heap = h718 ∧ Fr n0 L718 ∧ n0 ≤ h718.size ∧ T636.heap.size ≤ h718.size ∧ Keep h0 h718 [bw, br] ∧ Exa Z h718 a0 "com/example/stowline/stowline/VolumeBound" ∧ Fld Z h718 a0 "com/example/stowline/stowline/VolumeBound" "capacities" "[J" (.ref bc) ∧ Fld Z h718 a0 "com/example/stowline/stowline/VolumeBound" "wholeCapacities" "[J" (.ref bw) ∧ Fld Z h718 a0 "com/example/stowline/stowline/VolumeBound" "remainders" "[J" (.ref br) ∧ Arv Z h718 bc k_bc .long (2 : Int32) [(.long c0), (.long c1)] (.long (0 : Int64)) ∧ Arv Z h718 bw k_bw .long (2 : Int32) [(.long (j7_2_0 c0 w0 r0 s0)), (.long w1)] (.long (0 : Int64)) ∧ Arv Z h718 br k_br .long (2 : Int32) [(.long (j7_2_1 c0 r0 s0)), (.long r1)] (.long (0 : Int64)) ∧ Arv Z h718 a1 k_a1 .long (2 : Int32) [(.long s0), (.long s1)] (.long (0 : Int64)) ∧ ∀ t, Steps p.tables e below (T718.setTop (mkF m 71 L_656 [])) t → Steps p.tables e below (s₁.setTop (entryFrame m #[(.ref a0), (.ref a1)] 5)) t := by
    by_cases hc719 : s0 < (c0 - r0)
    · skip
      obtain ⟨T720, X720, e720, st720⟩ := getF X652 hx hZ hown (host := "") (Or.inl (own_m hw 56 rfl)) Via.refl e652 f641 (g := (mkF m 60 L_656 [(.ref a0)])) rfl rfl (hb hby d7_60)
      obtain ⟨cl721, Ar721, q721, S721, M721, H721, G721⟩ := id f644
      have hin722 : ¬ ((0 : Int32) < 0 ∨ cl721.slots.size ≤ ((0 : Int32)).toNatClampNeg) := inb_of S721 ⟨by decide, by decide⟩
      have hat723 : cl721.slots[((0 : Int32)).toNatClampNeg]? = some (.long r0) := H721.at hin722 rfl
      obtain ⟨cl724, Ar724, q724, S724, M724, H724, G724⟩ := id f645
      have hin725 : ¬ ((0 : Int32) < 0 ∨ cl724.slots.size ≤ ((0 : Int32)).toNatClampNeg) := inb_of S724 ⟨by decide, by decide⟩
      have hat726 : cl724.slots[((0 : Int32)).toNatClampNeg]? = some (.long s0) := H724.at hin725 rfl
      obtain ⟨cl727, Ar727, q727, S727, M727, H727, G727⟩ := id f644
      have hin728 : ¬ ((0 : Int32) < 0 ∨ cl727.slots.size ≤ ((0 : Int32)).toNatClampNeg) := inb_of S727 ⟨by decide, by decide⟩
      obtain ⟨T729, h729, X729, e729, W729, st729⟩ := stJ X720 hx hZ e720 Ar727 (j := (0 : Int32)) hin728 (g := (mkF m 70 L_656 [(.long (r0 + s0)), (.int (0 : Int32)), (.ref br)])) rfl rfl (hb hby d7_70)
      have V729 : Arv Z h729 br k_br .long (2 : Int32) [(.long (r0 + s0)), (.long r1)] (.long (0 : Int64)) := Arv.set Ar727 q727 S727 M727 H727 G727 rfl W729 0 rfl (Nat.le_of_ble_eq_true rfl)
      have f730 := f638.wr W729
      have f731 := f639.other W729 (Or.inl ne_a0_br)
      have f732 := f640.other W729 (Or.inl ne_a0_br)
      have f733 := f641.other W729 (Or.inl ne_a0_br)
      have f734 := f642.other W729 ne_bc_br
      have f735 := f643.other W729 ne_bw_br
      have f737 := f645.other W729 ne_a1_br
      have K738 := K636.wr W729 (Or.inl (List.mem_of_getElem? (i := 1) rfl))
      have Z739 := Nat.le_trans Z636 (Keep.of_wr W729).1
      have hk := Nat.le_trans hk (Keep.of_wr W729).1
      have N740 := Fr.snoc X729 N636 g_br
      have pre741 := fun (t : State) (k : Steps p.tables e below (T729.setTop (mkF m 71 L_656 [])) t) => pre717 t (by
        show Steps p.tables e below (T652.setTop (mkF m 32 L_656 [(.int (lcmpW s0 (c0 - r0)))])) _
        refine XS.ifYes X652.here hx rfl (pc0 := 32) (pc' := 59) rfl (hb hby d7_32) rfl ((if0 _ _).trans (tlt ((own_lt s0 (c0 - r0)).mpr hc719)).1) (by decide) (by decide) ?_
        refine XS.aloadN X652.here hx rfl (hb hby d7_59) rfl rfl ?_
        show Steps p.tables e below (T652.setTop (mkF m 60 L_656 [(.ref a0)])) _
        refine st720 _ ?_
        refine XS.iloadN X720.here hx rfl (hb hby d7_63) rfl ?_
        show Steps p.tables e below (T720.setTop (mkF m 64 L_656 [(.int (0 : Int32)), (.ref br)])) _
        refine XT.dup2 X720.here hx rfl (hb hby d7_64) rfl rfl rfl ?_
        show Steps p.tables e below (T720.setTop (mkF m 65 L_656 [(.int (0 : Int32)), (.ref br), (.int (0 : Int32)), (.ref br)])) _
        refine X720.laload hx (j := (0 : Int32)) (v := (.long r0)) (by rw [e720]; exact Ar721.1) (State.isArrayOf_alike hZ.alike Ar721.2.1) Ar721.2.2 hin722 hat723 (g := (mkF m 65 L_656 [(.int (0 : Int32)), (.ref br), (.int (0 : Int32)), (.ref br)])) rfl rfl (hb hby d7_65) _ ?_
        refine XS.aloadN X720.here hx rfl (hb hby d7_66) rfl rfl ?_
        refine XS.iloadN X720.here hx rfl (hb hby d7_67) rfl ?_
        show Steps p.tables e below (T720.setTop (mkF m 68 L_656 [(.int (0 : Int32)), (.ref a1), (.long r0), (.int (0 : Int32)), (.ref br)])) _
        refine X720.laload hx (j := (0 : Int32)) (v := (.long s0)) (by rw [e720]; exact Ar724.1) (State.isArrayOf_alike hZ.alike Ar724.2.1) Ar724.2.2 hin725 hat726 (g := (mkF m 68 L_656 [(.int (0 : Int32)), (.ref a1), (.long r0), (.int (0 : Int32)), (.ref br)])) rfl rfl (hb hby d7_68) _ ?_
        refine XS.ladd X720.here hx rfl (hb hby d7_69) rfl ?_
        show Steps p.tables e below (T720.setTop (mkF m 70 L_656 [(.long (r0 + s0)), (.int (0 : Int32)), (.ref br)])) _
        refine st729 _ ?_
        exact k)
      have hj742 : (j7_2_0 c0 w0 r0 s0) = w0 := by unfold j7_2_0; first | (rw [if_pos hc719]) | (simp only [if_pos hc719])
      have hj743 : (j7_2_1 c0 r0 s0) = (r0 + s0) := by unfold j7_2_1; first | (rw [if_pos hc719]) | (simp only [if_pos hc719])
      exact ⟨T729, h729, _, X729, e729, N740, Z739, hk, K738, f730, f731, f732, f733, f734, (by rw [hj742]; exact f735), (by rw [hj743]; exact V729), f737, fun t k => pre741 t (by exact k)⟩
    · skip
      obtain ⟨T744, X744, e744, st744⟩ := getF X652 hx hZ hown (host := "") (Or.inl (own_m hw 54 rfl)) Via.refl e652 f640 (g := (mkF m 36 L_656 [(.ref a0)])) rfl rfl (hb hby d7_36)
      obtain ⟨cl745, Ar745, q745, S745, M745, H745, G745⟩ := id f643
      have hin746 : ¬ ((0 : Int32) < 0 ∨ cl745.slots.size ≤ ((0 : Int32)).toNatClampNeg) := inb_of S745 ⟨by decide, by decide⟩
      have hat747 : cl745.slots[((0 : Int32)).toNatClampNeg]? = some (.long w0) := H745.at hin746 rfl
      obtain ⟨cl748, Ar748, q748, S748, M748, H748, G748⟩ := id f643
      have hin749 : ¬ ((0 : Int32) < 0 ∨ cl748.slots.size ≤ ((0 : Int32)).toNatClampNeg) := inb_of S748 ⟨by decide, by decide⟩
      obtain ⟨T750, h750, X750, e750, W750, st750⟩ := stJ X744 hx hZ e744 Ar748 (j := (0 : Int32)) hin749 (g := (mkF m 44 L_656 [(.long (w0 + (1 : Int64))), (.int (0 : Int32)), (.ref bw)])) rfl rfl (hb hby d7_44)
      have V750 : Arv Z h750 bw k_bw .long (2 : Int32) [(.long (w0 + (1 : Int64))), (.long w1)] (.long (0 : Int64)) := Arv.set Ar748 q748 S748 M748 H748 G748 rfl W750 0 rfl (Nat.le_of_ble_eq_true rfl)
      have f751 := f638.wr W750
      have f752 := f639.other W750 (Or.inl ne_a0_bw)
      have f753 := f640.other W750 (Or.inl ne_a0_bw)
      have f754 := f641.other W750 (Or.inl ne_a0_bw)
      have f755 := f642.other W750 ne_bc_bw
      have f757 := f644.other W750 (Ne.symm ne_bw_br)
      have f758 := f645.other W750 ne_a1_bw
      have K759 := K636.wr W750 (Or.inl (List.mem_of_getElem? (i := 0) rfl))
      have Z760 := Nat.le_trans Z636 (Keep.of_wr W750).1
      have hk := Nat.le_trans hk (Keep.of_wr W750).1
      have N761 := Fr.snoc X750 N636 g_bw
      obtain ⟨T762, X762, e762, st762⟩ := getF X750 hx hZ hown (host := "") (Or.inl (own_m hw 56 rfl)) Via.refl e750 f754 (g := (mkF m 46 L_656 [(.ref a0)])) rfl rfl (hb hby d7_46)
      obtain ⟨cl763, Ar763, q763, S763, M763, H763, G763⟩ := id f758
      have hin764 : ¬ ((0 : Int32) < 0 ∨ cl763.slots.size ≤ ((0 : Int32)).toNatClampNeg) := inb_of S763 ⟨by decide, by decide⟩
      have hat765 : cl763.slots[((0 : Int32)).toNatClampNeg]? = some (.long s0) := H763.at hin764 rfl
      obtain ⟨cl766, Ar766, q766, S766, M766, H766, G766⟩ := id f757
      have hin767 : ¬ ((0 : Int32) < 0 ∨ cl766.slots.size ≤ ((0 : Int32)).toNatClampNeg) := inb_of S766 ⟨by decide, by decide⟩
      obtain ⟨T768, h768, X768, e768, W768, st768⟩ := stJ X762 hx hZ e762 Ar766 (j := (0 : Int32)) hin767 (g := (mkF m 55 L_656 [(.long (s0 - (c0 - r0))), (.int (0 : Int32)), (.ref br)])) rfl rfl (hb hby d7_55)
      have V768 : Arv Z h768 br k_br .long (2 : Int32) [(.long (s0 - (c0 - r0))), (.long r1)] (.long (0 : Int64)) := Arv.set Ar766 q766 S766 M766 H766 G766 rfl W768 0 rfl (Nat.le_of_ble_eq_true rfl)
      have f769 := f751.wr W768
      have f770 := f752.other W768 (Or.inl ne_a0_br)
      have f771 := f753.other W768 (Or.inl ne_a0_br)
      have f772 := f754.other W768 (Or.inl ne_a0_br)
      have f773 := f755.other W768 ne_bc_br
      have f774 := V750.other W768 ne_bw_br
      have f776 := f758.other W768 ne_a1_br
      have K777 := K759.wr W768 (Or.inl (List.mem_of_getElem? (i := 1) rfl))
      have Z778 := Nat.le_trans Z760 (Keep.of_wr W768).1
      have hk := Nat.le_trans hk (Keep.of_wr W768).1
      have N779 := Fr.snoc X768 N761 g_br
      have pre780 := fun (t : State) (k : Steps p.tables e below (T768.setTop (mkF m 71 L_656 [])) t) => pre717 t (by
        show Steps p.tables e below (T652.setTop (mkF m 32 L_656 [(.int (lcmpW s0 (c0 - r0)))])) _
        refine XS.ifNo X652.here hx rfl (hb hby d7_32) rfl ((if0 _ _).trans (flt (mt (own_lt s0 (c0 - r0)).mp hc719)).1) ?_
        refine XS.aloadN X652.here hx rfl (hb hby d7_35) rfl rfl ?_
        show Steps p.tables e below (T652.setTop (mkF m 36 L_656 [(.ref a0)])) _
        refine st744 _ ?_
        refine XS.iloadN X744.here hx rfl (hb hby d7_39) rfl ?_
        show Steps p.tables e below (T744.setTop (mkF m 40 L_656 [(.int (0 : Int32)), (.ref bw)])) _
        refine XT.dup2 X744.here hx rfl (hb hby d7_40) rfl rfl rfl ?_
        show Steps p.tables e below (T744.setTop (mkF m 41 L_656 [(.int (0 : Int32)), (.ref bw), (.int (0 : Int32)), (.ref bw)])) _
        refine X744.laload hx (j := (0 : Int32)) (v := (.long w0)) (by rw [e744]; exact Ar745.1) (State.isArrayOf_alike hZ.alike Ar745.2.1) Ar745.2.2 hin746 hat747 (g := (mkF m 41 L_656 [(.int (0 : Int32)), (.ref bw), (.int (0 : Int32)), (.ref bw)])) rfl rfl (hb hby d7_41) _ ?_
        refine XS.lconst X744.here hx rfl (hb hby d7_42) ?_
        refine XS.ladd X744.here hx rfl (hb hby d7_43) rfl ?_
        show Steps p.tables e below (T744.setTop (mkF m 44 L_656 [(.long (w0 + (1 : Int64))), (.int (0 : Int32)), (.ref bw)])) _
        refine st750 _ ?_
        refine XS.aloadN X750.here hx rfl (hb hby d7_45) rfl rfl ?_
        show Steps p.tables e below (T750.setTop (mkF m 46 L_656 [(.ref a0)])) _
        refine st762 _ ?_
        refine XS.iloadN X762.here hx rfl (hb hby d7_49) rfl ?_
        refine XS.aloadN X762.here hx rfl (hb hby d7_50) rfl rfl ?_
        refine XS.iloadN X762.here hx rfl (hb hby d7_51) rfl ?_
        show Steps p.tables e below (T762.setTop (mkF m 52 L_656 [(.int (0 : Int32)), (.ref a1), (.int (0 : Int32)), (.ref br)])) _
        refine X762.laload hx (j := (0 : Int32)) (v := (.long s0)) (by rw [e762]; exact Ar763.1) (State.isArrayOf_alike hZ.alike Ar763.2.1) Ar763.2.2 hin764 hat765 (g := (mkF m 52 L_656 [(.int (0 : Int32)), (.ref a1), (.int (0 : Int32)), (.ref br)])) rfl rfl (hb hby d7_52) _ ?_
        refine XS.lloadN X762.here hx rfl (hb hby d7_53) rfl ?_
        refine XS.lsub X762.here hx rfl (hb hby d7_54) rfl ?_
        show Steps p.tables e below (T762.setTop (mkF m 55 L_656 [(.long (s0 - (c0 - r0))), (.int (0 : Int32)), (.ref br)])) _
        refine st768 _ ?_
        refine XS.goto X768.here hx rfl (pc0 := 56) (pc' := 71) rfl (hb hby d7_56) (by decide) (by decide) ?_
        exact k)
      have hj781 : (j7_2_0 c0 w0 r0 s0) = (w0 + (1 : Int64)) := by unfold j7_2_0; first | (rw [if_neg hc719]) | (simp only [if_neg hc719])
      have hj782 : (j7_2_1 c0 r0 s0) = (s0 - (c0 - r0)) := by unfold j7_2_1; first | (rw [if_neg hc719]) | (simp only [if_neg hc719])
      exact ⟨T768, h768, _, X768, e768, N779, Z778, hk, K777, f769, f770, f771, f772, f773, (by rw [hj781]; exact f774), (by rw [hj782]; exact V768), f776, fun t k => pre780 t (by exact k)⟩
  let L_783 : Array Slot := #[.val (.ref a0), .val (.ref a1), .val (.int (1 : Int32)), .val (.long (c0 - r0)), .second]
  obtain ⟨cl784, Ar784, q784, S784, M784, H784, G784⟩ := id f718_7
  obtain ⟨T785, X785, e785, st785⟩ := getF X718 hx hZ hown (host := "") (Or.inl (own_m hw 52 rfl)) Via.refl e718 f718_1 (g := (mkF m 14 L_783 [(.ref a0)])) rfl rfl (hb hby d7_14)
  obtain ⟨cl786, Ar786, q786, S786, M786, H786, G786⟩ := id f718_4
  have hin787 : ¬ ((1 : Int32) < 0 ∨ cl786.slots.size ≤ ((1 : Int32)).toNatClampNeg) := inb_of S786 ⟨by decide, by decide⟩
  have hat788 : cl786.slots[((1 : Int32)).toNatClampNeg]? = some (.long c1) := H786.at hin787 rfl
  obtain ⟨T789, X789, e789, st789⟩ := getF X785 hx hZ hown (host := "") (Or.inl (own_m hw 56 rfl)) Via.refl e785 f718_3 (g := (mkF m 20 L_783 [(.ref a0), (.long c1)])) rfl rfl (hb hby d7_20)
  obtain ⟨cl790, Ar790, q790, S790, M790, H790, G790⟩ := id f718_6
  have hin791 : ¬ ((1 : Int32) < 0 ∨ cl790.slots.size ≤ ((1 : Int32)).toNatClampNeg) := inb_of S790 ⟨by decide, by decide⟩
  have hat792 : cl790.slots[((1 : Int32)).toNatClampNeg]? = some (.long r1) := H790.at hin791 rfl
  let L_793 : Array Slot := #[.val (.ref a0), .val (.ref a1), .val (.int (1 : Int32)), .val (.long (c1 - r1)), .second]
  obtain ⟨cl794, Ar794, q794, S794, M794, H794, G794⟩ := id f718_7
  have hin795 : ¬ ((1 : Int32) < 0 ∨ cl794.slots.size ≤ ((1 : Int32)).toNatClampNeg) := inb_of S794 ⟨by decide, by decide⟩
  have hat796 : cl794.slots[((1 : Int32)).toNatClampNeg]? = some (.long s1) := H794.at hin795 rfl
  have pre854 := fun (t : State) (k : Steps p.tables e below (T789.setTop (mkF m 32 L_793 [(.int (lcmpW s1 (c1 - r1)))])) t) => pre718 t (by
    show Steps p.tables e below (T718.setTop (mkF m 71 L_656 [])) _
    refine XS.iinc X718.here hx rfl (hb hby d7_71) rfl (l' := L_783) rfl ?_
    refine XS.goto X718.here hx rfl (pc0 := 74) (pc' := 7) rfl (hb hby d7_74) (by decide) (by decide) ?_
    refine XS.iloadN X718.here hx rfl (hb hby d7_7) rfl ?_
    refine XS.aloadN X718.here hx rfl (hb hby d7_8) rfl rfl ?_
    show Steps p.tables e below (T718.setTop (mkF m 9 L_783 [(.ref a1), (.int (1 : Int32))])) _
    refine X718.arraylength hx (by rw [e718]; exact Ar784.1) (State.isArrayOf_alike hZ.alike Ar784.2.1) (g := (mkF m 9 L_783 [(.ref a1), (.int (1 : Int32))])) rfl rfl (hb hby d7_9) _ ?_
    rw [len_of S784 M784]
    refine XS.icmpNo X718.here hx rfl (hb hby d7_10) rfl (tlt (by decide : (1 : Int32) < (2 : Int32))).2.1 ?_
    refine XS.aloadN X718.here hx rfl (hb hby d7_13) rfl rfl ?_
    show Steps p.tables e below (T718.setTop (mkF m 14 L_783 [(.ref a0)])) _
    refine st785 _ ?_
    refine XS.iloadN X785.here hx rfl (hb hby d7_17) rfl ?_
    show Steps p.tables e below (T785.setTop (mkF m 18 L_783 [(.int (1 : Int32)), (.ref bc)])) _
    refine X785.laload hx (j := (1 : Int32)) (v := (.long c1)) (by rw [e785]; exact Ar786.1) (State.isArrayOf_alike hZ.alike Ar786.2.1) Ar786.2.2 hin787 hat788 (g := (mkF m 18 L_783 [(.int (1 : Int32)), (.ref bc)])) rfl rfl (hb hby d7_18) _ ?_
    refine XS.aloadN X785.here hx rfl (hb hby d7_19) rfl rfl ?_
    show Steps p.tables e below (T785.setTop (mkF m 20 L_783 [(.ref a0), (.long c1)])) _
    refine st789 _ ?_
    refine XS.iloadN X789.here hx rfl (hb hby d7_23) rfl ?_
    show Steps p.tables e below (T789.setTop (mkF m 24 L_783 [(.int (1 : Int32)), (.ref br), (.long c1)])) _
    refine X789.laload hx (j := (1 : Int32)) (v := (.long r1)) (by rw [e789]; exact Ar790.1) (State.isArrayOf_alike hZ.alike Ar790.2.1) Ar790.2.2 hin791 hat792 (g := (mkF m 24 L_783 [(.int (1 : Int32)), (.ref br), (.long c1)])) rfl rfl (hb hby d7_24) _ ?_
    refine XS.lsub X789.here hx rfl (hb hby d7_25) rfl ?_
    refine XS.lstoreN X789.here hx rfl (hb hby d7_26) rfl (l' := L_793) rfl ?_
    refine XS.aloadN X789.here hx rfl (hb hby d7_27) rfl rfl ?_
    refine XS.iloadN X789.here hx rfl (hb hby d7_28) rfl ?_
    show Steps p.tables e below (T789.setTop (mkF m 29 L_793 [(.int (1 : Int32)), (.ref a1)])) _
    refine X789.laload hx (j := (1 : Int32)) (v := (.long s1)) (by rw [e789]; exact Ar794.1) (State.isArrayOf_alike hZ.alike Ar794.2.1) Ar794.2.2 hin795 hat796 (g := (mkF m 29 L_793 [(.int (1 : Int32)), (.ref a1)])) rfl rfl (hb hby d7_29) _ ?_
    refine XS.lloadN X789.here hx rfl (hb hby d7_30) rfl ?_
    refine XS.lcmp X789.here hx rfl (hb hby d7_31) rfl ?_
    exact k)
  obtain ⟨T855, h855, L855, X855, e855, N855, Z855, hk, K855, f855_0, f855_1, f855_2, f855_3, f855_4, f855_5, f855_6, f855_7, pre855⟩ : ∃ (T855 : State) (h855 : Heap) (L855 : List Loc), Stand p l e rr7_2 (s.setVm T636.vm) m #[(.ref a0), (.ref a1)] below meth c T855 L855 2 24 ∧ T855.heap = h855 ∧ Fr n0 L855 ∧ n0 ≤ h855.size ∧ T636.heap.size ≤ h855.size ∧ Keep h0 h855 [bw, br] ∧ Exa Z h855 a0 "com/example/stowline/stowline/VolumeBound" ∧ Fld Z h855 a0 "com/example/stowline/stowline/VolumeBound" "capacities" "[J" (.ref bc) ∧ Fld Z h855 a0 "com/example/stowline/stowline/VolumeBound" "wholeCapacities" "[J" (.ref bw) ∧ Fld Z h855 a0 "com/example/stowline/stowline/VolumeBound" "remainders" "[J" (.ref br) ∧ Arv Z h855 bc k_bc .long (2 : Int32) [(.long c0), (.long c1)] (.long (0 : Int64)) ∧ Arv Z h855 bw k_bw .long (2 : Int32) [(.long (j7_2_0 c0 w0 r0 s0)), (.long (j7_2_2 c1 w1 r1 s1))] (.long (0 : Int64)) ∧ Arv Z h855 br k_br .long (2 : Int32) [(.long (j7_2_1 c0 r0 s0)), (.long (j7_2_3 c1 r1 s1))] (.long (0 : Int64)) ∧ Arv Z h855 a1 k_a1 .long (2 : Int32) [(.long s0), (.long s1)] (.long (0 : Int64)) ∧ ∀ t, Steps p.tables e below (T855.setTop (mkF m 71 L_793 [])) t → Steps p.tables e below (s₁.setTop (entryFrame m #[(.ref a0), (.ref a1)] 5)) t := by
    by_cases hc856 : s1 < (c1 - r1)
    · skip
      obtain ⟨T857, X857, e857, st857⟩ := getF X789 hx hZ hown (host := "") (Or.inl (own_m hw 56 rfl)) Via.refl e789 f718_3 (g := (mkF m 60 L_793 [(.ref a0)])) rfl rfl (hb hby d7_60)
      obtain ⟨cl858, Ar858, q858, S858, M858, H858, G858⟩ := id f718_6
      have hin859 : ¬ ((1 : Int32) < 0 ∨ cl858.slots.size ≤ ((1 : Int32)).toNatClampNeg) := inb_of S858 ⟨by decide, by decide⟩
      have hat860 : cl858.slots[((1 : Int32)).toNatClampNeg]? = some (.long r1) := H858.at hin859 rfl
      obtain ⟨cl861, Ar861, q861, S861, M861, H861, G861⟩ := id f718_7
      have hin862 : ¬ ((1 : Int32) < 0 ∨ cl861.slots.size ≤ ((1 : Int32)).toNatClampNeg) := inb_of S861 ⟨by decide, by decide⟩
      have hat863 : cl861.slots[((1 : Int32)).toNatClampNeg]? = some (.long s1) := H861.at hin862 rfl
      obtain ⟨cl864, Ar864, q864, S864, M864, H864, G864⟩ := id f718_6
      have hin865 : ¬ ((1 : Int32) < 0 ∨ cl864.slots.size ≤ ((1 : Int32)).toNatClampNeg) := inb_of S864 ⟨by decide, by decide⟩
      obtain ⟨T866, h866, X866, e866, W866, st866⟩ := stJ X857 hx hZ e857 Ar864 (j := (1 : Int32)) hin865 (g := (mkF m 70 L_793 [(.long (r1 + s1)), (.int (1 : Int32)), (.ref br)])) rfl rfl (hb hby d7_70)
      have V866 : Arv Z h866 br k_br .long (2 : Int32) [(.long (j7_2_1 c0 r0 s0)), (.long (r1 + s1))] (.long (0 : Int64)) := Arv.set Ar864 q864 S864 M864 H864 G864 rfl W866 1 rfl (Nat.le_of_ble_eq_true rfl)
      have f867 := f718_0.wr W866
      have f868 := f718_1.other W866 (Or.inl ne_a0_br)
      have f869 := f718_2.other W866 (Or.inl ne_a0_br)
      have f870 := f718_3.other W866 (Or.inl ne_a0_br)
      have f871 := f718_4.other W866 ne_bc_br
      have f872 := f718_5.other W866 ne_bw_br
      have f874 := f718_7.other W866 ne_a1_br
      have K875 := K718.wr W866 (Or.inl (List.mem_of_getElem? (i := 1) rfl))
      have Z876 := Nat.le_trans Z718 (Keep.of_wr W866).1
      have hk := Nat.le_trans hk (Keep.of_wr W866).1
      have N877 := Fr.snoc X866 N718 g_br
      have pre878 := fun (t : State) (k : Steps p.tables e below (T866.setTop (mkF m 71 L_793 [])) t) => pre854 t (by
        show Steps p.tables e below (T789.setTop (mkF m 32 L_793 [(.int (lcmpW s1 (c1 - r1)))])) _
        refine XS.ifYes X789.here hx rfl (pc0 := 32) (pc' := 59) rfl (hb hby d7_32) rfl ((if0 _ _).trans (tlt ((own_lt s1 (c1 - r1)).mpr hc856)).1) (by decide) (by decide) ?_
        refine XS.aloadN X789.here hx rfl (hb hby d7_59) rfl rfl ?_
        show Steps p.tables e below (T789.setTop (mkF m 60 L_793 [(.ref a0)])) _
        refine st857 _ ?_
        refine XS.iloadN X857.here hx rfl (hb hby d7_63) rfl ?_
        show Steps p.tables e below (T857.setTop (mkF m 64 L_793 [(.int (1 : Int32)), (.ref br)])) _
        refine XT.dup2 X857.here hx rfl (hb hby d7_64) rfl rfl rfl ?_
        show Steps p.tables e below (T857.setTop (mkF m 65 L_793 [(.int (1 : Int32)), (.ref br), (.int (1 : Int32)), (.ref br)])) _
        refine X857.laload hx (j := (1 : Int32)) (v := (.long r1)) (by rw [e857]; exact Ar858.1) (State.isArrayOf_alike hZ.alike Ar858.2.1) Ar858.2.2 hin859 hat860 (g := (mkF m 65 L_793 [(.int (1 : Int32)), (.ref br), (.int (1 : Int32)), (.ref br)])) rfl rfl (hb hby d7_65) _ ?_
        refine XS.aloadN X857.here hx rfl (hb hby d7_66) rfl rfl ?_
        refine XS.iloadN X857.here hx rfl (hb hby d7_67) rfl ?_
        show Steps p.tables e below (T857.setTop (mkF m 68 L_793 [(.int (1 : Int32)), (.ref a1), (.long r1), (.int (1 : Int32)), (.ref br)])) _
        refine X857.laload hx (j := (1 : Int32)) (v := (.long s1)) (by rw [e857]; exact Ar861.1) (State.isArrayOf_alike hZ.alike Ar861.2.1) Ar861.2.2 hin862 hat863 (g := (mkF m 68 L_793 [(.int (1 : Int32)), (.ref a1), (.long r1), (.int (1 : Int32)), (.ref br)])) rfl rfl (hb hby d7_68) _ ?_
        refine XS.ladd X857.here hx rfl (hb hby d7_69) rfl ?_
        show Steps p.tables e below (T857.setTop (mkF m 70 L_793 [(.long (r1 + s1)), (.int (1 : Int32)), (.ref br)])) _
        refine st866 _ ?_
        exact k)
      have hj879 : (j7_2_2 c1 w1 r1 s1) = w1 := by unfold j7_2_2; first | (rw [if_pos hc856]) | (simp only [if_pos hc856])
      have hj880 : (j7_2_3 c1 r1 s1) = (r1 + s1) := by unfold j7_2_3; first | (rw [if_pos hc856]) | (simp only [if_pos hc856])
      exact ⟨T866, h866, _, X866, e866, N877, Z876, hk, K875, f867, f868, f869, f870, f871, (by rw [hj879]; exact f872), (by rw [hj880]; exact V866), f874, fun t k => pre878 t (by exact k)⟩
    · skip
      obtain ⟨T881, X881, e881, st881⟩ := getF X789 hx hZ hown (host := "") (Or.inl (own_m hw 54 rfl)) Via.refl e789 f718_2 (g := (mkF m 36 L_793 [(.ref a0)])) rfl rfl (hb hby d7_36)
      obtain ⟨cl882, Ar882, q882, S882, M882, H882, G882⟩ := id f718_5
      have hin883 : ¬ ((1 : Int32) < 0 ∨ cl882.slots.size ≤ ((1 : Int32)).toNatClampNeg) := inb_of S882 ⟨by decide, by decide⟩
      have hat884 : cl882.slots[((1 : Int32)).toNatClampNeg]? = some (.long w1) := H882.at hin883 rfl
      obtain ⟨cl885, Ar885, q885, S885, M885, H885, G885⟩ := id f718_5
      have hin886 : ¬ ((1 : Int32) < 0 ∨ cl885.slots.size ≤ ((1 : Int32)).toNatClampNeg) := inb_of S885 ⟨by decide, by decide⟩
      obtain ⟨T887, h887, X887, e887, W887, st887⟩ := stJ X881 hx hZ e881 Ar885 (j := (1 : Int32)) hin886 (g := (mkF m 44 L_793 [(.long (w1 + (1 : Int64))), (.int (1 : Int32)), (.ref bw)])) rfl rfl (hb hby d7_44)
      have V887 : Arv Z h887 bw k_bw .long (2 : Int32) [(.long (j7_2_0 c0 w0 r0 s0)), (.long (w1 + (1 : Int64)))] (.long (0 : Int64)) := Arv.set Ar885 q885 S885 M885 H885 G885 rfl W887 1 rfl (Nat.le_of_ble_eq_true rfl)
      have f888 := f718_0.wr W887
      have f889 := f718_1.other W887 (Or.inl ne_a0_bw)
      have f890 := f718_2.other W887 (Or.inl ne_a0_bw)
      have f891 := f718_3.other W887 (Or.inl ne_a0_bw)
      have f892 := f718_4.other W887 ne_bc_bw
      have f894 := f718_6.other W887 (Ne.symm ne_bw_br)
      have f895 := f718_7.other W887 ne_a1_bw
      have K896 := K718.wr W887 (Or.inl (List.mem_of_getElem? (i := 0) rfl))
      have Z897 := Nat.le_trans Z718 (Keep.of_wr W887).1
      have hk := Nat.le_trans hk (Keep.of_wr W887).1
      have N898 := Fr.snoc X887 N718 g_bw
      obtain ⟨T899, X899, e899, st899⟩ := getF X887 hx hZ hown (host := "") (Or.inl (own_m hw 56 rfl)) Via.refl e887 f891 (g := (mkF m 46 L_793 [(.ref a0)])) rfl rfl (hb hby d7_46)
      obtain ⟨cl900, Ar900, q900, S900, M900, H900, G900⟩ := id f895
      have hin901 : ¬ ((1 : Int32) < 0 ∨ cl900.slots.size ≤ ((1 : Int32)).toNatClampNeg) := inb_of S900 ⟨by decide, by decide⟩
      have hat902 : cl900.slots[((1 : Int32)).toNatClampNeg]? = some (.long s1) := H900.at hin901 rfl
      obtain ⟨cl903, Ar903, q903, S903, M903, H903, G903⟩ := id f894
      have hin904 : ¬ ((1 : Int32) < 0 ∨ cl903.slots.size ≤ ((1 : Int32)).toNatClampNeg) := inb_of S903 ⟨by decide, by decide⟩
      obtain ⟨T905, h905, X905, e905, W905, st905⟩ := stJ X899 hx hZ e899 Ar903 (j := (1 : Int32)) hin904 (g := (mkF m 55 L_793 [(.long (s1 - (c1 - r1))), (.int (1 : Int32)), (.ref br)])) rfl rfl (hb hby d7_55)
      have V905 : Arv Z h905 br k_br .long (2 : Int32) [(.long (j7_2_1 c0 r0 s0)), (.long (s1 - (c1 - r1)))] (.long (0 : Int64)) := Arv.set Ar903 q903 S903 M903 H903 G903 rfl W905 1 rfl (Nat.le_of_ble_eq_true rfl)
      have f906 := f888.wr W905
      have f907 := f889.other W905 (Or.inl ne_a0_br)
      have f908 := f890.other W905 (Or.inl ne_a0_br)
      have f909 := f891.other W905 (Or.inl ne_a0_br)
      have f910 := f892.other W905 ne_bc_br
      have f911 := V887.other W905 ne_bw_br
      have f913 := f895.other W905 ne_a1_br
      have K914 := K896.wr W905 (Or.inl (List.mem_of_getElem? (i := 1) rfl))
      have Z915 := Nat.le_trans Z897 (Keep.of_wr W905).1
      have hk := Nat.le_trans hk (Keep.of_wr W905).1
      have N916 := Fr.snoc X905 N898 g_br
      have pre917 := fun (t : State) (k : Steps p.tables e below (T905.setTop (mkF m 71 L_793 [])) t) => pre854 t (by
        show Steps p.tables e below (T789.setTop (mkF m 32 L_793 [(.int (lcmpW s1 (c1 - r1)))])) _
        refine XS.ifNo X789.here hx rfl (hb hby d7_32) rfl ((if0 _ _).trans (flt (mt (own_lt s1 (c1 - r1)).mp hc856)).1) ?_
        refine XS.aloadN X789.here hx rfl (hb hby d7_35) rfl rfl ?_
        show Steps p.tables e below (T789.setTop (mkF m 36 L_793 [(.ref a0)])) _
        refine st881 _ ?_
        refine XS.iloadN X881.here hx rfl (hb hby d7_39) rfl ?_
        show Steps p.tables e below (T881.setTop (mkF m 40 L_793 [(.int (1 : Int32)), (.ref bw)])) _
        refine XT.dup2 X881.here hx rfl (hb hby d7_40) rfl rfl rfl ?_
        show Steps p.tables e below (T881.setTop (mkF m 41 L_793 [(.int (1 : Int32)), (.ref bw), (.int (1 : Int32)), (.ref bw)])) _
        refine X881.laload hx (j := (1 : Int32)) (v := (.long w1)) (by rw [e881]; exact Ar882.1) (State.isArrayOf_alike hZ.alike Ar882.2.1) Ar882.2.2 hin883 hat884 (g := (mkF m 41 L_793 [(.int (1 : Int32)), (.ref bw), (.int (1 : Int32)), (.ref bw)])) rfl rfl (hb hby d7_41) _ ?_
        refine XS.lconst X881.here hx rfl (hb hby d7_42) ?_
        refine XS.ladd X881.here hx rfl (hb hby d7_43) rfl ?_
        show Steps p.tables e below (T881.setTop (mkF m 44 L_793 [(.long (w1 + (1 : Int64))), (.int (1 : Int32)), (.ref bw)])) _
        refine st887 _ ?_
        refine XS.aloadN X887.here hx rfl (hb hby d7_45) rfl rfl ?_
        show Steps p.tables e below (T887.setTop (mkF m 46 L_793 [(.ref a0)])) _
        refine st899 _ ?_
        refine XS.iloadN X899.here hx rfl (hb hby d7_49) rfl ?_
        refine XS.aloadN X899.here hx rfl (hb hby d7_50) rfl rfl ?_
        refine XS.iloadN X899.here hx rfl (hb hby d7_51) rfl ?_
        show Steps p.tables e below (T899.setTop (mkF m 52 L_793 [(.int (1 : Int32)), (.ref a1), (.int (1 : Int32)), (.ref br)])) _
        refine X899.laload hx (j := (1 : Int32)) (v := (.long s1)) (by rw [e899]; exact Ar900.1) (State.isArrayOf_alike hZ.alike Ar900.2.1) Ar900.2.2 hin901 hat902 (g := (mkF m 52 L_793 [(.int (1 : Int32)), (.ref a1), (.int (1 : Int32)), (.ref br)])) rfl rfl (hb hby d7_52) _ ?_
        refine XS.lloadN X899.here hx rfl (hb hby d7_53) rfl ?_
        refine XS.lsub X899.here hx rfl (hb hby d7_54) rfl ?_
        show Steps p.tables e below (T899.setTop (mkF m 55 L_793 [(.long (s1 - (c1 - r1))), (.int (1 : Int32)), (.ref br)])) _
        refine st905 _ ?_
        refine XS.goto X905.here hx rfl (pc0 := 56) (pc' := 71) rfl (hb hby d7_56) (by decide) (by decide) ?_
        exact k)
      have hj918 : (j7_2_2 c1 w1 r1 s1) = (w1 + (1 : Int64)) := by unfold j7_2_2; first | (rw [if_neg hc856]) | (simp only [if_neg hc856])
      have hj919 : (j7_2_3 c1 r1 s1) = (s1 - (c1 - r1)) := by unfold j7_2_3; first | (rw [if_neg hc856]) | (simp only [if_neg hc856])
      exact ⟨T905, h905, _, X905, e905, N916, Z915, hk, K914, f906, f907, f908, f909, f910, (by rw [hj918]; exact f911), (by rw [hj919]; exact V905), f913, fun t k => pre917 t (by exact k)⟩
  let L_920 : Array Slot := #[.val (.ref a0), .val (.ref a1), .val (.int (2 : Int32)), .val (.long (c1 - r1)), .second]
  obtain ⟨cl921, Ar921, q921, S921, M921, H921, G921⟩ := id f855_7
  obtain ⟨fs, hr, hrun, hended, hRW⟩ := X855.leaveW hS (own_hk hk e855) (v := none) (fun _ => rfl)
  refine ⟨_, _, pre855 _ ?_, hrun, hended, _, _, rfl, ?_, hRW.1, hRW.2.1, hRW.2.2.1, hRW.2.2.2.mono (by decide) (by decide)⟩
  · skip
    show Steps p.tables e below (T855.setTop (mkF m 71 L_793 [])) _
    refine XS.iinc X855.here hx rfl (hb hby d7_71) rfl (l' := L_920) rfl ?_
    refine XS.goto X855.here hx rfl (pc0 := 74) (pc' := 7) rfl (hb hby d7_74) (by decide) (by decide) ?_
    refine XS.iloadN X855.here hx rfl (hb hby d7_7) rfl ?_
    refine XS.aloadN X855.here hx rfl (hb hby d7_8) rfl rfl ?_
    show Steps p.tables e below (T855.setTop (mkF m 9 L_920 [(.ref a1), (.int (2 : Int32))])) _
    refine X855.arraylength hx (by rw [e855]; exact Ar921.1) (State.isArrayOf_alike hZ.alike Ar921.2.1) (g := (mkF m 9 L_920 [(.ref a1), (.int (2 : Int32))])) rfl rfl (hb hby d7_9) _ ?_
    rw [len_of S921 M921]
    refine XS.icmpYes X855.here hx rfl (pc0 := 10) (pc' := 77) rfl (hb hby d7_10) rfl (flt (by decide : ¬ ((2 : Int32) < (2 : Int32)))).2.1 (by decide) (by decide) ?_
    show Steps p.tables e below (T855.setTop (mkF m 77 L_920 [])) _
    exact X855.returnOut hx Bd.returns (hb hby d7_77) hr
  · show Q7_2 Z a0 a1 bc bw br c0 c1 w0 w1 r0 r1 s0 s1 k_bc k_bw k_br k_a1 h0 n0 _ T855.heap _
    rw [e855]
    exact ⟨rfl, N855, K855, f855_5, f855_6⟩
def j13_2_0 (w0 : Int64) (r0 : Int64) (s0 : Int64) : Int64 := (if r0 < s0 then (w0 - (1 : Int64)) else w0)
def j13_2_1 (c0 : Int64) (r0 : Int64) (s0 : Int64) : Int64 := (if r0 < s0 then (r0 + (c0 - s0)) else (r0 - s0))
def j13_2_2 (w1 : Int64) (r1 : Int64) (s1 : Int64) : Int64 := (if r1 < s1 then (w1 - (1 : Int64)) else w1)
def j13_2_3 (c1 : Int64) (r1 : Int64) (s1 : Int64) : Int64 := (if r1 < s1 then (r1 + (c1 - s1)) else (r1 - s1))
theorem ef13_2 (m : MethodId) (x0 : Addr) (x1 : Addr) : entryFrame m #[(.ref x0), (.ref x1)] 3 = mkF m 0 #[.val (.ref x0), .val (.ref x1), .unset] [] := by first | (simp [entryFrame, mkF, argsToLocals, Value.category]; done) | rfl
abbrev rr13_2 : Room := { frames := 3, cells := 2, slots := 24, locals := 40 }
def Q13_2 (Z : State) (a0 : Addr) (a1 : Addr) (bc : Addr) (bw : Addr) (br : Addr) (c0 : Int64) (c1 : Int64) (w0 : Int64) (w1 : Int64) (r0 : Int64) (r1 : Int64) (s0 : Int64) (s1 : Int64) (k_bc : ClassId) (k_bw : ClassId) (k_br : ClassId) (k_a1 : ClassId) (h0 : Heap) (n0 : Nat) (v : Option Value) (h : Heap) (L : List Loc) : Prop := v = none ∧ Fr n0 L ∧ Keep h0 h [bw, br] ∧ Arv Z h bw k_bw .long (2 : Int32) [(.long (j13_2_0 w0 r0 s0)), (.long (j13_2_2 w1 r1 s1))] (.long (0 : Int64)) ∧ Arv Z h br k_br .long (2 : Int32) [(.long (j13_2_1 c0 r0 s0)), (.long (j13_2_3 c1 r1 s1))] (.long (0 : Int64))
set_option maxRecDepth 65536 in
set_option maxHeartbeats 40000000 in
theorem rm13_2 (l : Launch) (Z : State) (aw : Array Value) (hw : ∀ d ∈ tables_1, d.before aw Z = true) (ws : List Jvm.Cond) (a0 : Addr) (a1 : Addr) (bc : Addr) (bw : Addr) (br : Addr) (c0 : Int64) (c1 : Int64) (w0 : Int64) (w1 : Int64) (r0 : Int64) (r1 : Int64) (s0 : Int64) (s1 : Int64) (k_bc : ClassId) (k_bw : ClassId) (k_br : ClassId) (k_a1 : ClassId) (h0 : Heap) (n0 : Nat) (Z0 : n0 ≤ h0.size) (E_a0 : Exa Z h0 a0 "com/example/stowline/stowline/VolumeBound") (F_capacities_a0 : Fld Z h0 a0 "com/example/stowline/stowline/VolumeBound" "capacities" "[J" (.ref bc)) (F_wholeCapacities_a0 : Fld Z h0 a0 "com/example/stowline/stowline/VolumeBound" "wholeCapacities" "[J" (.ref bw)) (F_remainders_a0 : Fld Z h0 a0 "com/example/stowline/stowline/VolumeBound" "remainders" "[J" (.ref br)) (V_bc : Arv Z h0 bc k_bc .long (2 : Int32) [(.long c0), (.long c1)] (.long (0 : Int64))) (V_bw : Arv Z h0 bw k_bw .long (2 : Int32) [(.long w0), (.long w1)] (.long (0 : Int64))) (V_br : Arv Z h0 br k_br .long (2 : Int32) [(.long r0), (.long r1)] (.long (0 : Int64))) (V_a1 : Arv Z h0 a1 k_a1 .long (2 : Int32) [(.long s0), (.long s1)] (.long (0 : Int64))) (g_bw : n0 ≤ bw) (g_br : n0 ≤ br) (ne_a0_bw : a0 ≠ bw) (ne_a0_br : a0 ≠ br) (ne_bc_bw : bc ≠ bw) (ne_bc_br : bc ≠ br) (ne_bw_br : bw ≠ br) (ne_a1_bw : a1 ≠ bw) (ne_a1_br : a1 ≠ br) (hs0 : ¬ s0 < (0 : Int64)) (hs1 : ¬ s1 < (0 : Int64)) (ht0 : ¬ c0 < s0) (ht1 : ¬ c1 < s1) (hr0 : r0 < s0 → ¬ w0 = (0 : Int64)) (hr1 : r1 < s1 → ¬ w1 = (0 : Int64)) :
    MetFree l (⟨"com/example/stowline/stowline/VolumeBound", "remove", "([J)V"⟩ : MethodName) (head1 (Jvm.Cond.code (⟨"com/example/stowline/stowline/VolumeBound", "remove", "([J)V"⟩ : MethodName) prog_29_method_4_code 3 none :: ws) rr13_2) (fun a U => a = #[(.ref a0), (.ref a1)] ∧ Z.Warmed39 U.vm ∧ U.heap = h0) (fun _ _ _ _ _ => True) (fun _ U o U' => ∃ v L, o = .returned v ∧ Q13_2 Z a0 a1 bc bw br c0 c1 w0 w1 r0 r1 s0 s1 k_bc k_bw k_br k_a1 h0 n0 v U'.heap L ∧ ReturnedEndW U o U' L rr13_2.cells rr13_2.slots) := by
  refine MetFree.of_bodySF (plainFor_of_name pn_3) hisR ?_
  intro p e s m args below meth c s₁ Bd hml0 hP hK
  obtain ⟨rfl, hZ, hh⟩ := hP
  have hx := Bd.exec
  have hby := Bd.bytes
  have hml : c.maxLocals = 3 := hml0
  have hown : s.vm.findClass "com/example/stowline/stowline/VolumeBound" = some m.cls := findClass_of_methodNamed Bd.named
  have hnm := (name_of_methodNamed Bd.named Bd.method).1
  have X0 : Stand p l e rr13_2 (s.setVm s.vm) m #[(.ref a0), (.ref a1)] below meth c s₁ [] 0 0 := Stand.of_body Bd
  have e0 : s₁.heap = h0 := by rw [← hh, Bd.state]; rfl
  have N0 := Fr.nil n0
  have K0 := Keep.refl h0 [bw, br]
  have hS : s.Since s.vm 0 := (State.WarmedH.refl s).since 0
  have hk : 0 ≤ h0.size := Nat.zero_le _
  have hstr : ∀ a ∈ Bundle.stringAtoms, a.before aw Z = true := fun d hd => hw d ((by decide +kernel : ∀ d ∈ Bundle.stringAtoms, d ∈ tables_1) d hd)
  have pre0 : ∀ t, Steps p.tables e below (s₁.setTop (mkF m 0 #[.val (.ref a0), .val (.ref a1), .unset] [])) t → Steps p.tables e below (s₁.setTop (entryFrame m #[(.ref a0), (.ref a1)] 3)) t := fun t k => castTop (ef13_2 m a0 a1) k
  let L_922 : Array Slot := #[.val (.ref a0), .val (.ref a1), .unset]
  have pre924 := fun (t : State) (k : Steps p.tables e below (s₁.setTop (mkF m 2 L_922 [(.ref a1), (.ref a0)])) t) => pre0 t (by
    show Steps p.tables e below (s₁.setTop (mkF m 0 L_922 [])) _
    refine XS.aloadN X0.here hx rfl (hb hby d13_0) rfl rfl ?_
    refine XS.aloadN X0.here hx rfl (hb hby d13_1) rfl rfl ?_
    exact k)
  obtain ⟨cq923, kq923, q923a, q923b, q923c⟩ := isOf hZ e0 E_a0
  obtain ⟨_, _, ⟨T923, L923, k923, n923⟩, -, X923, hSi923, hgr923, ⟨Lc923, hQ923, l923, y923, z923⟩, st923⟩ := X0.virtualBackS hx (y := (⟨"com/example/stowline/stowline/VolumeBound", "checkSizes", "([J)V"⟩ : MethodName)) (z := (⟨"com/example/stowline/stowline/VolumeBound", "checkSizes", "([J)V"⟩ : MethodName)) hown (mvT hZ (own_m hw 63 rfl)) (mvT hZ (own_m hw 64 rfl)) (notFace_of_selects (args := #[]) (mvT hZ (own_m hw 66 rfl))) (mvT hZ (own_m hw 66 rfl)) (mvT hZ (own_m hw 65 rfl)) (by decide) (backOfS (W := 0) (rm8_2 l Z aw hw [] a0 a1 bc c0 c1 s0 s1 k_bc k_a1 h0 n0 Z0 E_a0 F_capacities_a0 V_bc V_a1 hs0 hs1 ht0 ht1) hZ (own_m hw 67 rfl) (own_m hw 20 rfl) (by decide) (by decide)) q923a q923c (g := (mkF m 2 L_922 [(.ref a1), (.ref a0)])) rfl (by rw [hml]; rfl) (Steps.refl _) (argsL := [(.ref a1)]) (rest := []) (lenOf pd_6 rfl) rfl (by show 2 * 0 + _ ≤ _; exact Nat.le_of_eq rfl) (hb hby d13_2) (fun _ _ => ⟨rfl, e0, (by decide : 0 + 2 ≤ _), (by decide : 0 + 24 ≤ _)⟩)
  dsimp only [Pt.U, Pt.locs, Pt.cells, Pt.slots] at X923 l923 y923 z923 st923 hQ923 hSi923 hgr923
  subst l923 y923 z923
  obtain ⟨X923, hS, hZ, hown⟩ := rebS hS (show _ ≤ s₁.heap.size from own_hk hk e0) X923 hSi923 hgr923 hZ hown
  obtain ⟨h923, e923⟩ : ∃ z, T923.heap = z := ⟨_, rfl⟩
  rw [e923] at hQ923
  obtain ⟨rfl, N923q, K923q⟩ := hQ923
  have f925 := E_a0.keep K923q
  have f926 := F_capacities_a0.keep K923q nin0
  have f927 := F_wholeCapacities_a0.keep K923q nin0
  have f928 := F_remainders_a0.keep K923q nin0
  have f929 := V_bc.keep K923q nin0
  have f930 := V_bw.keep K923q nin0
  have f931 := V_br.keep K923q nin0
  have f932 := V_a1.keep K923q nin0
  have K923 := K0.trans K923q all0
  have Z923 := Nat.le_trans Z0 K923q.1
  have hk : T923.heap.size ≤ h923.size := by rw [e923]; exact Nat.le_refl _
  have N923 := Fr.app N0 N923q
  let L_933 : Array Slot := #[.val (.ref a0), .val (.ref a1), .val (.int (0 : Int32))]
  obtain ⟨cl934, Ar934, q934, S934, M934, H934, G934⟩ := id f932
  obtain ⟨cl935, Ar935, q935, S935, M935, H935, G935⟩ := id f932
  have hin936 : ¬ ((0 : Int32) < 0 ∨ cl935.slots.size ≤ ((0 : Int32)).toNatClampNeg) := inb_of S935 ⟨by decide, by decide⟩
  have hat937 : cl935.slots[((0 : Int32)).toNatClampNeg]? = some (.long s0) := H935.at hin936 rfl
  obtain ⟨T938, X938, e938, st938⟩ := getF X923 hx hZ hown (host := "") (Or.inl (own_m hw 56 rfl)) Via.refl e923 f928 (g := (mkF m 17 L_933 [(.ref a0), (.long s0)])) rfl rfl (hb hby d13_17)
  obtain ⟨cl939, Ar939, q939, S939, M939, H939, G939⟩ := id f931
  have hin940 : ¬ ((0 : Int32) < 0 ∨ cl939.slots.size ≤ ((0 : Int32)).toNatClampNeg) := inb_of S939 ⟨by decide, by decide⟩
  have hat941 : cl939.slots[((0 : Int32)).toNatClampNeg]? = some (.long r0) := H939.at hin940 rfl
  have pre946 := fun (t : State) (k : Steps p.tables e below (T938.setTop (mkF m 23 L_933 [(.int (lcmpW s0 r0))])) t) => pre924 t (by
    show Steps p.tables e below (s₁.setTop (mkF m 2 L_922 [(.ref a1), (.ref a0)])) _
    refine st923.trans ?_
    refine XS.iconst X923.here hx rfl (hb hby d13_5) ?_
    refine XS.istoreN X923.here hx rfl (hb hby d13_6) rfl (l' := L_933) rfl ?_
    refine XS.iloadN X923.here hx rfl (hb hby d13_7) rfl ?_
    refine XS.aloadN X923.here hx rfl (hb hby d13_8) rfl rfl ?_
    show Steps p.tables e below (T923.setTop (mkF m 9 L_933 [(.ref a1), (.int (0 : Int32))])) _
    refine X923.arraylength hx (by rw [e923]; exact Ar934.1) (State.isArrayOf_alike hZ.alike Ar934.2.1) (g := (mkF m 9 L_933 [(.ref a1), (.int (0 : Int32))])) rfl rfl (hb hby d13_9) _ ?_
    rw [len_of S934 M934]
    refine XS.icmpNo X923.here hx rfl (hb hby d13_10) rfl (tlt (by decide : (0 : Int32) < (2 : Int32))).2.1 ?_
    refine XS.aloadN X923.here hx rfl (hb hby d13_13) rfl rfl ?_
    refine XS.iloadN X923.here hx rfl (hb hby d13_14) rfl ?_
    show Steps p.tables e below (T923.setTop (mkF m 15 L_933 [(.int (0 : Int32)), (.ref a1)])) _
    refine X923.laload hx (j := (0 : Int32)) (v := (.long s0)) (by rw [e923]; exact Ar935.1) (State.isArrayOf_alike hZ.alike Ar935.2.1) Ar935.2.2 hin936 hat937 (g := (mkF m 15 L_933 [(.int (0 : Int32)), (.ref a1)])) rfl rfl (hb hby d13_15) _ ?_
    refine XS.aloadN X923.here hx rfl (hb hby d13_16) rfl rfl ?_
    show Steps p.tables e below (T923.setTop (mkF m 17 L_933 [(.ref a0), (.long s0)])) _
    refine st938 _ ?_
    refine XS.iloadN X938.here hx rfl (hb hby d13_20) rfl ?_
    show Steps p.tables e below (T938.setTop (mkF m 21 L_933 [(.int (0 : Int32)), (.ref br), (.long s0)])) _
    refine X938.laload hx (j := (0 : Int32)) (v := (.long r0)) (by rw [e938]; exact Ar939.1) (State.isArrayOf_alike hZ.alike Ar939.2.1) Ar939.2.2 hin940 hat941 (g := (mkF m 21 L_933 [(.int (0 : Int32)), (.ref br), (.long s0)])) rfl rfl (hb hby d13_21) _ ?_
    refine XS.lcmp X938.here hx rfl (hb hby d13_22) rfl ?_
    exact k)
  obtain ⟨T947, L947, X947, e947, N947, pre947⟩ : ∃ (T947 : State) (L947 : List Loc), Stand p l e rr13_2 (s.setVm T923.vm) m #[(.ref a0), (.ref a1)] below meth c T947 L947 2 24 ∧ T947.heap = h923 ∧ Fr n0 L947 ∧ ∀ t, Steps p.tables e below (T947.setTop (mkF m 54 L_933 [])) t → Steps p.tables e below (s₁.setTop (entryFrame m #[(.ref a0), (.ref a1)] 3)) t := by
    by_cases hc948 : r0 < s0
    · skip
      obtain ⟨T949, X949, e949, st949⟩ := getF X938 hx hZ hown (host := "") (Or.inl (own_m hw 54 rfl)) Via.refl e938 f927 (g := (mkF m 27 L_933 [(.ref a0)])) rfl rfl (hb hby d13_27)
      obtain ⟨cl950, Ar950, q950, S950, M950, H950, G950⟩ := id f930
      have hin951 : ¬ ((0 : Int32) < 0 ∨ cl950.slots.size ≤ ((0 : Int32)).toNatClampNeg) := inb_of S950 ⟨by decide, by decide⟩
      have hat952 : cl950.slots[((0 : Int32)).toNatClampNeg]? = some (.long w0) := H950.at hin951 rfl
      have pre953 := fun (t : State) (k : Steps p.tables e below (T949.setTop (mkF m 54 L_933 [])) t) => pre946 t (by
        show Steps p.tables e below (T938.setTop (mkF m 23 L_933 [(.int (lcmpW s0 r0))])) _
        refine XS.ifNo X938.here hx rfl (hb hby d13_23) rfl ((if0 _ _).trans (tlt ((own_gt s0 r0).mpr hc948)).2.2.2) ?_
        refine XS.aloadN X938.here hx rfl (hb hby d13_26) rfl rfl ?_
        show Steps p.tables e below (T938.setTop (mkF m 27 L_933 [(.ref a0)])) _
        refine st949 _ ?_
        refine XS.iloadN X949.here hx rfl (hb hby d13_30) rfl ?_
        show Steps p.tables e below (T949.setTop (mkF m 31 L_933 [(.int (0 : Int32)), (.ref bw)])) _
        refine X949.laload hx (j := (0 : Int32)) (v := (.long w0)) (by rw [e949]; exact Ar950.1) (State.isArrayOf_alike hZ.alike Ar950.2.1) Ar950.2.2 hin951 hat952 (g := (mkF m 31 L_933 [(.int (0 : Int32)), (.ref bw)])) rfl rfl (hb hby d13_31) _ ?_
        refine XS.lconst X949.here hx rfl (hb hby d13_32) ?_
        refine XS.lcmp X949.here hx rfl (hb hby d13_33) rfl ?_
        refine XS.ifYes X949.here hx rfl (pc0 := 34) (pc' := 54) rfl (hb hby d13_34) rfl ((if0 _ _).trans (feq (mt (own_eq w0 (0 : Int64)).mp (hr0 hc948))).2) (by decide) (by decide) ?_
        exact k)
      exact ⟨T949, _, X949, e949, N923, fun t k => pre953 t (by exact k)⟩
    · skip
      have pre954 := fun (t : State) (k : Steps p.tables e below (T938.setTop (mkF m 54 L_933 [])) t) => pre946 t (by
        show Steps p.tables e below (T938.setTop (mkF m 23 L_933 [(.int (lcmpW s0 r0))])) _
        refine XS.ifYes X938.here hx rfl (pc0 := 23) (pc' := 54) rfl (hb hby d13_23) rfl ((if0 _ _).trans (flt (mt (own_gt s0 r0).mp hc948)).2.2.2) (by decide) (by decide) ?_
        exact k)
      exact ⟨T938, _, X938, e938, N923, fun t k => pre954 t (by exact k)⟩
  let L_955 : Array Slot := #[.val (.ref a0), .val (.ref a1), .val (.int (1 : Int32))]
  obtain ⟨cl956, Ar956, q956, S956, M956, H956, G956⟩ := id f932
  obtain ⟨cl957, Ar957, q957, S957, M957, H957, G957⟩ := id f932
  have hin958 : ¬ ((1 : Int32) < 0 ∨ cl957.slots.size ≤ ((1 : Int32)).toNatClampNeg) := inb_of S957 ⟨by decide, by decide⟩
  have hat959 : cl957.slots[((1 : Int32)).toNatClampNeg]? = some (.long s1) := H957.at hin958 rfl
  obtain ⟨T960, X960, e960, st960⟩ := getF X947 hx hZ hown (host := "") (Or.inl (own_m hw 56 rfl)) Via.refl e947 f928 (g := (mkF m 17 L_955 [(.ref a0), (.long s1)])) rfl rfl (hb hby d13_17)
  obtain ⟨cl961, Ar961, q961, S961, M961, H961, G961⟩ := id f931
  have hin962 : ¬ ((1 : Int32) < 0 ∨ cl961.slots.size ≤ ((1 : Int32)).toNatClampNeg) := inb_of S961 ⟨by decide, by decide⟩
  have hat963 : cl961.slots[((1 : Int32)).toNatClampNeg]? = some (.long r1) := H961.at hin962 rfl
  have pre968 := fun (t : State) (k : Steps p.tables e below (T960.setTop (mkF m 23 L_955 [(.int (lcmpW s1 r1))])) t) => pre947 t (by
    show Steps p.tables e below (T947.setTop (mkF m 54 L_933 [])) _
    refine XS.iinc X947.here hx rfl (hb hby d13_54) rfl (l' := L_955) rfl ?_
    refine XS.goto X947.here hx rfl (pc0 := 57) (pc' := 7) rfl (hb hby d13_57) (by decide) (by decide) ?_
    refine XS.iloadN X947.here hx rfl (hb hby d13_7) rfl ?_
    refine XS.aloadN X947.here hx rfl (hb hby d13_8) rfl rfl ?_
    show Steps p.tables e below (T947.setTop (mkF m 9 L_955 [(.ref a1), (.int (1 : Int32))])) _
    refine X947.arraylength hx (by rw [e947]; exact Ar956.1) (State.isArrayOf_alike hZ.alike Ar956.2.1) (g := (mkF m 9 L_955 [(.ref a1), (.int (1 : Int32))])) rfl rfl (hb hby d13_9) _ ?_
    rw [len_of S956 M956]
    refine XS.icmpNo X947.here hx rfl (hb hby d13_10) rfl (tlt (by decide : (1 : Int32) < (2 : Int32))).2.1 ?_
    refine XS.aloadN X947.here hx rfl (hb hby d13_13) rfl rfl ?_
    refine XS.iloadN X947.here hx rfl (hb hby d13_14) rfl ?_
    show Steps p.tables e below (T947.setTop (mkF m 15 L_955 [(.int (1 : Int32)), (.ref a1)])) _
    refine X947.laload hx (j := (1 : Int32)) (v := (.long s1)) (by rw [e947]; exact Ar957.1) (State.isArrayOf_alike hZ.alike Ar957.2.1) Ar957.2.2 hin958 hat959 (g := (mkF m 15 L_955 [(.int (1 : Int32)), (.ref a1)])) rfl rfl (hb hby d13_15) _ ?_
    refine XS.aloadN X947.here hx rfl (hb hby d13_16) rfl rfl ?_
    show Steps p.tables e below (T947.setTop (mkF m 17 L_955 [(.ref a0), (.long s1)])) _
    refine st960 _ ?_
    refine XS.iloadN X960.here hx rfl (hb hby d13_20) rfl ?_
    show Steps p.tables e below (T960.setTop (mkF m 21 L_955 [(.int (1 : Int32)), (.ref br), (.long s1)])) _
    refine X960.laload hx (j := (1 : Int32)) (v := (.long r1)) (by rw [e960]; exact Ar961.1) (State.isArrayOf_alike hZ.alike Ar961.2.1) Ar961.2.2 hin962 hat963 (g := (mkF m 21 L_955 [(.int (1 : Int32)), (.ref br), (.long s1)])) rfl rfl (hb hby d13_21) _ ?_
    refine XS.lcmp X960.here hx rfl (hb hby d13_22) rfl ?_
    exact k)
  obtain ⟨T969, L969, X969, e969, N969, pre969⟩ : ∃ (T969 : State) (L969 : List Loc), Stand p l e rr13_2 (s.setVm T923.vm) m #[(.ref a0), (.ref a1)] below meth c T969 L969 2 24 ∧ T969.heap = h923 ∧ Fr n0 L969 ∧ ∀ t, Steps p.tables e below (T969.setTop (mkF m 54 L_955 [])) t → Steps p.tables e below (s₁.setTop (entryFrame m #[(.ref a0), (.ref a1)] 3)) t := by
    by_cases hc970 : r1 < s1
    · skip
      obtain ⟨T971, X971, e971, st971⟩ := getF X960 hx hZ hown (host := "") (Or.inl (own_m hw 54 rfl)) Via.refl e960 f927 (g := (mkF m 27 L_955 [(.ref a0)])) rfl rfl (hb hby d13_27)
      obtain ⟨cl972, Ar972, q972, S972, M972, H972, G972⟩ := id f930
      have hin973 : ¬ ((1 : Int32) < 0 ∨ cl972.slots.size ≤ ((1 : Int32)).toNatClampNeg) := inb_of S972 ⟨by decide, by decide⟩
      have hat974 : cl972.slots[((1 : Int32)).toNatClampNeg]? = some (.long w1) := H972.at hin973 rfl
      have pre975 := fun (t : State) (k : Steps p.tables e below (T971.setTop (mkF m 54 L_955 [])) t) => pre968 t (by
        show Steps p.tables e below (T960.setTop (mkF m 23 L_955 [(.int (lcmpW s1 r1))])) _
        refine XS.ifNo X960.here hx rfl (hb hby d13_23) rfl ((if0 _ _).trans (tlt ((own_gt s1 r1).mpr hc970)).2.2.2) ?_
        refine XS.aloadN X960.here hx rfl (hb hby d13_26) rfl rfl ?_
        show Steps p.tables e below (T960.setTop (mkF m 27 L_955 [(.ref a0)])) _
        refine st971 _ ?_
        refine XS.iloadN X971.here hx rfl (hb hby d13_30) rfl ?_
        show Steps p.tables e below (T971.setTop (mkF m 31 L_955 [(.int (1 : Int32)), (.ref bw)])) _
        refine X971.laload hx (j := (1 : Int32)) (v := (.long w1)) (by rw [e971]; exact Ar972.1) (State.isArrayOf_alike hZ.alike Ar972.2.1) Ar972.2.2 hin973 hat974 (g := (mkF m 31 L_955 [(.int (1 : Int32)), (.ref bw)])) rfl rfl (hb hby d13_31) _ ?_
        refine XS.lconst X971.here hx rfl (hb hby d13_32) ?_
        refine XS.lcmp X971.here hx rfl (hb hby d13_33) rfl ?_
        refine XS.ifYes X971.here hx rfl (pc0 := 34) (pc' := 54) rfl (hb hby d13_34) rfl ((if0 _ _).trans (feq (mt (own_eq w1 (0 : Int64)).mp (hr1 hc970))).2) (by decide) (by decide) ?_
        exact k)
      exact ⟨T971, _, X971, e971, N947, fun t k => pre975 t (by exact k)⟩
    · skip
      have pre976 := fun (t : State) (k : Steps p.tables e below (T960.setTop (mkF m 54 L_955 [])) t) => pre968 t (by
        show Steps p.tables e below (T960.setTop (mkF m 23 L_955 [(.int (lcmpW s1 r1))])) _
        refine XS.ifYes X960.here hx rfl (pc0 := 23) (pc' := 54) rfl (hb hby d13_23) rfl ((if0 _ _).trans (flt (mt (own_gt s1 r1).mp hc970)).2.2.2) (by decide) (by decide) ?_
        exact k)
      exact ⟨T960, _, X960, e960, N947, fun t k => pre976 t (by exact k)⟩
  let L_977 : Array Slot := #[.val (.ref a0), .val (.ref a1), .val (.int (2 : Int32))]
  obtain ⟨cl978, Ar978, q978, S978, M978, H978, G978⟩ := id f932
  obtain ⟨cl979, Ar979, q979, S979, M979, H979, G979⟩ := id f932
  obtain ⟨cl980, Ar980, q980, S980, M980, H980, G980⟩ := id f932
  have hin981 : ¬ ((0 : Int32) < 0 ∨ cl980.slots.size ≤ ((0 : Int32)).toNatClampNeg) := inb_of S980 ⟨by decide, by decide⟩
  have hat982 : cl980.slots[((0 : Int32)).toNatClampNeg]? = some (.long s0) := H980.at hin981 rfl
  obtain ⟨T983, X983, e983, st983⟩ := getF X969 hx hZ hown (host := "") (Or.inl (own_m hw 56 rfl)) Via.refl e969 f928 (g := (mkF m 72 L_933 [(.ref a0), (.long s0)])) rfl rfl (hb hby d13_72)
  obtain ⟨cl984, Ar984, q984, S984, M984, H984, G984⟩ := id f931
  have hin985 : ¬ ((0 : Int32) < 0 ∨ cl984.slots.size ≤ ((0 : Int32)).toNatClampNeg) := inb_of S984 ⟨by decide, by decide⟩
  have hat986 : cl984.slots[((0 : Int32)).toNatClampNeg]? = some (.long r0) := H984.at hin985 rfl
  have pre1051 := fun (t : State) (k : Steps p.tables e below (T983.setTop (mkF m 78 L_933 [(.int (lcmpW s0 r0))])) t) => pre969 t (by
    show Steps p.tables e below (T969.setTop (mkF m 54 L_955 [])) _
    refine XS.iinc X969.here hx rfl (hb hby d13_54) rfl (l' := L_977) rfl ?_
    refine XS.goto X969.here hx rfl (pc0 := 57) (pc' := 7) rfl (hb hby d13_57) (by decide) (by decide) ?_
    refine XS.iloadN X969.here hx rfl (hb hby d13_7) rfl ?_
    refine XS.aloadN X969.here hx rfl (hb hby d13_8) rfl rfl ?_
    show Steps p.tables e below (T969.setTop (mkF m 9 L_977 [(.ref a1), (.int (2 : Int32))])) _
    refine X969.arraylength hx (by rw [e969]; exact Ar978.1) (State.isArrayOf_alike hZ.alike Ar978.2.1) (g := (mkF m 9 L_977 [(.ref a1), (.int (2 : Int32))])) rfl rfl (hb hby d13_9) _ ?_
    rw [len_of S978 M978]
    refine XS.icmpYes X969.here hx rfl (pc0 := 10) (pc' := 60) rfl (hb hby d13_10) rfl (flt (by decide : ¬ ((2 : Int32) < (2 : Int32)))).2.1 (by decide) (by decide) ?_
    refine XS.iconst X969.here hx rfl (hb hby d13_60) ?_
    refine XS.istoreN X969.here hx rfl (hb hby d13_61) rfl (l' := L_933) rfl ?_
    refine XS.iloadN X969.here hx rfl (hb hby d13_62) rfl ?_
    refine XS.aloadN X969.here hx rfl (hb hby d13_63) rfl rfl ?_
    show Steps p.tables e below (T969.setTop (mkF m 64 L_933 [(.ref a1), (.int (0 : Int32))])) _
    refine X969.arraylength hx (by rw [e969]; exact Ar979.1) (State.isArrayOf_alike hZ.alike Ar979.2.1) (g := (mkF m 64 L_933 [(.ref a1), (.int (0 : Int32))])) rfl rfl (hb hby d13_64) _ ?_
    rw [len_of S979 M979]
    refine XS.icmpNo X969.here hx rfl (hb hby d13_65) rfl (tlt (by decide : (0 : Int32) < (2 : Int32))).2.1 ?_
    refine XS.aloadN X969.here hx rfl (hb hby d13_68) rfl rfl ?_
    refine XS.iloadN X969.here hx rfl (hb hby d13_69) rfl ?_
    show Steps p.tables e below (T969.setTop (mkF m 70 L_933 [(.int (0 : Int32)), (.ref a1)])) _
    refine X969.laload hx (j := (0 : Int32)) (v := (.long s0)) (by rw [e969]; exact Ar980.1) (State.isArrayOf_alike hZ.alike Ar980.2.1) Ar980.2.2 hin981 hat982 (g := (mkF m 70 L_933 [(.int (0 : Int32)), (.ref a1)])) rfl rfl (hb hby d13_70) _ ?_
    refine XS.aloadN X969.here hx rfl (hb hby d13_71) rfl rfl ?_
    show Steps p.tables e below (T969.setTop (mkF m 72 L_933 [(.ref a0), (.long s0)])) _
    refine st983 _ ?_
    refine XS.iloadN X983.here hx rfl (hb hby d13_75) rfl ?_
    show Steps p.tables e below (T983.setTop (mkF m 76 L_933 [(.int (0 : Int32)), (.ref br), (.long s0)])) _
    refine X983.laload hx (j := (0 : Int32)) (v := (.long r0)) (by rw [e983]; exact Ar984.1) (State.isArrayOf_alike hZ.alike Ar984.2.1) Ar984.2.2 hin985 hat986 (g := (mkF m 76 L_933 [(.int (0 : Int32)), (.ref br), (.long s0)])) rfl rfl (hb hby d13_76) _ ?_
    refine XS.lcmp X983.here hx rfl (hb hby d13_77) rfl ?_
    exact k)
  obtain ⟨T1052, h1052, L1052, X1052, e1052, N1052, Z1052, hk, K1052, f1052_0, f1052_1, f1052_2, f1052_3, f1052_4, f1052_5, f1052_6, f1052_7, pre1052⟩ : ∃ (T1052 : State) (h1052 : Heap) (L1052 : List Loc), Stand p l e rr13_2 (s.setVm T923.vm) m #[(.ref a0), (.ref a1)] below meth c T1052 L1052 2 24 ∧ T1052.heap = h1052 ∧ Fr n0 L1052 ∧ n0 ≤ h1052.size ∧ T923.heap.size ≤ h1052.size ∧ Keep h0 h1052 [bw, br] ∧ Exa Z h1052 a0 "com/example/stowline/stowline/VolumeBound" ∧ Fld Z h1052 a0 "com/example/stowline/stowline/VolumeBound" "capacities" "[J" (.ref bc) ∧ Fld Z h1052 a0 "com/example/stowline/stowline/VolumeBound" "wholeCapacities" "[J" (.ref bw) ∧ Fld Z h1052 a0 "com/example/stowline/stowline/VolumeBound" "remainders" "[J" (.ref br) ∧ Arv Z h1052 bc k_bc .long (2 : Int32) [(.long c0), (.long c1)] (.long (0 : Int64)) ∧ Arv Z h1052 bw k_bw .long (2 : Int32) [(.long (j13_2_0 w0 r0 s0)), (.long w1)] (.long (0 : Int64)) ∧ Arv Z h1052 br k_br .long (2 : Int32) [(.long (j13_2_1 c0 r0 s0)), (.long r1)] (.long (0 : Int64)) ∧ Arv Z h1052 a1 k_a1 .long (2 : Int32) [(.long s0), (.long s1)] (.long (0 : Int64)) ∧ ∀ t, Steps p.tables e below (T1052.setTop (mkF m 125 L_933 [])) t → Steps p.tables e below (s₁.setTop (entryFrame m #[(.ref a0), (.ref a1)] 3)) t := by
    by_cases hc1053 : r0 < s0
    · skip
      obtain ⟨T1054, X1054, e1054, st1054⟩ := getF X983 hx hZ hown (host := "") (Or.inl (own_m hw 54 rfl)) Via.refl e983 f927 (g := (mkF m 82 L_933 [(.ref a0)])) rfl rfl (hb hby d13_82)
      obtain ⟨cl1055, Ar1055, q1055, S1055, M1055, H1055, G1055⟩ := id f930
      have hin1056 : ¬ ((0 : Int32) < 0 ∨ cl1055.slots.size ≤ ((0 : Int32)).toNatClampNeg) := inb_of S1055 ⟨by decide, by decide⟩
      have hat1057 : cl1055.slots[((0 : Int32)).toNatClampNeg]? = some (.long w0) := H1055.at hin1056 rfl
      obtain ⟨cl1058, Ar1058, q1058, S1058, M1058, H1058, G1058⟩ := id f930
      have hin1059 : ¬ ((0 : Int32) < 0 ∨ cl1058.slots.size ≤ ((0 : Int32)).toNatClampNeg) := inb_of S1058 ⟨by decide, by decide⟩
      obtain ⟨T1060, h1060, X1060, e1060, W1060, st1060⟩ := stJ X1054 hx hZ e1054 Ar1058 (j := (0 : Int32)) hin1059 (g := (mkF m 90 L_933 [(.long (w0 - (1 : Int64))), (.int (0 : Int32)), (.ref bw)])) rfl rfl (hb hby d13_90)
      have V1060 : Arv Z h1060 bw k_bw .long (2 : Int32) [(.long (w0 - (1 : Int64))), (.long w1)] (.long (0 : Int64)) := Arv.set Ar1058 q1058 S1058 M1058 H1058 G1058 rfl W1060 0 rfl (Nat.le_of_ble_eq_true rfl)
      have f1061 := f925.wr W1060
      have f1062 := f926.other W1060 (Or.inl ne_a0_bw)
      have f1063 := f927.other W1060 (Or.inl ne_a0_bw)
      have f1064 := f928.other W1060 (Or.inl ne_a0_bw)
      have f1065 := f929.other W1060 ne_bc_bw
      have f1067 := f931.other W1060 (Ne.symm ne_bw_br)
      have f1068 := f932.other W1060 ne_a1_bw
      have K1069 := K923.wr W1060 (Or.inl (List.mem_of_getElem? (i := 0) rfl))
      have Z1070 := Nat.le_trans Z923 (Keep.of_wr W1060).1
      have hk := Nat.le_trans hk (Keep.of_wr W1060).1
      have N1071 := Fr.snoc X1060 N969 g_bw
      obtain ⟨T1072, X1072, e1072, st1072⟩ := getF X1060 hx hZ hown (host := "") (Or.inl (own_m hw 56 rfl)) Via.refl e1060 f1064 (g := (mkF m 92 L_933 [(.ref a0)])) rfl rfl (hb hby d13_92)
      obtain ⟨cl1073, Ar1073, q1073, S1073, M1073, H1073, G1073⟩ := id f1067
      have hin1074 : ¬ ((0 : Int32) < 0 ∨ cl1073.slots.size ≤ ((0 : Int32)).toNatClampNeg) := inb_of S1073 ⟨by decide, by decide⟩
      have hat1075 : cl1073.slots[((0 : Int32)).toNatClampNeg]? = some (.long r0) := H1073.at hin1074 rfl
      obtain ⟨T1076, X1076, e1076, st1076⟩ := getF X1072 hx hZ hown (host := "") (Or.inl (own_m hw 52 rfl)) Via.refl e1072 f1062 (g := (mkF m 99 L_933 [(.ref a0), (.long r0), (.int (0 : Int32)), (.ref br)])) rfl rfl (hb hby d13_99)
      obtain ⟨cl1077, Ar1077, q1077, S1077, M1077, H1077, G1077⟩ := id f1065
      have hin1078 : ¬ ((0 : Int32) < 0 ∨ cl1077.slots.size ≤ ((0 : Int32)).toNatClampNeg) := inb_of S1077 ⟨by decide, by decide⟩
      have hat1079 : cl1077.slots[((0 : Int32)).toNatClampNeg]? = some (.long c0) := H1077.at hin1078 rfl
      obtain ⟨cl1080, Ar1080, q1080, S1080, M1080, H1080, G1080⟩ := id f1068
      have hin1081 : ¬ ((0 : Int32) < 0 ∨ cl1080.slots.size ≤ ((0 : Int32)).toNatClampNeg) := inb_of S1080 ⟨by decide, by decide⟩
      have hat1082 : cl1080.slots[((0 : Int32)).toNatClampNeg]? = some (.long s0) := H1080.at hin1081 rfl
      obtain ⟨cl1083, Ar1083, q1083, S1083, M1083, H1083, G1083⟩ := id f1067
      have hin1084 : ¬ ((0 : Int32) < 0 ∨ cl1083.slots.size ≤ ((0 : Int32)).toNatClampNeg) := inb_of S1083 ⟨by decide, by decide⟩
      obtain ⟨T1085, h1085, X1085, e1085, W1085, st1085⟩ := stJ X1076 hx hZ e1076 Ar1083 (j := (0 : Int32)) hin1084 (g := (mkF m 109 L_933 [(.long (r0 + (c0 - s0))), (.int (0 : Int32)), (.ref br)])) rfl rfl (hb hby d13_109)
      have V1085 : Arv Z h1085 br k_br .long (2 : Int32) [(.long (r0 + (c0 - s0))), (.long r1)] (.long (0 : Int64)) := Arv.set Ar1083 q1083 S1083 M1083 H1083 G1083 rfl W1085 0 rfl (Nat.le_of_ble_eq_true rfl)
      have f1086 := f1061.wr W1085
      have f1087 := f1062.other W1085 (Or.inl ne_a0_br)
      have f1088 := f1063.other W1085 (Or.inl ne_a0_br)
      have f1089 := f1064.other W1085 (Or.inl ne_a0_br)
      have f1090 := f1065.other W1085 ne_bc_br
      have f1091 := V1060.other W1085 ne_bw_br
      have f1093 := f1068.other W1085 ne_a1_br
      have K1094 := K1069.wr W1085 (Or.inl (List.mem_of_getElem? (i := 1) rfl))
      have Z1095 := Nat.le_trans Z1070 (Keep.of_wr W1085).1
      have hk := Nat.le_trans hk (Keep.of_wr W1085).1
      have N1096 := Fr.snoc X1085 N1071 g_br
      have pre1097 := fun (t : State) (k : Steps p.tables e below (T1085.setTop (mkF m 125 L_933 [])) t) => pre1051 t (by
        show Steps p.tables e below (T983.setTop (mkF m 78 L_933 [(.int (lcmpW s0 r0))])) _
        refine XS.ifNo X983.here hx rfl (hb hby d13_78) rfl ((if0 _ _).trans (tlt ((own_gt s0 r0).mpr hc1053)).2.2.2) ?_
        refine XS.aloadN X983.here hx rfl (hb hby d13_81) rfl rfl ?_
        show Steps p.tables e below (T983.setTop (mkF m 82 L_933 [(.ref a0)])) _
        refine st1054 _ ?_
        refine XS.iloadN X1054.here hx rfl (hb hby d13_85) rfl ?_
        show Steps p.tables e below (T1054.setTop (mkF m 86 L_933 [(.int (0 : Int32)), (.ref bw)])) _
        refine XT.dup2 X1054.here hx rfl (hb hby d13_86) rfl rfl rfl ?_
        show Steps p.tables e below (T1054.setTop (mkF m 87 L_933 [(.int (0 : Int32)), (.ref bw), (.int (0 : Int32)), (.ref bw)])) _
        refine X1054.laload hx (j := (0 : Int32)) (v := (.long w0)) (by rw [e1054]; exact Ar1055.1) (State.isArrayOf_alike hZ.alike Ar1055.2.1) Ar1055.2.2 hin1056 hat1057 (g := (mkF m 87 L_933 [(.int (0 : Int32)), (.ref bw), (.int (0 : Int32)), (.ref bw)])) rfl rfl (hb hby d13_87) _ ?_
        refine XS.lconst X1054.here hx rfl (hb hby d13_88) ?_
        refine XS.lsub X1054.here hx rfl (hb hby d13_89) rfl ?_
        show Steps p.tables e below (T1054.setTop (mkF m 90 L_933 [(.long (w0 - (1 : Int64))), (.int (0 : Int32)), (.ref bw)])) _
        refine st1060 _ ?_
        refine XS.aloadN X1060.here hx rfl (hb hby d13_91) rfl rfl ?_
        show Steps p.tables e below (T1060.setTop (mkF m 92 L_933 [(.ref a0)])) _
        refine st1072 _ ?_
        refine XS.iloadN X1072.here hx rfl (hb hby d13_95) rfl ?_
        show Steps p.tables e below (T1072.setTop (mkF m 96 L_933 [(.int (0 : Int32)), (.ref br)])) _
        refine XT.dup2 X1072.here hx rfl (hb hby d13_96) rfl rfl rfl ?_
        show Steps p.tables e below (T1072.setTop (mkF m 97 L_933 [(.int (0 : Int32)), (.ref br), (.int (0 : Int32)), (.ref br)])) _
        refine X1072.laload hx (j := (0 : Int32)) (v := (.long r0)) (by rw [e1072]; exact Ar1073.1) (State.isArrayOf_alike hZ.alike Ar1073.2.1) Ar1073.2.2 hin1074 hat1075 (g := (mkF m 97 L_933 [(.int (0 : Int32)), (.ref br), (.int (0 : Int32)), (.ref br)])) rfl rfl (hb hby d13_97) _ ?_
        refine XS.aloadN X1072.here hx rfl (hb hby d13_98) rfl rfl ?_
        show Steps p.tables e below (T1072.setTop (mkF m 99 L_933 [(.ref a0), (.long r0), (.int (0 : Int32)), (.ref br)])) _
        refine st1076 _ ?_
        refine XS.iloadN X1076.here hx rfl (hb hby d13_102) rfl ?_
        show Steps p.tables e below (T1076.setTop (mkF m 103 L_933 [(.int (0 : Int32)), (.ref bc), (.long r0), (.int (0 : Int32)), (.ref br)])) _
        refine X1076.laload hx (j := (0 : Int32)) (v := (.long c0)) (by rw [e1076]; exact Ar1077.1) (State.isArrayOf_alike hZ.alike Ar1077.2.1) Ar1077.2.2 hin1078 hat1079 (g := (mkF m 103 L_933 [(.int (0 : Int32)), (.ref bc), (.long r0), (.int (0 : Int32)), (.ref br)])) rfl rfl (hb hby d13_103) _ ?_
        refine XS.aloadN X1076.here hx rfl (hb hby d13_104) rfl rfl ?_
        refine XS.iloadN X1076.here hx rfl (hb hby d13_105) rfl ?_
        show Steps p.tables e below (T1076.setTop (mkF m 106 L_933 [(.int (0 : Int32)), (.ref a1), (.long c0), (.long r0), (.int (0 : Int32)), (.ref br)])) _
        refine X1076.laload hx (j := (0 : Int32)) (v := (.long s0)) (by rw [e1076]; exact Ar1080.1) (State.isArrayOf_alike hZ.alike Ar1080.2.1) Ar1080.2.2 hin1081 hat1082 (g := (mkF m 106 L_933 [(.int (0 : Int32)), (.ref a1), (.long c0), (.long r0), (.int (0 : Int32)), (.ref br)])) rfl rfl (hb hby d13_106) _ ?_
        refine XS.lsub X1076.here hx rfl (hb hby d13_107) rfl ?_
        refine XS.ladd X1076.here hx rfl (hb hby d13_108) rfl ?_
        show Steps p.tables e below (T1076.setTop (mkF m 109 L_933 [(.long (r0 + (c0 - s0))), (.int (0 : Int32)), (.ref br)])) _
        refine st1085 _ ?_
        refine XS.goto X1085.here hx rfl (pc0 := 110) (pc' := 125) rfl (hb hby d13_110) (by decide) (by decide) ?_
        exact k)
      have hj1098 : (j13_2_0 w0 r0 s0) = (w0 - (1 : Int64)) := by unfold j13_2_0; first | (rw [if_pos hc1053]) | (simp only [if_pos hc1053])
      have hj1099 : (j13_2_1 c0 r0 s0) = (r0 + (c0 - s0)) := by unfold j13_2_1; first | (rw [if_pos hc1053]) | (simp only [if_pos hc1053])
      exact ⟨T1085, h1085, _, X1085, e1085, N1096, Z1095, hk, K1094, f1086, f1087, f1088, f1089, f1090, (by rw [hj1098]; exact f1091), (by rw [hj1099]; exact V1085), f1093, fun t k => pre1097 t (by exact k)⟩
    · skip
      obtain ⟨T1100, X1100, e1100, st1100⟩ := getF X983 hx hZ hown (host := "") (Or.inl (own_m hw 56 rfl)) Via.refl e983 f928 (g := (mkF m 114 L_933 [(.ref a0)])) rfl rfl (hb hby d13_114)
      obtain ⟨cl1101, Ar1101, q1101, S1101, M1101, H1101, G1101⟩ := id f931
      have hin1102 : ¬ ((0 : Int32) < 0 ∨ cl1101.slots.size ≤ ((0 : Int32)).toNatClampNeg) := inb_of S1101 ⟨by decide, by decide⟩
      have hat1103 : cl1101.slots[((0 : Int32)).toNatClampNeg]? = some (.long r0) := H1101.at hin1102 rfl
      obtain ⟨cl1104, Ar1104, q1104, S1104, M1104, H1104, G1104⟩ := id f932
      have hin1105 : ¬ ((0 : Int32) < 0 ∨ cl1104.slots.size ≤ ((0 : Int32)).toNatClampNeg) := inb_of S1104 ⟨by decide, by decide⟩
      have hat1106 : cl1104.slots[((0 : Int32)).toNatClampNeg]? = some (.long s0) := H1104.at hin1105 rfl
      obtain ⟨cl1107, Ar1107, q1107, S1107, M1107, H1107, G1107⟩ := id f931
      have hin1108 : ¬ ((0 : Int32) < 0 ∨ cl1107.slots.size ≤ ((0 : Int32)).toNatClampNeg) := inb_of S1107 ⟨by decide, by decide⟩
      obtain ⟨T1109, h1109, X1109, e1109, W1109, st1109⟩ := stJ X1100 hx hZ e1100 Ar1107 (j := (0 : Int32)) hin1108 (g := (mkF m 124 L_933 [(.long (r0 - s0)), (.int (0 : Int32)), (.ref br)])) rfl rfl (hb hby d13_124)
      have V1109 : Arv Z h1109 br k_br .long (2 : Int32) [(.long (r0 - s0)), (.long r1)] (.long (0 : Int64)) := Arv.set Ar1107 q1107 S1107 M1107 H1107 G1107 rfl W1109 0 rfl (Nat.le_of_ble_eq_true rfl)
      have f1110 := f925.wr W1109
      have f1111 := f926.other W1109 (Or.inl ne_a0_br)
      have f1112 := f927.other W1109 (Or.inl ne_a0_br)
      have f1113 := f928.other W1109 (Or.inl ne_a0_br)
      have f1114 := f929.other W1109 ne_bc_br
      have f1115 := f930.other W1109 ne_bw_br
      have f1117 := f932.other W1109 ne_a1_br
      have K1118 := K923.wr W1109 (Or.inl (List.mem_of_getElem? (i := 1) rfl))
      have Z1119 := Nat.le_trans Z923 (Keep.of_wr W1109).1
      have hk := Nat.le_trans hk (Keep.of_wr W1109).1
      have N1120 := Fr.snoc X1109 N969 g_br
      have pre1121 := fun (t : State) (k : Steps p.tables e below (T1109.setTop (mkF m 125 L_933 [])) t) => pre1051 t (by
        show Steps p.tables e below (T983.setTop (mkF m 78 L_933 [(.int (lcmpW s0 r0))])) _
        refine XS.ifYes X983.here hx rfl (pc0 := 78) (pc' := 113) rfl (hb hby d13_78) rfl ((if0 _ _).trans (flt (mt (own_gt s0 r0).mp hc1053)).2.2.2) (by decide) (by decide) ?_
        refine XS.aloadN X983.here hx rfl (hb hby d13_113) rfl rfl ?_
        show Steps p.tables e below (T983.setTop (mkF m 114 L_933 [(.ref a0)])) _
        refine st1100 _ ?_
        refine XS.iloadN X1100.here hx rfl (hb hby d13_117) rfl ?_
        show Steps p.tables e below (T1100.setTop (mkF m 118 L_933 [(.int (0 : Int32)), (.ref br)])) _
        refine XT.dup2 X1100.here hx rfl (hb hby d13_118) rfl rfl rfl ?_
        show Steps p.tables e below (T1100.setTop (mkF m 119 L_933 [(.int (0 : Int32)), (.ref br), (.int (0 : Int32)), (.ref br)])) _
        refine X1100.laload hx (j := (0 : Int32)) (v := (.long r0)) (by rw [e1100]; exact Ar1101.1) (State.isArrayOf_alike hZ.alike Ar1101.2.1) Ar1101.2.2 hin1102 hat1103 (g := (mkF m 119 L_933 [(.int (0 : Int32)), (.ref br), (.int (0 : Int32)), (.ref br)])) rfl rfl (hb hby d13_119) _ ?_
        refine XS.aloadN X1100.here hx rfl (hb hby d13_120) rfl rfl ?_
        refine XS.iloadN X1100.here hx rfl (hb hby d13_121) rfl ?_
        show Steps p.tables e below (T1100.setTop (mkF m 122 L_933 [(.int (0 : Int32)), (.ref a1), (.long r0), (.int (0 : Int32)), (.ref br)])) _
        refine X1100.laload hx (j := (0 : Int32)) (v := (.long s0)) (by rw [e1100]; exact Ar1104.1) (State.isArrayOf_alike hZ.alike Ar1104.2.1) Ar1104.2.2 hin1105 hat1106 (g := (mkF m 122 L_933 [(.int (0 : Int32)), (.ref a1), (.long r0), (.int (0 : Int32)), (.ref br)])) rfl rfl (hb hby d13_122) _ ?_
        refine XS.lsub X1100.here hx rfl (hb hby d13_123) rfl ?_
        show Steps p.tables e below (T1100.setTop (mkF m 124 L_933 [(.long (r0 - s0)), (.int (0 : Int32)), (.ref br)])) _
        refine st1109 _ ?_
        exact k)
      have hj1122 : (j13_2_0 w0 r0 s0) = w0 := by unfold j13_2_0; first | (rw [if_neg hc1053]) | (simp only [if_neg hc1053])
      have hj1123 : (j13_2_1 c0 r0 s0) = (r0 - s0) := by unfold j13_2_1; first | (rw [if_neg hc1053]) | (simp only [if_neg hc1053])
      exact ⟨T1109, h1109, _, X1109, e1109, N1120, Z1119, hk, K1118, f1110, f1111, f1112, f1113, f1114, (by rw [hj1122]; exact f1115), (by rw [hj1123]; exact V1109), f1117, fun t k => pre1121 t (by exact k)⟩
  obtain ⟨cl1124, Ar1124, q1124, S1124, M1124, H1124, G1124⟩ := id f1052_7
  obtain ⟨cl1125, Ar1125, q1125, S1125, M1125, H1125, G1125⟩ := id f1052_7
  have hin1126 : ¬ ((1 : Int32) < 0 ∨ cl1125.slots.size ≤ ((1 : Int32)).toNatClampNeg) := inb_of S1125 ⟨by decide, by decide⟩
  have hat1127 : cl1125.slots[((1 : Int32)).toNatClampNeg]? = some (.long s1) := H1125.at hin1126 rfl
  obtain ⟨T1128, X1128, e1128, st1128⟩ := getF X1052 hx hZ hown (host := "") (Or.inl (own_m hw 56 rfl)) Via.refl e1052 f1052_3 (g := (mkF m 72 L_955 [(.ref a0), (.long s1)])) rfl rfl (hb hby d13_72)
  obtain ⟨cl1129, Ar1129, q1129, S1129, M1129, H1129, G1129⟩ := id f1052_6
  have hin1130 : ¬ ((1 : Int32) < 0 ∨ cl1129.slots.size ≤ ((1 : Int32)).toNatClampNeg) := inb_of S1129 ⟨by decide, by decide⟩
  have hat1131 : cl1129.slots[((1 : Int32)).toNatClampNeg]? = some (.long r1) := H1129.at hin1130 rfl
  have pre1196 := fun (t : State) (k : Steps p.tables e below (T1128.setTop (mkF m 78 L_955 [(.int (lcmpW s1 r1))])) t) => pre1052 t (by
    show Steps p.tables e below (T1052.setTop (mkF m 125 L_933 [])) _
    refine XS.iinc X1052.here hx rfl (hb hby d13_125) rfl (l' := L_955) rfl ?_
    refine XS.goto X1052.here hx rfl (pc0 := 128) (pc' := 62) rfl (hb hby d13_128) (by decide) (by decide) ?_
    refine XS.iloadN X1052.here hx rfl (hb hby d13_62) rfl ?_
    refine XS.aloadN X1052.here hx rfl (hb hby d13_63) rfl rfl ?_
    show Steps p.tables e below (T1052.setTop (mkF m 64 L_955 [(.ref a1), (.int (1 : Int32))])) _
    refine X1052.arraylength hx (by rw [e1052]; exact Ar1124.1) (State.isArrayOf_alike hZ.alike Ar1124.2.1) (g := (mkF m 64 L_955 [(.ref a1), (.int (1 : Int32))])) rfl rfl (hb hby d13_64) _ ?_
    rw [len_of S1124 M1124]
    refine XS.icmpNo X1052.here hx rfl (hb hby d13_65) rfl (tlt (by decide : (1 : Int32) < (2 : Int32))).2.1 ?_
    refine XS.aloadN X1052.here hx rfl (hb hby d13_68) rfl rfl ?_
    refine XS.iloadN X1052.here hx rfl (hb hby d13_69) rfl ?_
    show Steps p.tables e below (T1052.setTop (mkF m 70 L_955 [(.int (1 : Int32)), (.ref a1)])) _
    refine X1052.laload hx (j := (1 : Int32)) (v := (.long s1)) (by rw [e1052]; exact Ar1125.1) (State.isArrayOf_alike hZ.alike Ar1125.2.1) Ar1125.2.2 hin1126 hat1127 (g := (mkF m 70 L_955 [(.int (1 : Int32)), (.ref a1)])) rfl rfl (hb hby d13_70) _ ?_
    refine XS.aloadN X1052.here hx rfl (hb hby d13_71) rfl rfl ?_
    show Steps p.tables e below (T1052.setTop (mkF m 72 L_955 [(.ref a0), (.long s1)])) _
    refine st1128 _ ?_
    refine XS.iloadN X1128.here hx rfl (hb hby d13_75) rfl ?_
    show Steps p.tables e below (T1128.setTop (mkF m 76 L_955 [(.int (1 : Int32)), (.ref br), (.long s1)])) _
    refine X1128.laload hx (j := (1 : Int32)) (v := (.long r1)) (by rw [e1128]; exact Ar1129.1) (State.isArrayOf_alike hZ.alike Ar1129.2.1) Ar1129.2.2 hin1130 hat1131 (g := (mkF m 76 L_955 [(.int (1 : Int32)), (.ref br), (.long s1)])) rfl rfl (hb hby d13_76) _ ?_
    refine XS.lcmp X1128.here hx rfl (hb hby d13_77) rfl ?_
    exact k)
  obtain ⟨T1197, h1197, L1197, X1197, e1197, N1197, Z1197, hk, K1197, f1197_0, f1197_1, f1197_2, f1197_3, f1197_4, f1197_5, f1197_6, f1197_7, pre1197⟩ : ∃ (T1197 : State) (h1197 : Heap) (L1197 : List Loc), Stand p l e rr13_2 (s.setVm T923.vm) m #[(.ref a0), (.ref a1)] below meth c T1197 L1197 2 24 ∧ T1197.heap = h1197 ∧ Fr n0 L1197 ∧ n0 ≤ h1197.size ∧ T923.heap.size ≤ h1197.size ∧ Keep h0 h1197 [bw, br] ∧ Exa Z h1197 a0 "com/example/stowline/stowline/VolumeBound" ∧ Fld Z h1197 a0 "com/example/stowline/stowline/VolumeBound" "capacities" "[J" (.ref bc) ∧ Fld Z h1197 a0 "com/example/stowline/stowline/VolumeBound" "wholeCapacities" "[J" (.ref bw) ∧ Fld Z h1197 a0 "com/example/stowline/stowline/VolumeBound" "remainders" "[J" (.ref br) ∧ Arv Z h1197 bc k_bc .long (2 : Int32) [(.long c0), (.long c1)] (.long (0 : Int64)) ∧ Arv Z h1197 bw k_bw .long (2 : Int32) [(.long (j13_2_0 w0 r0 s0)), (.long (j13_2_2 w1 r1 s1))] (.long (0 : Int64)) ∧ Arv Z h1197 br k_br .long (2 : Int32) [(.long (j13_2_1 c0 r0 s0)), (.long (j13_2_3 c1 r1 s1))] (.long (0 : Int64)) ∧ Arv Z h1197 a1 k_a1 .long (2 : Int32) [(.long s0), (.long s1)] (.long (0 : Int64)) ∧ ∀ t, Steps p.tables e below (T1197.setTop (mkF m 125 L_955 [])) t → Steps p.tables e below (s₁.setTop (entryFrame m #[(.ref a0), (.ref a1)] 3)) t := by
    by_cases hc1198 : r1 < s1
    · skip
      obtain ⟨T1199, X1199, e1199, st1199⟩ := getF X1128 hx hZ hown (host := "") (Or.inl (own_m hw 54 rfl)) Via.refl e1128 f1052_2 (g := (mkF m 82 L_955 [(.ref a0)])) rfl rfl (hb hby d13_82)
      obtain ⟨cl1200, Ar1200, q1200, S1200, M1200, H1200, G1200⟩ := id f1052_5
      have hin1201 : ¬ ((1 : Int32) < 0 ∨ cl1200.slots.size ≤ ((1 : Int32)).toNatClampNeg) := inb_of S1200 ⟨by decide, by decide⟩
      have hat1202 : cl1200.slots[((1 : Int32)).toNatClampNeg]? = some (.long w1) := H1200.at hin1201 rfl
      obtain ⟨cl1203, Ar1203, q1203, S1203, M1203, H1203, G1203⟩ := id f1052_5
      have hin1204 : ¬ ((1 : Int32) < 0 ∨ cl1203.slots.size ≤ ((1 : Int32)).toNatClampNeg) := inb_of S1203 ⟨by decide, by decide⟩
      obtain ⟨T1205, h1205, X1205, e1205, W1205, st1205⟩ := stJ X1199 hx hZ e1199 Ar1203 (j := (1 : Int32)) hin1204 (g := (mkF m 90 L_955 [(.long (w1 - (1 : Int64))), (.int (1 : Int32)), (.ref bw)])) rfl rfl (hb hby d13_90)
      have V1205 : Arv Z h1205 bw k_bw .long (2 : Int32) [(.long (j13_2_0 w0 r0 s0)), (.long (w1 - (1 : Int64)))] (.long (0 : Int64)) := Arv.set Ar1203 q1203 S1203 M1203 H1203 G1203 rfl W1205 1 rfl (Nat.le_of_ble_eq_true rfl)
      have f1206 := f1052_0.wr W1205
      have f1207 := f1052_1.other W1205 (Or.inl ne_a0_bw)
      have f1208 := f1052_2.other W1205 (Or.inl ne_a0_bw)
      have f1209 := f1052_3.other W1205 (Or.inl ne_a0_bw)
      have f1210 := f1052_4.other W1205 ne_bc_bw
      have f1212 := f1052_6.other W1205 (Ne.symm ne_bw_br)
      have f1213 := f1052_7.other W1205 ne_a1_bw
      have K1214 := K1052.wr W1205 (Or.inl (List.mem_of_getElem? (i := 0) rfl))
      have Z1215 := Nat.le_trans Z1052 (Keep.of_wr W1205).1
      have hk := Nat.le_trans hk (Keep.of_wr W1205).1
      have N1216 := Fr.snoc X1205 N1052 g_bw
      obtain ⟨T1217, X1217, e1217, st1217⟩ := getF X1205 hx hZ hown (host := "") (Or.inl (own_m hw 56 rfl)) Via.refl e1205 f1209 (g := (mkF m 92 L_955 [(.ref a0)])) rfl rfl (hb hby d13_92)
      obtain ⟨cl1218, Ar1218, q1218, S1218, M1218, H1218, G1218⟩ := id f1212
      have hin1219 : ¬ ((1 : Int32) < 0 ∨ cl1218.slots.size ≤ ((1 : Int32)).toNatClampNeg) := inb_of S1218 ⟨by decide, by decide⟩
      have hat1220 : cl1218.slots[((1 : Int32)).toNatClampNeg]? = some (.long r1) := H1218.at hin1219 rfl
      obtain ⟨T1221, X1221, e1221, st1221⟩ := getF X1217 hx hZ hown (host := "") (Or.inl (own_m hw 52 rfl)) Via.refl e1217 f1207 (g := (mkF m 99 L_955 [(.ref a0), (.long r1), (.int (1 : Int32)), (.ref br)])) rfl rfl (hb hby d13_99)
      obtain ⟨cl1222, Ar1222, q1222, S1222, M1222, H1222, G1222⟩ := id f1210
      have hin1223 : ¬ ((1 : Int32) < 0 ∨ cl1222.slots.size ≤ ((1 : Int32)).toNatClampNeg) := inb_of S1222 ⟨by decide, by decide⟩
      have hat1224 : cl1222.slots[((1 : Int32)).toNatClampNeg]? = some (.long c1) := H1222.at hin1223 rfl
      obtain ⟨cl1225, Ar1225, q1225, S1225, M1225, H1225, G1225⟩ := id f1213
      have hin1226 : ¬ ((1 : Int32) < 0 ∨ cl1225.slots.size ≤ ((1 : Int32)).toNatClampNeg) := inb_of S1225 ⟨by decide, by decide⟩
      have hat1227 : cl1225.slots[((1 : Int32)).toNatClampNeg]? = some (.long s1) := H1225.at hin1226 rfl
      obtain ⟨cl1228, Ar1228, q1228, S1228, M1228, H1228, G1228⟩ := id f1212
      have hin1229 : ¬ ((1 : Int32) < 0 ∨ cl1228.slots.size ≤ ((1 : Int32)).toNatClampNeg) := inb_of S1228 ⟨by decide, by decide⟩
      obtain ⟨T1230, h1230, X1230, e1230, W1230, st1230⟩ := stJ X1221 hx hZ e1221 Ar1228 (j := (1 : Int32)) hin1229 (g := (mkF m 109 L_955 [(.long (r1 + (c1 - s1))), (.int (1 : Int32)), (.ref br)])) rfl rfl (hb hby d13_109)
      have V1230 : Arv Z h1230 br k_br .long (2 : Int32) [(.long (j13_2_1 c0 r0 s0)), (.long (r1 + (c1 - s1)))] (.long (0 : Int64)) := Arv.set Ar1228 q1228 S1228 M1228 H1228 G1228 rfl W1230 1 rfl (Nat.le_of_ble_eq_true rfl)
      have f1231 := f1206.wr W1230
      have f1232 := f1207.other W1230 (Or.inl ne_a0_br)
      have f1233 := f1208.other W1230 (Or.inl ne_a0_br)
      have f1234 := f1209.other W1230 (Or.inl ne_a0_br)
      have f1235 := f1210.other W1230 ne_bc_br
      have f1236 := V1205.other W1230 ne_bw_br
      have f1238 := f1213.other W1230 ne_a1_br
      have K1239 := K1214.wr W1230 (Or.inl (List.mem_of_getElem? (i := 1) rfl))
      have Z1240 := Nat.le_trans Z1215 (Keep.of_wr W1230).1
      have hk := Nat.le_trans hk (Keep.of_wr W1230).1
      have N1241 := Fr.snoc X1230 N1216 g_br
      have pre1242 := fun (t : State) (k : Steps p.tables e below (T1230.setTop (mkF m 125 L_955 [])) t) => pre1196 t (by
        show Steps p.tables e below (T1128.setTop (mkF m 78 L_955 [(.int (lcmpW s1 r1))])) _
        refine XS.ifNo X1128.here hx rfl (hb hby d13_78) rfl ((if0 _ _).trans (tlt ((own_gt s1 r1).mpr hc1198)).2.2.2) ?_
        refine XS.aloadN X1128.here hx rfl (hb hby d13_81) rfl rfl ?_
        show Steps p.tables e below (T1128.setTop (mkF m 82 L_955 [(.ref a0)])) _
        refine st1199 _ ?_
        refine XS.iloadN X1199.here hx rfl (hb hby d13_85) rfl ?_
        show Steps p.tables e below (T1199.setTop (mkF m 86 L_955 [(.int (1 : Int32)), (.ref bw)])) _
        refine XT.dup2 X1199.here hx rfl (hb hby d13_86) rfl rfl rfl ?_
        show Steps p.tables e below (T1199.setTop (mkF m 87 L_955 [(.int (1 : Int32)), (.ref bw), (.int (1 : Int32)), (.ref bw)])) _
        refine X1199.laload hx (j := (1 : Int32)) (v := (.long w1)) (by rw [e1199]; exact Ar1200.1) (State.isArrayOf_alike hZ.alike Ar1200.2.1) Ar1200.2.2 hin1201 hat1202 (g := (mkF m 87 L_955 [(.int (1 : Int32)), (.ref bw), (.int (1 : Int32)), (.ref bw)])) rfl rfl (hb hby d13_87) _ ?_
        refine XS.lconst X1199.here hx rfl (hb hby d13_88) ?_
        refine XS.lsub X1199.here hx rfl (hb hby d13_89) rfl ?_
        show Steps p.tables e below (T1199.setTop (mkF m 90 L_955 [(.long (w1 - (1 : Int64))), (.int (1 : Int32)), (.ref bw)])) _
        refine st1205 _ ?_
        refine XS.aloadN X1205.here hx rfl (hb hby d13_91) rfl rfl ?_
        show Steps p.tables e below (T1205.setTop (mkF m 92 L_955 [(.ref a0)])) _
        refine st1217 _ ?_
        refine XS.iloadN X1217.here hx rfl (hb hby d13_95) rfl ?_
        show Steps p.tables e below (T1217.setTop (mkF m 96 L_955 [(.int (1 : Int32)), (.ref br)])) _
        refine XT.dup2 X1217.here hx rfl (hb hby d13_96) rfl rfl rfl ?_
        show Steps p.tables e below (T1217.setTop (mkF m 97 L_955 [(.int (1 : Int32)), (.ref br), (.int (1 : Int32)), (.ref br)])) _
        refine X1217.laload hx (j := (1 : Int32)) (v := (.long r1)) (by rw [e1217]; exact Ar1218.1) (State.isArrayOf_alike hZ.alike Ar1218.2.1) Ar1218.2.2 hin1219 hat1220 (g := (mkF m 97 L_955 [(.int (1 : Int32)), (.ref br), (.int (1 : Int32)), (.ref br)])) rfl rfl (hb hby d13_97) _ ?_
        refine XS.aloadN X1217.here hx rfl (hb hby d13_98) rfl rfl ?_
        show Steps p.tables e below (T1217.setTop (mkF m 99 L_955 [(.ref a0), (.long r1), (.int (1 : Int32)), (.ref br)])) _
        refine st1221 _ ?_
        refine XS.iloadN X1221.here hx rfl (hb hby d13_102) rfl ?_
        show Steps p.tables e below (T1221.setTop (mkF m 103 L_955 [(.int (1 : Int32)), (.ref bc), (.long r1), (.int (1 : Int32)), (.ref br)])) _
        refine X1221.laload hx (j := (1 : Int32)) (v := (.long c1)) (by rw [e1221]; exact Ar1222.1) (State.isArrayOf_alike hZ.alike Ar1222.2.1) Ar1222.2.2 hin1223 hat1224 (g := (mkF m 103 L_955 [(.int (1 : Int32)), (.ref bc), (.long r1), (.int (1 : Int32)), (.ref br)])) rfl rfl (hb hby d13_103) _ ?_
        refine XS.aloadN X1221.here hx rfl (hb hby d13_104) rfl rfl ?_
        refine XS.iloadN X1221.here hx rfl (hb hby d13_105) rfl ?_
        show Steps p.tables e below (T1221.setTop (mkF m 106 L_955 [(.int (1 : Int32)), (.ref a1), (.long c1), (.long r1), (.int (1 : Int32)), (.ref br)])) _
        refine X1221.laload hx (j := (1 : Int32)) (v := (.long s1)) (by rw [e1221]; exact Ar1225.1) (State.isArrayOf_alike hZ.alike Ar1225.2.1) Ar1225.2.2 hin1226 hat1227 (g := (mkF m 106 L_955 [(.int (1 : Int32)), (.ref a1), (.long c1), (.long r1), (.int (1 : Int32)), (.ref br)])) rfl rfl (hb hby d13_106) _ ?_
        refine XS.lsub X1221.here hx rfl (hb hby d13_107) rfl ?_
        refine XS.ladd X1221.here hx rfl (hb hby d13_108) rfl ?_
        show Steps p.tables e below (T1221.setTop (mkF m 109 L_955 [(.long (r1 + (c1 - s1))), (.int (1 : Int32)), (.ref br)])) _
        refine st1230 _ ?_
        refine XS.goto X1230.here hx rfl (pc0 := 110) (pc' := 125) rfl (hb hby d13_110) (by decide) (by decide) ?_
        exact k)
      have hj1243 : (j13_2_2 w1 r1 s1) = (w1 - (1 : Int64)) := by unfold j13_2_2; first | (rw [if_pos hc1198]) | (simp only [if_pos hc1198])
      have hj1244 : (j13_2_3 c1 r1 s1) = (r1 + (c1 - s1)) := by unfold j13_2_3; first | (rw [if_pos hc1198]) | (simp only [if_pos hc1198])
      exact ⟨T1230, h1230, _, X1230, e1230, N1241, Z1240, hk, K1239, f1231, f1232, f1233, f1234, f1235, (by rw [hj1243]; exact f1236), (by rw [hj1244]; exact V1230), f1238, fun t k => pre1242 t (by exact k)⟩
    · skip
      obtain ⟨T1245, X1245, e1245, st1245⟩ := getF X1128 hx hZ hown (host := "") (Or.inl (own_m hw 56 rfl)) Via.refl e1128 f1052_3 (g := (mkF m 114 L_955 [(.ref a0)])) rfl rfl (hb hby d13_114)
      obtain ⟨cl1246, Ar1246, q1246, S1246, M1246, H1246, G1246⟩ := id f1052_6
      have hin1247 : ¬ ((1 : Int32) < 0 ∨ cl1246.slots.size ≤ ((1 : Int32)).toNatClampNeg) := inb_of S1246 ⟨by decide, by decide⟩
      have hat1248 : cl1246.slots[((1 : Int32)).toNatClampNeg]? = some (.long r1) := H1246.at hin1247 rfl
      obtain ⟨cl1249, Ar1249, q1249, S1249, M1249, H1249, G1249⟩ := id f1052_7
      have hin1250 : ¬ ((1 : Int32) < 0 ∨ cl1249.slots.size ≤ ((1 : Int32)).toNatClampNeg) := inb_of S1249 ⟨by decide, by decide⟩
      have hat1251 : cl1249.slots[((1 : Int32)).toNatClampNeg]? = some (.long s1) := H1249.at hin1250 rfl
      obtain ⟨cl1252, Ar1252, q1252, S1252, M1252, H1252, G1252⟩ := id f1052_6
      have hin1253 : ¬ ((1 : Int32) < 0 ∨ cl1252.slots.size ≤ ((1 : Int32)).toNatClampNeg) := inb_of S1252 ⟨by decide, by decide⟩
      obtain ⟨T1254, h1254, X1254, e1254, W1254, st1254⟩ := stJ X1245 hx hZ e1245 Ar1252 (j := (1 : Int32)) hin1253 (g := (mkF m 124 L_955 [(.long (r1 - s1)), (.int (1 : Int32)), (.ref br)])) rfl rfl (hb hby d13_124)
      have V1254 : Arv Z h1254 br k_br .long (2 : Int32) [(.long (j13_2_1 c0 r0 s0)), (.long (r1 - s1))] (.long (0 : Int64)) := Arv.set Ar1252 q1252 S1252 M1252 H1252 G1252 rfl W1254 1 rfl (Nat.le_of_ble_eq_true rfl)
      have f1255 := f1052_0.wr W1254
      have f1256 := f1052_1.other W1254 (Or.inl ne_a0_br)
      have f1257 := f1052_2.other W1254 (Or.inl ne_a0_br)
      have f1258 := f1052_3.other W1254 (Or.inl ne_a0_br)
      have f1259 := f1052_4.other W1254 ne_bc_br
      have f1260 := f1052_5.other W1254 ne_bw_br
      have f1262 := f1052_7.other W1254 ne_a1_br
      have K1263 := K1052.wr W1254 (Or.inl (List.mem_of_getElem? (i := 1) rfl))
      have Z1264 := Nat.le_trans Z1052 (Keep.of_wr W1254).1
      have hk := Nat.le_trans hk (Keep.of_wr W1254).1
      have N1265 := Fr.snoc X1254 N1052 g_br
      have pre1266 := fun (t : State) (k : Steps p.tables e below (T1254.setTop (mkF m 125 L_955 [])) t) => pre1196 t (by
        show Steps p.tables e below (T1128.setTop (mkF m 78 L_955 [(.int (lcmpW s1 r1))])) _
        refine XS.ifYes X1128.here hx rfl (pc0 := 78) (pc' := 113) rfl (hb hby d13_78) rfl ((if0 _ _).trans (flt (mt (own_gt s1 r1).mp hc1198)).2.2.2) (by decide) (by decide) ?_
        refine XS.aloadN X1128.here hx rfl (hb hby d13_113) rfl rfl ?_
        show Steps p.tables e below (T1128.setTop (mkF m 114 L_955 [(.ref a0)])) _
        refine st1245 _ ?_
        refine XS.iloadN X1245.here hx rfl (hb hby d13_117) rfl ?_
        show Steps p.tables e below (T1245.setTop (mkF m 118 L_955 [(.int (1 : Int32)), (.ref br)])) _
        refine XT.dup2 X1245.here hx rfl (hb hby d13_118) rfl rfl rfl ?_
        show Steps p.tables e below (T1245.setTop (mkF m 119 L_955 [(.int (1 : Int32)), (.ref br), (.int (1 : Int32)), (.ref br)])) _
        refine X1245.laload hx (j := (1 : Int32)) (v := (.long r1)) (by rw [e1245]; exact Ar1246.1) (State.isArrayOf_alike hZ.alike Ar1246.2.1) Ar1246.2.2 hin1247 hat1248 (g := (mkF m 119 L_955 [(.int (1 : Int32)), (.ref br), (.int (1 : Int32)), (.ref br)])) rfl rfl (hb hby d13_119) _ ?_
        refine XS.aloadN X1245.here hx rfl (hb hby d13_120) rfl rfl ?_
        refine XS.iloadN X1245.here hx rfl (hb hby d13_121) rfl ?_
        show Steps p.tables e below (T1245.setTop (mkF m 122 L_955 [(.int (1 : Int32)), (.ref a1), (.long r1), (.int (1 : Int32)), (.ref br)])) _
        refine X1245.laload hx (j := (1 : Int32)) (v := (.long s1)) (by rw [e1245]; exact Ar1249.1) (State.isArrayOf_alike hZ.alike Ar1249.2.1) Ar1249.2.2 hin1250 hat1251 (g := (mkF m 122 L_955 [(.int (1 : Int32)), (.ref a1), (.long r1), (.int (1 : Int32)), (.ref br)])) rfl rfl (hb hby d13_122) _ ?_
        refine XS.lsub X1245.here hx rfl (hb hby d13_123) rfl ?_
        show Steps p.tables e below (T1245.setTop (mkF m 124 L_955 [(.long (r1 - s1)), (.int (1 : Int32)), (.ref br)])) _
        refine st1254 _ ?_
        exact k)
      have hj1267 : (j13_2_2 w1 r1 s1) = w1 := by unfold j13_2_2; first | (rw [if_neg hc1198]) | (simp only [if_neg hc1198])
      have hj1268 : (j13_2_3 c1 r1 s1) = (r1 - s1) := by unfold j13_2_3; first | (rw [if_neg hc1198]) | (simp only [if_neg hc1198])
      exact ⟨T1254, h1254, _, X1254, e1254, N1265, Z1264, hk, K1263, f1255, f1256, f1257, f1258, f1259, (by rw [hj1267]; exact f1260), (by rw [hj1268]; exact V1254), f1262, fun t k => pre1266 t (by exact k)⟩
  obtain ⟨cl1269, Ar1269, q1269, S1269, M1269, H1269, G1269⟩ := id f1197_7
  obtain ⟨fs, hr, hrun, hended, hRW⟩ := X1197.leaveW hS (own_hk hk e1197) (v := none) (fun _ => rfl)
  refine ⟨_, _, pre1197 _ ?_, hrun, hended, _, _, rfl, ?_, hRW.1, hRW.2.1, hRW.2.2.1, hRW.2.2.2.mono (by decide) (by decide)⟩
  · skip
    show Steps p.tables e below (T1197.setTop (mkF m 125 L_955 [])) _
    refine XS.iinc X1197.here hx rfl (hb hby d13_125) rfl (l' := L_977) rfl ?_
    refine XS.goto X1197.here hx rfl (pc0 := 128) (pc' := 62) rfl (hb hby d13_128) (by decide) (by decide) ?_
    refine XS.iloadN X1197.here hx rfl (hb hby d13_62) rfl ?_
    refine XS.aloadN X1197.here hx rfl (hb hby d13_63) rfl rfl ?_
    show Steps p.tables e below (T1197.setTop (mkF m 64 L_977 [(.ref a1), (.int (2 : Int32))])) _
    refine X1197.arraylength hx (by rw [e1197]; exact Ar1269.1) (State.isArrayOf_alike hZ.alike Ar1269.2.1) (g := (mkF m 64 L_977 [(.ref a1), (.int (2 : Int32))])) rfl rfl (hb hby d13_64) _ ?_
    rw [len_of S1269 M1269]
    refine XS.icmpYes X1197.here hx rfl (pc0 := 65) (pc' := 131) rfl (hb hby d13_65) rfl (flt (by decide : ¬ ((2 : Int32) < (2 : Int32)))).2.1 (by decide) (by decide) ?_
    show Steps p.tables e below (T1197.setTop (mkF m 131 L_977 [])) _
    exact X1197.returnOut hx Bd.returns (hb hby d13_131) hr
  · show Q13_2 Z a0 a1 bc bw br c0 c1 w0 w1 r0 r1 s0 s1 k_bc k_bw k_br k_a1 h0 n0 _ T1197.heap _
    rw [e1197]
    exact ⟨rfl, N1197, K1197, f1197_5, f1197_6⟩
theorem d10_0 : decode prog_29_method_9_code 0 = .ok (.aload_n 0, 1) := by decide +kernel
theorem d10_1 : decode prog_29_method_9_code 1 = .ok (.getfield 19, 3) := by decide +kernel
theorem d10_4 : decode prog_29_method_9_code 4 = .ok (.iconst 0, 1) := by decide +kernel
theorem d10_5 : decode prog_29_method_9_code 5 = .ok (.aload_n 1, 1) := by decide +kernel
theorem d10_6 : decode prog_29_method_9_code 6 = .ok (.iload_n 3, 1) := by decide +kernel
theorem d10_7 : decode prog_29_method_9_code 7 = .ok (.aload_n 0, 1) := by decide +kernel
theorem d10_8 : decode prog_29_method_9_code 8 = .ok (.getfield 19, 3) := by decide +kernel
theorem d10_11 : decode prog_29_method_9_code 11 = .ok (.arraylength, 1) := by decide +kernel
theorem d10_12 : decode prog_29_method_9_code 12 = .ok (.invokestatic 117, 3) := by decide +kernel
theorem d10_15 : decode prog_29_method_9_code 15 = .ok (.aload_n 0, 1) := by decide +kernel
theorem d10_16 : decode prog_29_method_9_code 16 = .ok (.getfield 22, 3) := by decide +kernel
theorem d10_19 : decode prog_29_method_9_code 19 = .ok (.iconst 0, 1) := by decide +kernel
theorem d10_20 : decode prog_29_method_9_code 20 = .ok (.aload_n 2, 1) := by decide +kernel
theorem d10_21 : decode prog_29_method_9_code 21 = .ok (.iload_n 3, 1) := by decide +kernel
theorem d10_22 : decode prog_29_method_9_code 22 = .ok (.aload_n 0, 1) := by decide +kernel
theorem d10_23 : decode prog_29_method_9_code 23 = .ok (.getfield 22, 3) := by decide +kernel
theorem d10_26 : decode prog_29_method_9_code 26 = .ok (.arraylength, 1) := by decide +kernel
theorem d10_27 : decode prog_29_method_9_code 27 = .ok (.invokestatic 117, 3) := by decide +kernel
theorem d10_30 : decode prog_29_method_9_code 30 = .ok (.return_, 1) := by decide +kernel
theorem ef10_1_0 (m : MethodId) (x0 : Addr) (x1 : Addr) (x2 : Addr) (x3 : Int32) : entryFrame m #[(.ref x0), (.ref x1), (.ref x2), (.int x3)] 4 = mkF m 0 #[.val (.ref x0), .val (.ref x1), .val (.ref x2), .val (.int x3)] [] := by first | (simp [entryFrame, mkF, argsToLocals, Value.category]; done) | rfl
abbrev rr10_1_0 : Room := { frames := 1, cells := 0, slots := 0, locals := 18 }
def Q10_1_0 (Z : State) (a0 : Addr) (a1 : Addr) (a2 : Addr) (bw : Addr) (br : Addr) (w0 : Int64) (r0 : Int64) (u0 : Int64) (u1 : Int64) (u2 : Int64) (u3 : Int64) (x0 : Int64) (x1 : Int64) (x2 : Int64) (x3 : Int64) (k_bw : ClassId) (k_br : ClassId) (k_a1 : ClassId) (k_a2 : ClassId) (h0 : Heap) (n0 : Nat) (v : Option Value) (h : Heap) (L : List Loc) : Prop := v = none ∧ Fr n0 L ∧ Keep h0 h [a1, a2] ∧ Arv Z h a1 k_a1 .long (4 : Int32) [(.long w0), (.long u1), (.long u2), (.long u3)] (.long (0 : Int64)) ∧ Arv Z h a2 k_a2 .long (4 : Int32) [(.long r0), (.long x1), (.long x2), (.long x3)] (.long (0 : Int64))
set_option maxRecDepth 65536 in
set_option maxHeartbeats 40000000 in
theorem rm10_1_0 (l : Launch) (Z : State) (aw : Array Value) (hw : ∀ d ∈ tables_1, d.before aw Z = true) (ws : List Jvm.Cond) (a0 : Addr) (a1 : Addr) (a2 : Addr) (bw : Addr) (br : Addr) (w0 : Int64) (r0 : Int64) (u0 : Int64) (u1 : Int64) (u2 : Int64) (u3 : Int64) (x0 : Int64) (x1 : Int64) (x2 : Int64) (x3 : Int64) (k_bw : ClassId) (k_br : ClassId) (k_a1 : ClassId) (k_a2 : ClassId) (h0 : Heap) (n0 : Nat) (Z0 : n0 ≤ h0.size) (E_a0 : Exa Z h0 a0 "com/example/stowline/stowline/VolumeBound") (F_wholeCapacities_a0 : Fld Z h0 a0 "com/example/stowline/stowline/VolumeBound" "wholeCapacities" "[J" (.ref bw)) (F_remainders_a0 : Fld Z h0 a0 "com/example/stowline/stowline/VolumeBound" "remainders" "[J" (.ref br)) (V_bw : Arv Z h0 bw k_bw .long (1 : Int32) [(.long w0)] (.long (0 : Int64))) (V_br : Arv Z h0 br k_br .long (1 : Int32) [(.long r0)] (.long (0 : Int64))) (V_a1 : Arv Z h0 a1 k_a1 .long (4 : Int32) [(.long u0), (.long u1), (.long u2), (.long u3)] (.long (0 : Int64))) (V_a2 : Arv Z h0 a2 k_a2 .long (4 : Int32) [(.long x0), (.long x1), (.long x2), (.long x3)] (.long (0 : Int64))) (g_a1 : n0 ≤ a1) (g_a2 : n0 ≤ a2) (ne_a0_a1 : a0 ≠ a1) (ne_a0_a2 : a0 ≠ a2) (ne_bw_a1 : bw ≠ a1) (ne_bw_a2 : bw ≠ a2) (ne_br_a1 : br ≠ a1) (ne_br_a2 : br ≠ a2) (ne_a1_a2 : a1 ≠ a2) :
    MetFree l (⟨"com/example/stowline/stowline/VolumeBound", "copyTotals", "([J[JI)V"⟩ : MethodName) (head1 (Jvm.Cond.code (⟨"com/example/stowline/stowline/VolumeBound", "copyTotals", "([J[JI)V"⟩ : MethodName) prog_29_method_9_code 4 none :: ws) rr10_1_0) (fun a U => a = #[(.ref a0), (.ref a1), (.ref a2), (.int (0 : Int32))] ∧ Z.Warmed39 U.vm ∧ U.heap = h0) (fun _ _ _ _ _ => True) (fun _ U o U' => ∃ v L, o = .returned v ∧ Q10_1_0 Z a0 a1 a2 bw br w0 r0 u0 u1 u2 u3 x0 x1 x2 x3 k_bw k_br k_a1 k_a2 h0 n0 v U'.heap L ∧ FrameEnd U o U' L rr10_1_0.cells rr10_1_0.slots) := by
  refine MetFree.of_bodySF (plainFor_of_name pn_3) hisR ?_
  intro p e s m args below meth c s₁ Bd hml0 hP hK
  obtain ⟨rfl, hZ, hh⟩ := hP
  have hx := Bd.exec
  have hby := Bd.bytes
  have hml : c.maxLocals = 4 := hml0
  have hown : s.vm.findClass "com/example/stowline/stowline/VolumeBound" = some m.cls := findClass_of_methodNamed Bd.named
  have hnm := (name_of_methodNamed Bd.named Bd.method).1
  have X0 : Stand p l e rr10_1_0 s m #[(.ref a0), (.ref a1), (.ref a2), (.int (0 : Int32))] below meth c s₁ [] 0 0 := Stand.of_body Bd
  have e0 : s₁.heap = h0 := by rw [← hh, Bd.state]; rfl
  have N0 := Fr.nil n0
  have K0 := Keep.refl h0 [a1, a2]
  have pre0 : ∀ t, Steps p.tables e below (s₁.setTop (mkF m 0 #[.val (.ref a0), .val (.ref a1), .val (.ref a2), .val (.int (0 : Int32))] [])) t → Steps p.tables e below (s₁.setTop (entryFrame m #[(.ref a0), (.ref a1), (.ref a2), (.int (0 : Int32))] 4)) t := fun t k => castTop (ef10_1_0 m a0 a1 a2 (0 : Int32)) k
  let L_1270 : Array Slot := #[.val (.ref a0), .val (.ref a1), .val (.ref a2), .val (.int (0 : Int32))]
  obtain ⟨T1271, X1271, e1271, st1271⟩ := getF X0 hx hZ hown (host := "") (Or.inl (own_m hw 54 rfl)) Via.refl e0 F_wholeCapacities_a0 (g := (mkF m 1 L_1270 [(.ref a0)])) rfl rfl (hb hby d10_1)
  obtain ⟨T1272, X1272, e1272, st1272⟩ := getF X1271 hx hZ hown (host := "") (Or.inl (own_m hw 54 rfl)) Via.refl e1271 F_wholeCapacities_a0 (g := (mkF m 8 L_1270 [(.ref a0), (.int (0 : Int32)), (.ref a1), (.int (0 : Int32)), (.ref bw)])) rfl rfl (hb hby d10_8)
  obtain ⟨cl1273, Ar1273, q1273, S1273, M1273, H1273, G1273⟩ := id V_bw
  obtain ⟨T1274, h1274, L1274, X1274, e1274, N1274, K1274q, V1274, st1274⟩ := cpA X1272 hx hZ hown (own_m hw 77 rfl) (own_m hw 80 rfl) (own_m hw 78 rfl) (own_m hw 79 rfl) e1272 (sp := (0 : Int32)) (dp := (0 : Int32)) (nn := (1 : Int32)) (us := [(.long w0)]) V_bw V_a1 (Or.inl ⟨rfl, rfl⟩) (by decide) (by decide) (by decide) (by decide) (by decide) (by rfl) (Nat.le_of_ble_eq_true rfl) N0 g_a1 (g := (mkF m 12 L_1270 [(.int (1 : Int32)), (.int (0 : Int32)), (.ref a1), (.int (0 : Int32)), (.ref bw)])) rfl (by rw [hml]; rfl) rfl (hb hby d10_12) (by decide) (W := 0) (by show 2 * 0 + _ ≤ _; exact Nat.le_of_eq rfl) (by decide)
  have f1275 := E_a0.keep K1274q
  have f1276 := F_wholeCapacities_a0.keep K1274q (ninS ne_a0_a1 nin0)
  have f1277 := F_remainders_a0.keep K1274q (ninS ne_a0_a1 nin0)
  have f1278 := V_bw.keep K1274q (ninS ne_bw_a1 nin0)
  have f1279 := V_br.keep K1274q (ninS ne_br_a1 nin0)
  have f1281 := V_a2.keep K1274q (ninS (Ne.symm ne_a1_a2) nin0)
  have V1274x : Arv Z h1274 a1 k_a1 .long (4 : Int32) [(.long w0), (.long u1), (.long u2), (.long u3)] (.long (0 : Int64)) := V1274
  have K1274 := K0.trans K1274q (allS (Or.inl (List.mem_of_getElem? (i := 0) rfl)) all0)
  have Z1274 := Nat.le_trans Z0 K1274q.1
  obtain ⟨T1282, X1282, e1282, st1282⟩ := getF X1274 hx hZ hown (host := "") (Or.inl (own_m hw 56 rfl)) Via.refl e1274 f1277 (g := (mkF m 16 L_1270 [(.ref a0)])) rfl rfl (hb hby d10_16)
  obtain ⟨T1283, X1283, e1283, st1283⟩ := getF X1282 hx hZ hown (host := "") (Or.inl (own_m hw 56 rfl)) Via.refl e1282 f1277 (g := (mkF m 23 L_1270 [(.ref a0), (.int (0 : Int32)), (.ref a2), (.int (0 : Int32)), (.ref br)])) rfl rfl (hb hby d10_23)
  obtain ⟨cl1284, Ar1284, q1284, S1284, M1284, H1284, G1284⟩ := id f1279
  obtain ⟨T1285, h1285, L1285, X1285, e1285, N1285, K1285q, V1285, st1285⟩ := cpA X1283 hx hZ hown (own_m hw 77 rfl) (own_m hw 80 rfl) (own_m hw 78 rfl) (own_m hw 79 rfl) e1283 (sp := (0 : Int32)) (dp := (0 : Int32)) (nn := (1 : Int32)) (us := [(.long r0)]) f1279 f1281 (Or.inl ⟨rfl, rfl⟩) (by decide) (by decide) (by decide) (by decide) (by decide) (by rfl) (Nat.le_of_ble_eq_true rfl) N1274 g_a2 (g := (mkF m 27 L_1270 [(.int (1 : Int32)), (.int (0 : Int32)), (.ref a2), (.int (0 : Int32)), (.ref br)])) rfl (by rw [hml]; rfl) rfl (hb hby d10_27) (by decide) (W := 0) (by show 2 * 0 + _ ≤ _; exact Nat.le_of_eq rfl) (by decide)
  have f1286 := f1275.keep K1285q
  have f1287 := f1276.keep K1285q (ninS ne_a0_a2 nin0)
  have f1288 := f1277.keep K1285q (ninS ne_a0_a2 nin0)
  have f1289 := f1278.keep K1285q (ninS ne_bw_a2 nin0)
  have f1290 := f1279.keep K1285q (ninS ne_br_a2 nin0)
  have f1292 := V1274x.keep K1285q (ninS ne_a1_a2 nin0)
  have V1285x : Arv Z h1285 a2 k_a2 .long (4 : Int32) [(.long r0), (.long x1), (.long x2), (.long x3)] (.long (0 : Int64)) := V1285
  have K1285 := K1274.trans K1285q (allS (Or.inl (List.mem_of_getElem? (i := 1) rfl)) all0)
  have Z1285 := Nat.le_trans Z1274 K1285q.1
  obtain ⟨fs, hr, hrun, hended, hW, hsame⟩ := X1285.leave (v := none) (fun _ => rfl)
  refine ⟨_, _, pre0 _ ?_, hrun, hended, _, _, rfl, ?_, ⟨_, rfl⟩, hW, hsame.mono (by decide) (by decide)⟩
  · skip
    show Steps p.tables e below (s₁.setTop (mkF m 0 L_1270 [])) _
    refine XS.aloadN X0.here hx rfl (hb hby d10_0) rfl rfl ?_
    show Steps p.tables e below (s₁.setTop (mkF m 1 L_1270 [(.ref a0)])) _
    refine st1271 _ ?_
    refine XS.iconst X1271.here hx rfl (hb hby d10_4) ?_
    refine XS.aloadN X1271.here hx rfl (hb hby d10_5) rfl rfl ?_
    refine XS.iloadN X1271.here hx rfl (hb hby d10_6) rfl ?_
    refine XS.aloadN X1271.here hx rfl (hb hby d10_7) rfl rfl ?_
    show Steps p.tables e below (T1271.setTop (mkF m 8 L_1270 [(.ref a0), (.int (0 : Int32)), (.ref a1), (.int (0 : Int32)), (.ref bw)])) _
    refine st1272 _ ?_
    show Steps p.tables e below (T1272.setTop (mkF m 11 L_1270 [(.ref bw), (.int (0 : Int32)), (.ref a1), (.int (0 : Int32)), (.ref bw)])) _
    refine X1272.arraylength hx (by rw [e1272]; exact Ar1273.1) (State.isArrayOf_alike hZ.alike Ar1273.2.1) (g := (mkF m 11 L_1270 [(.ref bw), (.int (0 : Int32)), (.ref a1), (.int (0 : Int32)), (.ref bw)])) rfl rfl (hb hby d10_11) _ ?_
    rw [len_of S1273 M1273]
    show Steps p.tables e below (T1272.setTop (mkF m 12 L_1270 [(.int (1 : Int32)), (.int (0 : Int32)), (.ref a1), (.int (0 : Int32)), (.ref bw)])) _
    refine st1274 _ ?_
    refine XS.aloadN X1274.here hx rfl (hb hby d10_15) rfl rfl ?_
    show Steps p.tables e below (T1274.setTop (mkF m 16 L_1270 [(.ref a0)])) _
    refine st1282 _ ?_
    refine XS.iconst X1282.here hx rfl (hb hby d10_19) ?_
    refine XS.aloadN X1282.here hx rfl (hb hby d10_20) rfl rfl ?_
    refine XS.iloadN X1282.here hx rfl (hb hby d10_21) rfl ?_
    refine XS.aloadN X1282.here hx rfl (hb hby d10_22) rfl rfl ?_
    show Steps p.tables e below (T1282.setTop (mkF m 23 L_1270 [(.ref a0), (.int (0 : Int32)), (.ref a2), (.int (0 : Int32)), (.ref br)])) _
    refine st1283 _ ?_
    show Steps p.tables e below (T1283.setTop (mkF m 26 L_1270 [(.ref br), (.int (0 : Int32)), (.ref a2), (.int (0 : Int32)), (.ref br)])) _
    refine X1283.arraylength hx (by rw [e1283]; exact Ar1284.1) (State.isArrayOf_alike hZ.alike Ar1284.2.1) (g := (mkF m 26 L_1270 [(.ref br), (.int (0 : Int32)), (.ref a2), (.int (0 : Int32)), (.ref br)])) rfl rfl (hb hby d10_26) _ ?_
    rw [len_of S1284 M1284]
    show Steps p.tables e below (T1283.setTop (mkF m 27 L_1270 [(.int (1 : Int32)), (.int (0 : Int32)), (.ref a2), (.int (0 : Int32)), (.ref br)])) _
    refine st1285 _ ?_
    show Steps p.tables e below (T1285.setTop (mkF m 30 L_1270 [])) _
    exact X1285.returnOut hx Bd.returns (hb hby d10_30) hr
  · show Q10_1_0 Z a0 a1 a2 bw br w0 r0 u0 u1 u2 u3 x0 x1 x2 x3 k_bw k_br k_a1 k_a2 h0 n0 _ T1285.heap _
    rw [e1285]
    exact ⟨rfl, N1285, K1285, f1292, V1285x⟩
theorem ef10_1_1 (m : MethodId) (x0 : Addr) (x1 : Addr) (x2 : Addr) (x3 : Int32) : entryFrame m #[(.ref x0), (.ref x1), (.ref x2), (.int x3)] 4 = mkF m 0 #[.val (.ref x0), .val (.ref x1), .val (.ref x2), .val (.int x3)] [] := by first | (simp [entryFrame, mkF, argsToLocals, Value.category]; done) | rfl
abbrev rr10_1_1 : Room := { frames := 1, cells := 0, slots := 0, locals := 18 }
def Q10_1_1 (Z : State) (a0 : Addr) (a1 : Addr) (a2 : Addr) (bw : Addr) (br : Addr) (w0 : Int64) (r0 : Int64) (u0 : Int64) (u1 : Int64) (u2 : Int64) (u3 : Int64) (x0 : Int64) (x1 : Int64) (x2 : Int64) (x3 : Int64) (k_bw : ClassId) (k_br : ClassId) (k_a1 : ClassId) (k_a2 : ClassId) (h0 : Heap) (n0 : Nat) (v : Option Value) (h : Heap) (L : List Loc) : Prop := v = none ∧ Fr n0 L ∧ Keep h0 h [a1, a2] ∧ Arv Z h a1 k_a1 .long (4 : Int32) [(.long u0), (.long w0), (.long u2), (.long u3)] (.long (0 : Int64)) ∧ Arv Z h a2 k_a2 .long (4 : Int32) [(.long x0), (.long r0), (.long x2), (.long x3)] (.long (0 : Int64))
set_option maxRecDepth 65536 in
set_option maxHeartbeats 40000000 in
theorem rm10_1_1 (l : Launch) (Z : State) (aw : Array Value) (hw : ∀ d ∈ tables_1, d.before aw Z = true) (ws : List Jvm.Cond) (a0 : Addr) (a1 : Addr) (a2 : Addr) (bw : Addr) (br : Addr) (w0 : Int64) (r0 : Int64) (u0 : Int64) (u1 : Int64) (u2 : Int64) (u3 : Int64) (x0 : Int64) (x1 : Int64) (x2 : Int64) (x3 : Int64) (k_bw : ClassId) (k_br : ClassId) (k_a1 : ClassId) (k_a2 : ClassId) (h0 : Heap) (n0 : Nat) (Z0 : n0 ≤ h0.size) (E_a0 : Exa Z h0 a0 "com/example/stowline/stowline/VolumeBound") (F_wholeCapacities_a0 : Fld Z h0 a0 "com/example/stowline/stowline/VolumeBound" "wholeCapacities" "[J" (.ref bw)) (F_remainders_a0 : Fld Z h0 a0 "com/example/stowline/stowline/VolumeBound" "remainders" "[J" (.ref br)) (V_bw : Arv Z h0 bw k_bw .long (1 : Int32) [(.long w0)] (.long (0 : Int64))) (V_br : Arv Z h0 br k_br .long (1 : Int32) [(.long r0)] (.long (0 : Int64))) (V_a1 : Arv Z h0 a1 k_a1 .long (4 : Int32) [(.long u0), (.long u1), (.long u2), (.long u3)] (.long (0 : Int64))) (V_a2 : Arv Z h0 a2 k_a2 .long (4 : Int32) [(.long x0), (.long x1), (.long x2), (.long x3)] (.long (0 : Int64))) (g_a1 : n0 ≤ a1) (g_a2 : n0 ≤ a2) (ne_a0_a1 : a0 ≠ a1) (ne_a0_a2 : a0 ≠ a2) (ne_bw_a1 : bw ≠ a1) (ne_bw_a2 : bw ≠ a2) (ne_br_a1 : br ≠ a1) (ne_br_a2 : br ≠ a2) (ne_a1_a2 : a1 ≠ a2) :
    MetFree l (⟨"com/example/stowline/stowline/VolumeBound", "copyTotals", "([J[JI)V"⟩ : MethodName) (head1 (Jvm.Cond.code (⟨"com/example/stowline/stowline/VolumeBound", "copyTotals", "([J[JI)V"⟩ : MethodName) prog_29_method_9_code 4 none :: ws) rr10_1_1) (fun a U => a = #[(.ref a0), (.ref a1), (.ref a2), (.int (1 : Int32))] ∧ Z.Warmed39 U.vm ∧ U.heap = h0) (fun _ _ _ _ _ => True) (fun _ U o U' => ∃ v L, o = .returned v ∧ Q10_1_1 Z a0 a1 a2 bw br w0 r0 u0 u1 u2 u3 x0 x1 x2 x3 k_bw k_br k_a1 k_a2 h0 n0 v U'.heap L ∧ FrameEnd U o U' L rr10_1_1.cells rr10_1_1.slots) := by
  refine MetFree.of_bodySF (plainFor_of_name pn_3) hisR ?_
  intro p e s m args below meth c s₁ Bd hml0 hP hK
  obtain ⟨rfl, hZ, hh⟩ := hP
  have hx := Bd.exec
  have hby := Bd.bytes
  have hml : c.maxLocals = 4 := hml0
  have hown : s.vm.findClass "com/example/stowline/stowline/VolumeBound" = some m.cls := findClass_of_methodNamed Bd.named
  have hnm := (name_of_methodNamed Bd.named Bd.method).1
  have X0 : Stand p l e rr10_1_1 s m #[(.ref a0), (.ref a1), (.ref a2), (.int (1 : Int32))] below meth c s₁ [] 0 0 := Stand.of_body Bd
  have e0 : s₁.heap = h0 := by rw [← hh, Bd.state]; rfl
  have N0 := Fr.nil n0
  have K0 := Keep.refl h0 [a1, a2]
  have pre0 : ∀ t, Steps p.tables e below (s₁.setTop (mkF m 0 #[.val (.ref a0), .val (.ref a1), .val (.ref a2), .val (.int (1 : Int32))] [])) t → Steps p.tables e below (s₁.setTop (entryFrame m #[(.ref a0), (.ref a1), (.ref a2), (.int (1 : Int32))] 4)) t := fun t k => castTop (ef10_1_1 m a0 a1 a2 (1 : Int32)) k
  let L_1293 : Array Slot := #[.val (.ref a0), .val (.ref a1), .val (.ref a2), .val (.int (1 : Int32))]
  obtain ⟨T1294, X1294, e1294, st1294⟩ := getF X0 hx hZ hown (host := "") (Or.inl (own_m hw 54 rfl)) Via.refl e0 F_wholeCapacities_a0 (g := (mkF m 1 L_1293 [(.ref a0)])) rfl rfl (hb hby d10_1)
  obtain ⟨T1295, X1295, e1295, st1295⟩ := getF X1294 hx hZ hown (host := "") (Or.inl (own_m hw 54 rfl)) Via.refl e1294 F_wholeCapacities_a0 (g := (mkF m 8 L_1293 [(.ref a0), (.int (1 : Int32)), (.ref a1), (.int (0 : Int32)), (.ref bw)])) rfl rfl (hb hby d10_8)
  obtain ⟨cl1296, Ar1296, q1296, S1296, M1296, H1296, G1296⟩ := id V_bw
  obtain ⟨T1297, h1297, L1297, X1297, e1297, N1297, K1297q, V1297, st1297⟩ := cpA X1295 hx hZ hown (own_m hw 77 rfl) (own_m hw 80 rfl) (own_m hw 78 rfl) (own_m hw 79 rfl) e1295 (sp := (0 : Int32)) (dp := (1 : Int32)) (nn := (1 : Int32)) (us := [(.long w0)]) V_bw V_a1 (Or.inl ⟨rfl, rfl⟩) (by decide) (by decide) (by decide) (by decide) (by decide) (by rfl) (Nat.le_of_ble_eq_true rfl) N0 g_a1 (g := (mkF m 12 L_1293 [(.int (1 : Int32)), (.int (1 : Int32)), (.ref a1), (.int (0 : Int32)), (.ref bw)])) rfl (by rw [hml]; rfl) rfl (hb hby d10_12) (by decide) (W := 0) (by show 2 * 0 + _ ≤ _; exact Nat.le_of_eq rfl) (by decide)
  have f1298 := E_a0.keep K1297q
  have f1299 := F_wholeCapacities_a0.keep K1297q (ninS ne_a0_a1 nin0)
  have f1300 := F_remainders_a0.keep K1297q (ninS ne_a0_a1 nin0)
  have f1301 := V_bw.keep K1297q (ninS ne_bw_a1 nin0)
  have f1302 := V_br.keep K1297q (ninS ne_br_a1 nin0)
  have f1304 := V_a2.keep K1297q (ninS (Ne.symm ne_a1_a2) nin0)
  have V1297x : Arv Z h1297 a1 k_a1 .long (4 : Int32) [(.long u0), (.long w0), (.long u2), (.long u3)] (.long (0 : Int64)) := V1297
  have K1297 := K0.trans K1297q (allS (Or.inl (List.mem_of_getElem? (i := 0) rfl)) all0)
  have Z1297 := Nat.le_trans Z0 K1297q.1
  obtain ⟨T1305, X1305, e1305, st1305⟩ := getF X1297 hx hZ hown (host := "") (Or.inl (own_m hw 56 rfl)) Via.refl e1297 f1300 (g := (mkF m 16 L_1293 [(.ref a0)])) rfl rfl (hb hby d10_16)
  obtain ⟨T1306, X1306, e1306, st1306⟩ := getF X1305 hx hZ hown (host := "") (Or.inl (own_m hw 56 rfl)) Via.refl e1305 f1300 (g := (mkF m 23 L_1293 [(.ref a0), (.int (1 : Int32)), (.ref a2), (.int (0 : Int32)), (.ref br)])) rfl rfl (hb hby d10_23)
  obtain ⟨cl1307, Ar1307, q1307, S1307, M1307, H1307, G1307⟩ := id f1302
  obtain ⟨T1308, h1308, L1308, X1308, e1308, N1308, K1308q, V1308, st1308⟩ := cpA X1306 hx hZ hown (own_m hw 77 rfl) (own_m hw 80 rfl) (own_m hw 78 rfl) (own_m hw 79 rfl) e1306 (sp := (0 : Int32)) (dp := (1 : Int32)) (nn := (1 : Int32)) (us := [(.long r0)]) f1302 f1304 (Or.inl ⟨rfl, rfl⟩) (by decide) (by decide) (by decide) (by decide) (by decide) (by rfl) (Nat.le_of_ble_eq_true rfl) N1297 g_a2 (g := (mkF m 27 L_1293 [(.int (1 : Int32)), (.int (1 : Int32)), (.ref a2), (.int (0 : Int32)), (.ref br)])) rfl (by rw [hml]; rfl) rfl (hb hby d10_27) (by decide) (W := 0) (by show 2 * 0 + _ ≤ _; exact Nat.le_of_eq rfl) (by decide)
  have f1309 := f1298.keep K1308q
  have f1310 := f1299.keep K1308q (ninS ne_a0_a2 nin0)
  have f1311 := f1300.keep K1308q (ninS ne_a0_a2 nin0)
  have f1312 := f1301.keep K1308q (ninS ne_bw_a2 nin0)
  have f1313 := f1302.keep K1308q (ninS ne_br_a2 nin0)
  have f1315 := V1297x.keep K1308q (ninS ne_a1_a2 nin0)
  have V1308x : Arv Z h1308 a2 k_a2 .long (4 : Int32) [(.long x0), (.long r0), (.long x2), (.long x3)] (.long (0 : Int64)) := V1308
  have K1308 := K1297.trans K1308q (allS (Or.inl (List.mem_of_getElem? (i := 1) rfl)) all0)
  have Z1308 := Nat.le_trans Z1297 K1308q.1
  obtain ⟨fs, hr, hrun, hended, hW, hsame⟩ := X1308.leave (v := none) (fun _ => rfl)
  refine ⟨_, _, pre0 _ ?_, hrun, hended, _, _, rfl, ?_, ⟨_, rfl⟩, hW, hsame.mono (by decide) (by decide)⟩
  · skip
    show Steps p.tables e below (s₁.setTop (mkF m 0 L_1293 [])) _
    refine XS.aloadN X0.here hx rfl (hb hby d10_0) rfl rfl ?_
    show Steps p.tables e below (s₁.setTop (mkF m 1 L_1293 [(.ref a0)])) _
    refine st1294 _ ?_
    refine XS.iconst X1294.here hx rfl (hb hby d10_4) ?_
    refine XS.aloadN X1294.here hx rfl (hb hby d10_5) rfl rfl ?_
    refine XS.iloadN X1294.here hx rfl (hb hby d10_6) rfl ?_
    refine XS.aloadN X1294.here hx rfl (hb hby d10_7) rfl rfl ?_
    show Steps p.tables e below (T1294.setTop (mkF m 8 L_1293 [(.ref a0), (.int (1 : Int32)), (.ref a1), (.int (0 : Int32)), (.ref bw)])) _
    refine st1295 _ ?_
    show Steps p.tables e below (T1295.setTop (mkF m 11 L_1293 [(.ref bw), (.int (1 : Int32)), (.ref a1), (.int (0 : Int32)), (.ref bw)])) _
    refine X1295.arraylength hx (by rw [e1295]; exact Ar1296.1) (State.isArrayOf_alike hZ.alike Ar1296.2.1) (g := (mkF m 11 L_1293 [(.ref bw), (.int (1 : Int32)), (.ref a1), (.int (0 : Int32)), (.ref bw)])) rfl rfl (hb hby d10_11) _ ?_
    rw [len_of S1296 M1296]
    show Steps p.tables e below (T1295.setTop (mkF m 12 L_1293 [(.int (1 : Int32)), (.int (1 : Int32)), (.ref a1), (.int (0 : Int32)), (.ref bw)])) _
    refine st1297 _ ?_
    refine XS.aloadN X1297.here hx rfl (hb hby d10_15) rfl rfl ?_
    show Steps p.tables e below (T1297.setTop (mkF m 16 L_1293 [(.ref a0)])) _
    refine st1305 _ ?_
    refine XS.iconst X1305.here hx rfl (hb hby d10_19) ?_
    refine XS.aloadN X1305.here hx rfl (hb hby d10_20) rfl rfl ?_
    refine XS.iloadN X1305.here hx rfl (hb hby d10_21) rfl ?_
    refine XS.aloadN X1305.here hx rfl (hb hby d10_22) rfl rfl ?_
    show Steps p.tables e below (T1305.setTop (mkF m 23 L_1293 [(.ref a0), (.int (1 : Int32)), (.ref a2), (.int (0 : Int32)), (.ref br)])) _
    refine st1306 _ ?_
    show Steps p.tables e below (T1306.setTop (mkF m 26 L_1293 [(.ref br), (.int (1 : Int32)), (.ref a2), (.int (0 : Int32)), (.ref br)])) _
    refine X1306.arraylength hx (by rw [e1306]; exact Ar1307.1) (State.isArrayOf_alike hZ.alike Ar1307.2.1) (g := (mkF m 26 L_1293 [(.ref br), (.int (1 : Int32)), (.ref a2), (.int (0 : Int32)), (.ref br)])) rfl rfl (hb hby d10_26) _ ?_
    rw [len_of S1307 M1307]
    show Steps p.tables e below (T1306.setTop (mkF m 27 L_1293 [(.int (1 : Int32)), (.int (1 : Int32)), (.ref a2), (.int (0 : Int32)), (.ref br)])) _
    refine st1308 _ ?_
    show Steps p.tables e below (T1308.setTop (mkF m 30 L_1293 [])) _
    exact X1308.returnOut hx Bd.returns (hb hby d10_30) hr
  · show Q10_1_1 Z a0 a1 a2 bw br w0 r0 u0 u1 u2 u3 x0 x1 x2 x3 k_bw k_br k_a1 k_a2 h0 n0 _ T1308.heap _
    rw [e1308]
    exact ⟨rfl, N1308, K1308, f1315, V1308x⟩
theorem ef10_1_2 (m : MethodId) (x0 : Addr) (x1 : Addr) (x2 : Addr) (x3 : Int32) : entryFrame m #[(.ref x0), (.ref x1), (.ref x2), (.int x3)] 4 = mkF m 0 #[.val (.ref x0), .val (.ref x1), .val (.ref x2), .val (.int x3)] [] := by first | (simp [entryFrame, mkF, argsToLocals, Value.category]; done) | rfl
abbrev rr10_1_2 : Room := { frames := 1, cells := 0, slots := 0, locals := 18 }
def Q10_1_2 (Z : State) (a0 : Addr) (a1 : Addr) (a2 : Addr) (bw : Addr) (br : Addr) (w0 : Int64) (r0 : Int64) (u0 : Int64) (u1 : Int64) (u2 : Int64) (u3 : Int64) (x0 : Int64) (x1 : Int64) (x2 : Int64) (x3 : Int64) (k_bw : ClassId) (k_br : ClassId) (k_a1 : ClassId) (k_a2 : ClassId) (h0 : Heap) (n0 : Nat) (v : Option Value) (h : Heap) (L : List Loc) : Prop := v = none ∧ Fr n0 L ∧ Keep h0 h [a1, a2] ∧ Arv Z h a1 k_a1 .long (4 : Int32) [(.long u0), (.long u1), (.long w0), (.long u3)] (.long (0 : Int64)) ∧ Arv Z h a2 k_a2 .long (4 : Int32) [(.long x0), (.long x1), (.long r0), (.long x3)] (.long (0 : Int64))
set_option maxRecDepth 65536 in
set_option maxHeartbeats 40000000 in
theorem rm10_1_2 (l : Launch) (Z : State) (aw : Array Value) (hw : ∀ d ∈ tables_1, d.before aw Z = true) (ws : List Jvm.Cond) (a0 : Addr) (a1 : Addr) (a2 : Addr) (bw : Addr) (br : Addr) (w0 : Int64) (r0 : Int64) (u0 : Int64) (u1 : Int64) (u2 : Int64) (u3 : Int64) (x0 : Int64) (x1 : Int64) (x2 : Int64) (x3 : Int64) (k_bw : ClassId) (k_br : ClassId) (k_a1 : ClassId) (k_a2 : ClassId) (h0 : Heap) (n0 : Nat) (Z0 : n0 ≤ h0.size) (E_a0 : Exa Z h0 a0 "com/example/stowline/stowline/VolumeBound") (F_wholeCapacities_a0 : Fld Z h0 a0 "com/example/stowline/stowline/VolumeBound" "wholeCapacities" "[J" (.ref bw)) (F_remainders_a0 : Fld Z h0 a0 "com/example/stowline/stowline/VolumeBound" "remainders" "[J" (.ref br)) (V_bw : Arv Z h0 bw k_bw .long (1 : Int32) [(.long w0)] (.long (0 : Int64))) (V_br : Arv Z h0 br k_br .long (1 : Int32) [(.long r0)] (.long (0 : Int64))) (V_a1 : Arv Z h0 a1 k_a1 .long (4 : Int32) [(.long u0), (.long u1), (.long u2), (.long u3)] (.long (0 : Int64))) (V_a2 : Arv Z h0 a2 k_a2 .long (4 : Int32) [(.long x0), (.long x1), (.long x2), (.long x3)] (.long (0 : Int64))) (g_a1 : n0 ≤ a1) (g_a2 : n0 ≤ a2) (ne_a0_a1 : a0 ≠ a1) (ne_a0_a2 : a0 ≠ a2) (ne_bw_a1 : bw ≠ a1) (ne_bw_a2 : bw ≠ a2) (ne_br_a1 : br ≠ a1) (ne_br_a2 : br ≠ a2) (ne_a1_a2 : a1 ≠ a2) :
    MetFree l (⟨"com/example/stowline/stowline/VolumeBound", "copyTotals", "([J[JI)V"⟩ : MethodName) (head1 (Jvm.Cond.code (⟨"com/example/stowline/stowline/VolumeBound", "copyTotals", "([J[JI)V"⟩ : MethodName) prog_29_method_9_code 4 none :: ws) rr10_1_2) (fun a U => a = #[(.ref a0), (.ref a1), (.ref a2), (.int (2 : Int32))] ∧ Z.Warmed39 U.vm ∧ U.heap = h0) (fun _ _ _ _ _ => True) (fun _ U o U' => ∃ v L, o = .returned v ∧ Q10_1_2 Z a0 a1 a2 bw br w0 r0 u0 u1 u2 u3 x0 x1 x2 x3 k_bw k_br k_a1 k_a2 h0 n0 v U'.heap L ∧ FrameEnd U o U' L rr10_1_2.cells rr10_1_2.slots) := by
  refine MetFree.of_bodySF (plainFor_of_name pn_3) hisR ?_
  intro p e s m args below meth c s₁ Bd hml0 hP hK
  obtain ⟨rfl, hZ, hh⟩ := hP
  have hx := Bd.exec
  have hby := Bd.bytes
  have hml : c.maxLocals = 4 := hml0
  have hown : s.vm.findClass "com/example/stowline/stowline/VolumeBound" = some m.cls := findClass_of_methodNamed Bd.named
  have hnm := (name_of_methodNamed Bd.named Bd.method).1
  have X0 : Stand p l e rr10_1_2 s m #[(.ref a0), (.ref a1), (.ref a2), (.int (2 : Int32))] below meth c s₁ [] 0 0 := Stand.of_body Bd
  have e0 : s₁.heap = h0 := by rw [← hh, Bd.state]; rfl
  have N0 := Fr.nil n0
  have K0 := Keep.refl h0 [a1, a2]
  have pre0 : ∀ t, Steps p.tables e below (s₁.setTop (mkF m 0 #[.val (.ref a0), .val (.ref a1), .val (.ref a2), .val (.int (2 : Int32))] [])) t → Steps p.tables e below (s₁.setTop (entryFrame m #[(.ref a0), (.ref a1), (.ref a2), (.int (2 : Int32))] 4)) t := fun t k => castTop (ef10_1_2 m a0 a1 a2 (2 : Int32)) k
  let L_1316 : Array Slot := #[.val (.ref a0), .val (.ref a1), .val (.ref a2), .val (.int (2 : Int32))]
  obtain ⟨T1317, X1317, e1317, st1317⟩ := getF X0 hx hZ hown (host := "") (Or.inl (own_m hw 54 rfl)) Via.refl e0 F_wholeCapacities_a0 (g := (mkF m 1 L_1316 [(.ref a0)])) rfl rfl (hb hby d10_1)
  obtain ⟨T1318, X1318, e1318, st1318⟩ := getF X1317 hx hZ hown (host := "") (Or.inl (own_m hw 54 rfl)) Via.refl e1317 F_wholeCapacities_a0 (g := (mkF m 8 L_1316 [(.ref a0), (.int (2 : Int32)), (.ref a1), (.int (0 : Int32)), (.ref bw)])) rfl rfl (hb hby d10_8)
  obtain ⟨cl1319, Ar1319, q1319, S1319, M1319, H1319, G1319⟩ := id V_bw
  obtain ⟨T1320, h1320, L1320, X1320, e1320, N1320, K1320q, V1320, st1320⟩ := cpA X1318 hx hZ hown (own_m hw 77 rfl) (own_m hw 80 rfl) (own_m hw 78 rfl) (own_m hw 79 rfl) e1318 (sp := (0 : Int32)) (dp := (2 : Int32)) (nn := (1 : Int32)) (us := [(.long w0)]) V_bw V_a1 (Or.inl ⟨rfl, rfl⟩) (by decide) (by decide) (by decide) (by decide) (by decide) (by rfl) (Nat.le_of_ble_eq_true rfl) N0 g_a1 (g := (mkF m 12 L_1316 [(.int (1 : Int32)), (.int (2 : Int32)), (.ref a1), (.int (0 : Int32)), (.ref bw)])) rfl (by rw [hml]; rfl) rfl (hb hby d10_12) (by decide) (W := 0) (by show 2 * 0 + _ ≤ _; exact Nat.le_of_eq rfl) (by decide)
  have f1321 := E_a0.keep K1320q
  have f1322 := F_wholeCapacities_a0.keep K1320q (ninS ne_a0_a1 nin0)
  have f1323 := F_remainders_a0.keep K1320q (ninS ne_a0_a1 nin0)
  have f1324 := V_bw.keep K1320q (ninS ne_bw_a1 nin0)
  have f1325 := V_br.keep K1320q (ninS ne_br_a1 nin0)
  have f1327 := V_a2.keep K1320q (ninS (Ne.symm ne_a1_a2) nin0)
  have V1320x : Arv Z h1320 a1 k_a1 .long (4 : Int32) [(.long u0), (.long u1), (.long w0), (.long u3)] (.long (0 : Int64)) := V1320
  have K1320 := K0.trans K1320q (allS (Or.inl (List.mem_of_getElem? (i := 0) rfl)) all0)
  have Z1320 := Nat.le_trans Z0 K1320q.1
  obtain ⟨T1328, X1328, e1328, st1328⟩ := getF X1320 hx hZ hown (host := "") (Or.inl (own_m hw 56 rfl)) Via.refl e1320 f1323 (g := (mkF m 16 L_1316 [(.ref a0)])) rfl rfl (hb hby d10_16)
  obtain ⟨T1329, X1329, e1329, st1329⟩ := getF X1328 hx hZ hown (host := "") (Or.inl (own_m hw 56 rfl)) Via.refl e1328 f1323 (g := (mkF m 23 L_1316 [(.ref a0), (.int (2 : Int32)), (.ref a2), (.int (0 : Int32)), (.ref br)])) rfl rfl (hb hby d10_23)
  obtain ⟨cl1330, Ar1330, q1330, S1330, M1330, H1330, G1330⟩ := id f1325
  obtain ⟨T1331, h1331, L1331, X1331, e1331, N1331, K1331q, V1331, st1331⟩ := cpA X1329 hx hZ hown (own_m hw 77 rfl) (own_m hw 80 rfl) (own_m hw 78 rfl) (own_m hw 79 rfl) e1329 (sp := (0 : Int32)) (dp := (2 : Int32)) (nn := (1 : Int32)) (us := [(.long r0)]) f1325 f1327 (Or.inl ⟨rfl, rfl⟩) (by decide) (by decide) (by decide) (by decide) (by decide) (by rfl) (Nat.le_of_ble_eq_true rfl) N1320 g_a2 (g := (mkF m 27 L_1316 [(.int (1 : Int32)), (.int (2 : Int32)), (.ref a2), (.int (0 : Int32)), (.ref br)])) rfl (by rw [hml]; rfl) rfl (hb hby d10_27) (by decide) (W := 0) (by show 2 * 0 + _ ≤ _; exact Nat.le_of_eq rfl) (by decide)
  have f1332 := f1321.keep K1331q
  have f1333 := f1322.keep K1331q (ninS ne_a0_a2 nin0)
  have f1334 := f1323.keep K1331q (ninS ne_a0_a2 nin0)
  have f1335 := f1324.keep K1331q (ninS ne_bw_a2 nin0)
  have f1336 := f1325.keep K1331q (ninS ne_br_a2 nin0)
  have f1338 := V1320x.keep K1331q (ninS ne_a1_a2 nin0)
  have V1331x : Arv Z h1331 a2 k_a2 .long (4 : Int32) [(.long x0), (.long x1), (.long r0), (.long x3)] (.long (0 : Int64)) := V1331
  have K1331 := K1320.trans K1331q (allS (Or.inl (List.mem_of_getElem? (i := 1) rfl)) all0)
  have Z1331 := Nat.le_trans Z1320 K1331q.1
  obtain ⟨fs, hr, hrun, hended, hW, hsame⟩ := X1331.leave (v := none) (fun _ => rfl)
  refine ⟨_, _, pre0 _ ?_, hrun, hended, _, _, rfl, ?_, ⟨_, rfl⟩, hW, hsame.mono (by decide) (by decide)⟩
  · skip
    show Steps p.tables e below (s₁.setTop (mkF m 0 L_1316 [])) _
    refine XS.aloadN X0.here hx rfl (hb hby d10_0) rfl rfl ?_
    show Steps p.tables e below (s₁.setTop (mkF m 1 L_1316 [(.ref a0)])) _
    refine st1317 _ ?_
    refine XS.iconst X1317.here hx rfl (hb hby d10_4) ?_
    refine XS.aloadN X1317.here hx rfl (hb hby d10_5) rfl rfl ?_
    refine XS.iloadN X1317.here hx rfl (hb hby d10_6) rfl ?_
    refine XS.aloadN X1317.here hx rfl (hb hby d10_7) rfl rfl ?_
    show Steps p.tables e below (T1317.setTop (mkF m 8 L_1316 [(.ref a0), (.int (2 : Int32)), (.ref a1), (.int (0 : Int32)), (.ref bw)])) _
    refine st1318 _ ?_
    show Steps p.tables e below (T1318.setTop (mkF m 11 L_1316 [(.ref bw), (.int (2 : Int32)), (.ref a1), (.int (0 : Int32)), (.ref bw)])) _
    refine X1318.arraylength hx (by rw [e1318]; exact Ar1319.1) (State.isArrayOf_alike hZ.alike Ar1319.2.1) (g := (mkF m 11 L_1316 [(.ref bw), (.int (2 : Int32)), (.ref a1), (.int (0 : Int32)), (.ref bw)])) rfl rfl (hb hby d10_11) _ ?_
    rw [len_of S1319 M1319]
    show Steps p.tables e below (T1318.setTop (mkF m 12 L_1316 [(.int (1 : Int32)), (.int (2 : Int32)), (.ref a1), (.int (0 : Int32)), (.ref bw)])) _
    refine st1320 _ ?_
    refine XS.aloadN X1320.here hx rfl (hb hby d10_15) rfl rfl ?_
    show Steps p.tables e below (T1320.setTop (mkF m 16 L_1316 [(.ref a0)])) _
    refine st1328 _ ?_
    refine XS.iconst X1328.here hx rfl (hb hby d10_19) ?_
    refine XS.aloadN X1328.here hx rfl (hb hby d10_20) rfl rfl ?_
    refine XS.iloadN X1328.here hx rfl (hb hby d10_21) rfl ?_
    refine XS.aloadN X1328.here hx rfl (hb hby d10_22) rfl rfl ?_
    show Steps p.tables e below (T1328.setTop (mkF m 23 L_1316 [(.ref a0), (.int (2 : Int32)), (.ref a2), (.int (0 : Int32)), (.ref br)])) _
    refine st1329 _ ?_
    show Steps p.tables e below (T1329.setTop (mkF m 26 L_1316 [(.ref br), (.int (2 : Int32)), (.ref a2), (.int (0 : Int32)), (.ref br)])) _
    refine X1329.arraylength hx (by rw [e1329]; exact Ar1330.1) (State.isArrayOf_alike hZ.alike Ar1330.2.1) (g := (mkF m 26 L_1316 [(.ref br), (.int (2 : Int32)), (.ref a2), (.int (0 : Int32)), (.ref br)])) rfl rfl (hb hby d10_26) _ ?_
    rw [len_of S1330 M1330]
    show Steps p.tables e below (T1329.setTop (mkF m 27 L_1316 [(.int (1 : Int32)), (.int (2 : Int32)), (.ref a2), (.int (0 : Int32)), (.ref br)])) _
    refine st1331 _ ?_
    show Steps p.tables e below (T1331.setTop (mkF m 30 L_1316 [])) _
    exact X1331.returnOut hx Bd.returns (hb hby d10_30) hr
  · show Q10_1_2 Z a0 a1 a2 bw br w0 r0 u0 u1 u2 u3 x0 x1 x2 x3 k_bw k_br k_a1 k_a2 h0 n0 _ T1331.heap _
    rw [e1331]
    exact ⟨rfl, N1331, K1331, f1338, V1331x⟩
theorem ef10_1_3 (m : MethodId) (x0 : Addr) (x1 : Addr) (x2 : Addr) (x3 : Int32) : entryFrame m #[(.ref x0), (.ref x1), (.ref x2), (.int x3)] 4 = mkF m 0 #[.val (.ref x0), .val (.ref x1), .val (.ref x2), .val (.int x3)] [] := by first | (simp [entryFrame, mkF, argsToLocals, Value.category]; done) | rfl
abbrev rr10_1_3 : Room := { frames := 1, cells := 0, slots := 0, locals := 18 }
def Q10_1_3 (Z : State) (a0 : Addr) (a1 : Addr) (a2 : Addr) (bw : Addr) (br : Addr) (w0 : Int64) (r0 : Int64) (u0 : Int64) (u1 : Int64) (u2 : Int64) (u3 : Int64) (x0 : Int64) (x1 : Int64) (x2 : Int64) (x3 : Int64) (k_bw : ClassId) (k_br : ClassId) (k_a1 : ClassId) (k_a2 : ClassId) (h0 : Heap) (n0 : Nat) (v : Option Value) (h : Heap) (L : List Loc) : Prop := v = none ∧ Fr n0 L ∧ Keep h0 h [a1, a2] ∧ Arv Z h a1 k_a1 .long (4 : Int32) [(.long u0), (.long u1), (.long u2), (.long w0)] (.long (0 : Int64)) ∧ Arv Z h a2 k_a2 .long (4 : Int32) [(.long x0), (.long x1), (.long x2), (.long r0)] (.long (0 : Int64))
set_option maxRecDepth 65536 in
set_option maxHeartbeats 40000000 in
theorem rm10_1_3 (l : Launch) (Z : State) (aw : Array Value) (hw : ∀ d ∈ tables_1, d.before aw Z = true) (ws : List Jvm.Cond) (a0 : Addr) (a1 : Addr) (a2 : Addr) (bw : Addr) (br : Addr) (w0 : Int64) (r0 : Int64) (u0 : Int64) (u1 : Int64) (u2 : Int64) (u3 : Int64) (x0 : Int64) (x1 : Int64) (x2 : Int64) (x3 : Int64) (k_bw : ClassId) (k_br : ClassId) (k_a1 : ClassId) (k_a2 : ClassId) (h0 : Heap) (n0 : Nat) (Z0 : n0 ≤ h0.size) (E_a0 : Exa Z h0 a0 "com/example/stowline/stowline/VolumeBound") (F_wholeCapacities_a0 : Fld Z h0 a0 "com/example/stowline/stowline/VolumeBound" "wholeCapacities" "[J" (.ref bw)) (F_remainders_a0 : Fld Z h0 a0 "com/example/stowline/stowline/VolumeBound" "remainders" "[J" (.ref br)) (V_bw : Arv Z h0 bw k_bw .long (1 : Int32) [(.long w0)] (.long (0 : Int64))) (V_br : Arv Z h0 br k_br .long (1 : Int32) [(.long r0)] (.long (0 : Int64))) (V_a1 : Arv Z h0 a1 k_a1 .long (4 : Int32) [(.long u0), (.long u1), (.long u2), (.long u3)] (.long (0 : Int64))) (V_a2 : Arv Z h0 a2 k_a2 .long (4 : Int32) [(.long x0), (.long x1), (.long x2), (.long x3)] (.long (0 : Int64))) (g_a1 : n0 ≤ a1) (g_a2 : n0 ≤ a2) (ne_a0_a1 : a0 ≠ a1) (ne_a0_a2 : a0 ≠ a2) (ne_bw_a1 : bw ≠ a1) (ne_bw_a2 : bw ≠ a2) (ne_br_a1 : br ≠ a1) (ne_br_a2 : br ≠ a2) (ne_a1_a2 : a1 ≠ a2) :
    MetFree l (⟨"com/example/stowline/stowline/VolumeBound", "copyTotals", "([J[JI)V"⟩ : MethodName) (head1 (Jvm.Cond.code (⟨"com/example/stowline/stowline/VolumeBound", "copyTotals", "([J[JI)V"⟩ : MethodName) prog_29_method_9_code 4 none :: ws) rr10_1_3) (fun a U => a = #[(.ref a0), (.ref a1), (.ref a2), (.int (3 : Int32))] ∧ Z.Warmed39 U.vm ∧ U.heap = h0) (fun _ _ _ _ _ => True) (fun _ U o U' => ∃ v L, o = .returned v ∧ Q10_1_3 Z a0 a1 a2 bw br w0 r0 u0 u1 u2 u3 x0 x1 x2 x3 k_bw k_br k_a1 k_a2 h0 n0 v U'.heap L ∧ FrameEnd U o U' L rr10_1_3.cells rr10_1_3.slots) := by
  refine MetFree.of_bodySF (plainFor_of_name pn_3) hisR ?_
  intro p e s m args below meth c s₁ Bd hml0 hP hK
  obtain ⟨rfl, hZ, hh⟩ := hP
  have hx := Bd.exec
  have hby := Bd.bytes
  have hml : c.maxLocals = 4 := hml0
  have hown : s.vm.findClass "com/example/stowline/stowline/VolumeBound" = some m.cls := findClass_of_methodNamed Bd.named
  have hnm := (name_of_methodNamed Bd.named Bd.method).1
  have X0 : Stand p l e rr10_1_3 s m #[(.ref a0), (.ref a1), (.ref a2), (.int (3 : Int32))] below meth c s₁ [] 0 0 := Stand.of_body Bd
  have e0 : s₁.heap = h0 := by rw [← hh, Bd.state]; rfl
  have N0 := Fr.nil n0
  have K0 := Keep.refl h0 [a1, a2]
  have pre0 : ∀ t, Steps p.tables e below (s₁.setTop (mkF m 0 #[.val (.ref a0), .val (.ref a1), .val (.ref a2), .val (.int (3 : Int32))] [])) t → Steps p.tables e below (s₁.setTop (entryFrame m #[(.ref a0), (.ref a1), (.ref a2), (.int (3 : Int32))] 4)) t := fun t k => castTop (ef10_1_3 m a0 a1 a2 (3 : Int32)) k
  let L_1339 : Array Slot := #[.val (.ref a0), .val (.ref a1), .val (.ref a2), .val (.int (3 : Int32))]
  obtain ⟨T1340, X1340, e1340, st1340⟩ := getF X0 hx hZ hown (host := "") (Or.inl (own_m hw 54 rfl)) Via.refl e0 F_wholeCapacities_a0 (g := (mkF m 1 L_1339 [(.ref a0)])) rfl rfl (hb hby d10_1)
  obtain ⟨T1341, X1341, e1341, st1341⟩ := getF X1340 hx hZ hown (host := "") (Or.inl (own_m hw 54 rfl)) Via.refl e1340 F_wholeCapacities_a0 (g := (mkF m 8 L_1339 [(.ref a0), (.int (3 : Int32)), (.ref a1), (.int (0 : Int32)), (.ref bw)])) rfl rfl (hb hby d10_8)
  obtain ⟨cl1342, Ar1342, q1342, S1342, M1342, H1342, G1342⟩ := id V_bw
  obtain ⟨T1343, h1343, L1343, X1343, e1343, N1343, K1343q, V1343, st1343⟩ := cpA X1341 hx hZ hown (own_m hw 77 rfl) (own_m hw 80 rfl) (own_m hw 78 rfl) (own_m hw 79 rfl) e1341 (sp := (0 : Int32)) (dp := (3 : Int32)) (nn := (1 : Int32)) (us := [(.long w0)]) V_bw V_a1 (Or.inl ⟨rfl, rfl⟩) (by decide) (by decide) (by decide) (by decide) (by decide) (by rfl) (Nat.le_of_ble_eq_true rfl) N0 g_a1 (g := (mkF m 12 L_1339 [(.int (1 : Int32)), (.int (3 : Int32)), (.ref a1), (.int (0 : Int32)), (.ref bw)])) rfl (by rw [hml]; rfl) rfl (hb hby d10_12) (by decide) (W := 0) (by show 2 * 0 + _ ≤ _; exact Nat.le_of_eq rfl) (by decide)
  have f1344 := E_a0.keep K1343q
  have f1345 := F_wholeCapacities_a0.keep K1343q (ninS ne_a0_a1 nin0)
  have f1346 := F_remainders_a0.keep K1343q (ninS ne_a0_a1 nin0)
  have f1347 := V_bw.keep K1343q (ninS ne_bw_a1 nin0)
  have f1348 := V_br.keep K1343q (ninS ne_br_a1 nin0)
  have f1350 := V_a2.keep K1343q (ninS (Ne.symm ne_a1_a2) nin0)
  have V1343x : Arv Z h1343 a1 k_a1 .long (4 : Int32) [(.long u0), (.long u1), (.long u2), (.long w0)] (.long (0 : Int64)) := V1343
  have K1343 := K0.trans K1343q (allS (Or.inl (List.mem_of_getElem? (i := 0) rfl)) all0)
  have Z1343 := Nat.le_trans Z0 K1343q.1
  obtain ⟨T1351, X1351, e1351, st1351⟩ := getF X1343 hx hZ hown (host := "") (Or.inl (own_m hw 56 rfl)) Via.refl e1343 f1346 (g := (mkF m 16 L_1339 [(.ref a0)])) rfl rfl (hb hby d10_16)
  obtain ⟨T1352, X1352, e1352, st1352⟩ := getF X1351 hx hZ hown (host := "") (Or.inl (own_m hw 56 rfl)) Via.refl e1351 f1346 (g := (mkF m 23 L_1339 [(.ref a0), (.int (3 : Int32)), (.ref a2), (.int (0 : Int32)), (.ref br)])) rfl rfl (hb hby d10_23)
  obtain ⟨cl1353, Ar1353, q1353, S1353, M1353, H1353, G1353⟩ := id f1348
  obtain ⟨T1354, h1354, L1354, X1354, e1354, N1354, K1354q, V1354, st1354⟩ := cpA X1352 hx hZ hown (own_m hw 77 rfl) (own_m hw 80 rfl) (own_m hw 78 rfl) (own_m hw 79 rfl) e1352 (sp := (0 : Int32)) (dp := (3 : Int32)) (nn := (1 : Int32)) (us := [(.long r0)]) f1348 f1350 (Or.inl ⟨rfl, rfl⟩) (by decide) (by decide) (by decide) (by decide) (by decide) (by rfl) (Nat.le_of_ble_eq_true rfl) N1343 g_a2 (g := (mkF m 27 L_1339 [(.int (1 : Int32)), (.int (3 : Int32)), (.ref a2), (.int (0 : Int32)), (.ref br)])) rfl (by rw [hml]; rfl) rfl (hb hby d10_27) (by decide) (W := 0) (by show 2 * 0 + _ ≤ _; exact Nat.le_of_eq rfl) (by decide)
  have f1355 := f1344.keep K1354q
  have f1356 := f1345.keep K1354q (ninS ne_a0_a2 nin0)
  have f1357 := f1346.keep K1354q (ninS ne_a0_a2 nin0)
  have f1358 := f1347.keep K1354q (ninS ne_bw_a2 nin0)
  have f1359 := f1348.keep K1354q (ninS ne_br_a2 nin0)
  have f1361 := V1343x.keep K1354q (ninS ne_a1_a2 nin0)
  have V1354x : Arv Z h1354 a2 k_a2 .long (4 : Int32) [(.long x0), (.long x1), (.long x2), (.long r0)] (.long (0 : Int64)) := V1354
  have K1354 := K1343.trans K1354q (allS (Or.inl (List.mem_of_getElem? (i := 1) rfl)) all0)
  have Z1354 := Nat.le_trans Z1343 K1354q.1
  obtain ⟨fs, hr, hrun, hended, hW, hsame⟩ := X1354.leave (v := none) (fun _ => rfl)
  refine ⟨_, _, pre0 _ ?_, hrun, hended, _, _, rfl, ?_, ⟨_, rfl⟩, hW, hsame.mono (by decide) (by decide)⟩
  · skip
    show Steps p.tables e below (s₁.setTop (mkF m 0 L_1339 [])) _
    refine XS.aloadN X0.here hx rfl (hb hby d10_0) rfl rfl ?_
    show Steps p.tables e below (s₁.setTop (mkF m 1 L_1339 [(.ref a0)])) _
    refine st1340 _ ?_
    refine XS.iconst X1340.here hx rfl (hb hby d10_4) ?_
    refine XS.aloadN X1340.here hx rfl (hb hby d10_5) rfl rfl ?_
    refine XS.iloadN X1340.here hx rfl (hb hby d10_6) rfl ?_
    refine XS.aloadN X1340.here hx rfl (hb hby d10_7) rfl rfl ?_
    show Steps p.tables e below (T1340.setTop (mkF m 8 L_1339 [(.ref a0), (.int (3 : Int32)), (.ref a1), (.int (0 : Int32)), (.ref bw)])) _
    refine st1341 _ ?_
    show Steps p.tables e below (T1341.setTop (mkF m 11 L_1339 [(.ref bw), (.int (3 : Int32)), (.ref a1), (.int (0 : Int32)), (.ref bw)])) _
    refine X1341.arraylength hx (by rw [e1341]; exact Ar1342.1) (State.isArrayOf_alike hZ.alike Ar1342.2.1) (g := (mkF m 11 L_1339 [(.ref bw), (.int (3 : Int32)), (.ref a1), (.int (0 : Int32)), (.ref bw)])) rfl rfl (hb hby d10_11) _ ?_
    rw [len_of S1342 M1342]
    show Steps p.tables e below (T1341.setTop (mkF m 12 L_1339 [(.int (1 : Int32)), (.int (3 : Int32)), (.ref a1), (.int (0 : Int32)), (.ref bw)])) _
    refine st1343 _ ?_
    refine XS.aloadN X1343.here hx rfl (hb hby d10_15) rfl rfl ?_
    show Steps p.tables e below (T1343.setTop (mkF m 16 L_1339 [(.ref a0)])) _
    refine st1351 _ ?_
    refine XS.iconst X1351.here hx rfl (hb hby d10_19) ?_
    refine XS.aloadN X1351.here hx rfl (hb hby d10_20) rfl rfl ?_
    refine XS.iloadN X1351.here hx rfl (hb hby d10_21) rfl ?_
    refine XS.aloadN X1351.here hx rfl (hb hby d10_22) rfl rfl ?_
    show Steps p.tables e below (T1351.setTop (mkF m 23 L_1339 [(.ref a0), (.int (3 : Int32)), (.ref a2), (.int (0 : Int32)), (.ref br)])) _
    refine st1352 _ ?_
    show Steps p.tables e below (T1352.setTop (mkF m 26 L_1339 [(.ref br), (.int (3 : Int32)), (.ref a2), (.int (0 : Int32)), (.ref br)])) _
    refine X1352.arraylength hx (by rw [e1352]; exact Ar1353.1) (State.isArrayOf_alike hZ.alike Ar1353.2.1) (g := (mkF m 26 L_1339 [(.ref br), (.int (3 : Int32)), (.ref a2), (.int (0 : Int32)), (.ref br)])) rfl rfl (hb hby d10_26) _ ?_
    rw [len_of S1353 M1353]
    show Steps p.tables e below (T1352.setTop (mkF m 27 L_1339 [(.int (1 : Int32)), (.int (3 : Int32)), (.ref a2), (.int (0 : Int32)), (.ref br)])) _
    refine st1354 _ ?_
    show Steps p.tables e below (T1354.setTop (mkF m 30 L_1339 [])) _
    exact X1354.returnOut hx Bd.returns (hb hby d10_30) hr
  · show Q10_1_3 Z a0 a1 a2 bw br w0 r0 u0 u1 u2 u3 x0 x1 x2 x3 k_bw k_br k_a1 k_a2 h0 n0 _ T1354.heap _
    rw [e1354]
    exact ⟨rfl, N1354, K1354, f1361, V1354x⟩
theorem ef10_2_0 (m : MethodId) (x0 : Addr) (x1 : Addr) (x2 : Addr) (x3 : Int32) : entryFrame m #[(.ref x0), (.ref x1), (.ref x2), (.int x3)] 4 = mkF m 0 #[.val (.ref x0), .val (.ref x1), .val (.ref x2), .val (.int x3)] [] := by first | (simp [entryFrame, mkF, argsToLocals, Value.category]; done) | rfl
abbrev rr10_2_0 : Room := { frames := 1, cells := 0, slots := 0, locals := 18 }
def Q10_2_0 (Z : State) (a0 : Addr) (a1 : Addr) (a2 : Addr) (bw : Addr) (br : Addr) (w0 : Int64) (w1 : Int64) (r0 : Int64) (r1 : Int64) (u0 : Int64) (u1 : Int64) (u2 : Int64) (u3 : Int64) (x0 : Int64) (x1 : Int64) (x2 : Int64) (x3 : Int64) (k_bw : ClassId) (k_br : ClassId) (k_a1 : ClassId) (k_a2 : ClassId) (h0 : Heap) (n0 : Nat) (v : Option Value) (h : Heap) (L : List Loc) : Prop := v = none ∧ Fr n0 L ∧ Keep h0 h [a1, a2] ∧ Arv Z h a1 k_a1 .long (4 : Int32) [(.long w0), (.long w1), (.long u2), (.long u3)] (.long (0 : Int64)) ∧ Arv Z h a2 k_a2 .long (4 : Int32) [(.long r0), (.long r1), (.long x2), (.long x3)] (.long (0 : Int64))
set_option maxRecDepth 65536 in
set_option maxHeartbeats 40000000 in
theorem rm10_2_0 (l : Launch) (Z : State) (aw : Array Value) (hw : ∀ d ∈ tables_1, d.before aw Z = true) (ws : List Jvm.Cond) (a0 : Addr) (a1 : Addr) (a2 : Addr) (bw : Addr) (br : Addr) (w0 : Int64) (w1 : Int64) (r0 : Int64) (r1 : Int64) (u0 : Int64) (u1 : Int64) (u2 : Int64) (u3 : Int64) (x0 : Int64) (x1 : Int64) (x2 : Int64) (x3 : Int64) (k_bw : ClassId) (k_br : ClassId) (k_a1 : ClassId) (k_a2 : ClassId) (h0 : Heap) (n0 : Nat) (Z0 : n0 ≤ h0.size) (E_a0 : Exa Z h0 a0 "com/example/stowline/stowline/VolumeBound") (F_wholeCapacities_a0 : Fld Z h0 a0 "com/example/stowline/stowline/VolumeBound" "wholeCapacities" "[J" (.ref bw)) (F_remainders_a0 : Fld Z h0 a0 "com/example/stowline/stowline/VolumeBound" "remainders" "[J" (.ref br)) (V_bw : Arv Z h0 bw k_bw .long (2 : Int32) [(.long w0), (.long w1)] (.long (0 : Int64))) (V_br : Arv Z h0 br k_br .long (2 : Int32) [(.long r0), (.long r1)] (.long (0 : Int64))) (V_a1 : Arv Z h0 a1 k_a1 .long (4 : Int32) [(.long u0), (.long u1), (.long u2), (.long u3)] (.long (0 : Int64))) (V_a2 : Arv Z h0 a2 k_a2 .long (4 : Int32) [(.long x0), (.long x1), (.long x2), (.long x3)] (.long (0 : Int64))) (g_a1 : n0 ≤ a1) (g_a2 : n0 ≤ a2) (ne_a0_a1 : a0 ≠ a1) (ne_a0_a2 : a0 ≠ a2) (ne_bw_a1 : bw ≠ a1) (ne_bw_a2 : bw ≠ a2) (ne_br_a1 : br ≠ a1) (ne_br_a2 : br ≠ a2) (ne_a1_a2 : a1 ≠ a2) :
    MetFree l (⟨"com/example/stowline/stowline/VolumeBound", "copyTotals", "([J[JI)V"⟩ : MethodName) (head1 (Jvm.Cond.code (⟨"com/example/stowline/stowline/VolumeBound", "copyTotals", "([J[JI)V"⟩ : MethodName) prog_29_method_9_code 4 none :: ws) rr10_2_0) (fun a U => a = #[(.ref a0), (.ref a1), (.ref a2), (.int (0 : Int32))] ∧ Z.Warmed39 U.vm ∧ U.heap = h0) (fun _ _ _ _ _ => True) (fun _ U o U' => ∃ v L, o = .returned v ∧ Q10_2_0 Z a0 a1 a2 bw br w0 w1 r0 r1 u0 u1 u2 u3 x0 x1 x2 x3 k_bw k_br k_a1 k_a2 h0 n0 v U'.heap L ∧ FrameEnd U o U' L rr10_2_0.cells rr10_2_0.slots) := by
  refine MetFree.of_bodySF (plainFor_of_name pn_3) hisR ?_
  intro p e s m args below meth c s₁ Bd hml0 hP hK
  obtain ⟨rfl, hZ, hh⟩ := hP
  have hx := Bd.exec
  have hby := Bd.bytes
  have hml : c.maxLocals = 4 := hml0
  have hown : s.vm.findClass "com/example/stowline/stowline/VolumeBound" = some m.cls := findClass_of_methodNamed Bd.named
  have hnm := (name_of_methodNamed Bd.named Bd.method).1
  have X0 : Stand p l e rr10_2_0 s m #[(.ref a0), (.ref a1), (.ref a2), (.int (0 : Int32))] below meth c s₁ [] 0 0 := Stand.of_body Bd
  have e0 : s₁.heap = h0 := by rw [← hh, Bd.state]; rfl
  have N0 := Fr.nil n0
  have K0 := Keep.refl h0 [a1, a2]
  have pre0 : ∀ t, Steps p.tables e below (s₁.setTop (mkF m 0 #[.val (.ref a0), .val (.ref a1), .val (.ref a2), .val (.int (0 : Int32))] [])) t → Steps p.tables e below (s₁.setTop (entryFrame m #[(.ref a0), (.ref a1), (.ref a2), (.int (0 : Int32))] 4)) t := fun t k => castTop (ef10_2_0 m a0 a1 a2 (0 : Int32)) k
  let L_1362 : Array Slot := #[.val (.ref a0), .val (.ref a1), .val (.ref a2), .val (.int (0 : Int32))]
  obtain ⟨T1363, X1363, e1363, st1363⟩ := getF X0 hx hZ hown (host := "") (Or.inl (own_m hw 54 rfl)) Via.refl e0 F_wholeCapacities_a0 (g := (mkF m 1 L_1362 [(.ref a0)])) rfl rfl (hb hby d10_1)
  obtain ⟨T1364, X1364, e1364, st1364⟩ := getF X1363 hx hZ hown (host := "") (Or.inl (own_m hw 54 rfl)) Via.refl e1363 F_wholeCapacities_a0 (g := (mkF m 8 L_1362 [(.ref a0), (.int (0 : Int32)), (.ref a1), (.int (0 : Int32)), (.ref bw)])) rfl rfl (hb hby d10_8)
  obtain ⟨cl1365, Ar1365, q1365, S1365, M1365, H1365, G1365⟩ := id V_bw
  obtain ⟨T1366, h1366, L1366, X1366, e1366, N1366, K1366q, V1366, st1366⟩ := cpA X1364 hx hZ hown (own_m hw 77 rfl) (own_m hw 80 rfl) (own_m hw 78 rfl) (own_m hw 79 rfl) e1364 (sp := (0 : Int32)) (dp := (0 : Int32)) (nn := (2 : Int32)) (us := [(.long w0), (.long w1)]) V_bw V_a1 (Or.inl ⟨rfl, rfl⟩) (by decide) (by decide) (by decide) (by decide) (by decide) (by rfl) (Nat.le_of_ble_eq_true rfl) N0 g_a1 (g := (mkF m 12 L_1362 [(.int (2 : Int32)), (.int (0 : Int32)), (.ref a1), (.int (0 : Int32)), (.ref bw)])) rfl (by rw [hml]; rfl) rfl (hb hby d10_12) (by decide) (W := 0) (by show 2 * 0 + _ ≤ _; exact Nat.le_of_eq rfl) (by decide)
  have f1367 := E_a0.keep K1366q
  have f1368 := F_wholeCapacities_a0.keep K1366q (ninS ne_a0_a1 nin0)
  have f1369 := F_remainders_a0.keep K1366q (ninS ne_a0_a1 nin0)
  have f1370 := V_bw.keep K1366q (ninS ne_bw_a1 nin0)
  have f1371 := V_br.keep K1366q (ninS ne_br_a1 nin0)
  have f1373 := V_a2.keep K1366q (ninS (Ne.symm ne_a1_a2) nin0)
  have V1366x : Arv Z h1366 a1 k_a1 .long (4 : Int32) [(.long w0), (.long w1), (.long u2), (.long u3)] (.long (0 : Int64)) := V1366
  have K1366 := K0.trans K1366q (allS (Or.inl (List.mem_of_getElem? (i := 0) rfl)) all0)
  have Z1366 := Nat.le_trans Z0 K1366q.1
  obtain ⟨T1374, X1374, e1374, st1374⟩ := getF X1366 hx hZ hown (host := "") (Or.inl (own_m hw 56 rfl)) Via.refl e1366 f1369 (g := (mkF m 16 L_1362 [(.ref a0)])) rfl rfl (hb hby d10_16)
  obtain ⟨T1375, X1375, e1375, st1375⟩ := getF X1374 hx hZ hown (host := "") (Or.inl (own_m hw 56 rfl)) Via.refl e1374 f1369 (g := (mkF m 23 L_1362 [(.ref a0), (.int (0 : Int32)), (.ref a2), (.int (0 : Int32)), (.ref br)])) rfl rfl (hb hby d10_23)
  obtain ⟨cl1376, Ar1376, q1376, S1376, M1376, H1376, G1376⟩ := id f1371
  obtain ⟨T1377, h1377, L1377, X1377, e1377, N1377, K1377q, V1377, st1377⟩ := cpA X1375 hx hZ hown (own_m hw 77 rfl) (own_m hw 80 rfl) (own_m hw 78 rfl) (own_m hw 79 rfl) e1375 (sp := (0 : Int32)) (dp := (0 : Int32)) (nn := (2 : Int32)) (us := [(.long r0), (.long r1)]) f1371 f1373 (Or.inl ⟨rfl, rfl⟩) (by decide) (by decide) (by decide) (by decide) (by decide) (by rfl) (Nat.le_of_ble_eq_true rfl) N1366 g_a2 (g := (mkF m 27 L_1362 [(.int (2 : Int32)), (.int (0 : Int32)), (.ref a2), (.int (0 : Int32)), (.ref br)])) rfl (by rw [hml]; rfl) rfl (hb hby d10_27) (by decide) (W := 0) (by show 2 * 0 + _ ≤ _; exact Nat.le_of_eq rfl) (by decide)
  have f1378 := f1367.keep K1377q
  have f1379 := f1368.keep K1377q (ninS ne_a0_a2 nin0)
  have f1380 := f1369.keep K1377q (ninS ne_a0_a2 nin0)
  have f1381 := f1370.keep K1377q (ninS ne_bw_a2 nin0)
  have f1382 := f1371.keep K1377q (ninS ne_br_a2 nin0)
  have f1384 := V1366x.keep K1377q (ninS ne_a1_a2 nin0)
  have V1377x : Arv Z h1377 a2 k_a2 .long (4 : Int32) [(.long r0), (.long r1), (.long x2), (.long x3)] (.long (0 : Int64)) := V1377
  have K1377 := K1366.trans K1377q (allS (Or.inl (List.mem_of_getElem? (i := 1) rfl)) all0)
  have Z1377 := Nat.le_trans Z1366 K1377q.1
  obtain ⟨fs, hr, hrun, hended, hW, hsame⟩ := X1377.leave (v := none) (fun _ => rfl)
  refine ⟨_, _, pre0 _ ?_, hrun, hended, _, _, rfl, ?_, ⟨_, rfl⟩, hW, hsame.mono (by decide) (by decide)⟩
  · skip
    show Steps p.tables e below (s₁.setTop (mkF m 0 L_1362 [])) _
    refine XS.aloadN X0.here hx rfl (hb hby d10_0) rfl rfl ?_
    show Steps p.tables e below (s₁.setTop (mkF m 1 L_1362 [(.ref a0)])) _
    refine st1363 _ ?_
    refine XS.iconst X1363.here hx rfl (hb hby d10_4) ?_
    refine XS.aloadN X1363.here hx rfl (hb hby d10_5) rfl rfl ?_
    refine XS.iloadN X1363.here hx rfl (hb hby d10_6) rfl ?_
    refine XS.aloadN X1363.here hx rfl (hb hby d10_7) rfl rfl ?_
    show Steps p.tables e below (T1363.setTop (mkF m 8 L_1362 [(.ref a0), (.int (0 : Int32)), (.ref a1), (.int (0 : Int32)), (.ref bw)])) _
    refine st1364 _ ?_
    show Steps p.tables e below (T1364.setTop (mkF m 11 L_1362 [(.ref bw), (.int (0 : Int32)), (.ref a1), (.int (0 : Int32)), (.ref bw)])) _
    refine X1364.arraylength hx (by rw [e1364]; exact Ar1365.1) (State.isArrayOf_alike hZ.alike Ar1365.2.1) (g := (mkF m 11 L_1362 [(.ref bw), (.int (0 : Int32)), (.ref a1), (.int (0 : Int32)), (.ref bw)])) rfl rfl (hb hby d10_11) _ ?_
    rw [len_of S1365 M1365]
    show Steps p.tables e below (T1364.setTop (mkF m 12 L_1362 [(.int (2 : Int32)), (.int (0 : Int32)), (.ref a1), (.int (0 : Int32)), (.ref bw)])) _
    refine st1366 _ ?_
    refine XS.aloadN X1366.here hx rfl (hb hby d10_15) rfl rfl ?_
    show Steps p.tables e below (T1366.setTop (mkF m 16 L_1362 [(.ref a0)])) _
    refine st1374 _ ?_
    refine XS.iconst X1374.here hx rfl (hb hby d10_19) ?_
    refine XS.aloadN X1374.here hx rfl (hb hby d10_20) rfl rfl ?_
    refine XS.iloadN X1374.here hx rfl (hb hby d10_21) rfl ?_
    refine XS.aloadN X1374.here hx rfl (hb hby d10_22) rfl rfl ?_
    show Steps p.tables e below (T1374.setTop (mkF m 23 L_1362 [(.ref a0), (.int (0 : Int32)), (.ref a2), (.int (0 : Int32)), (.ref br)])) _
    refine st1375 _ ?_
    show Steps p.tables e below (T1375.setTop (mkF m 26 L_1362 [(.ref br), (.int (0 : Int32)), (.ref a2), (.int (0 : Int32)), (.ref br)])) _
    refine X1375.arraylength hx (by rw [e1375]; exact Ar1376.1) (State.isArrayOf_alike hZ.alike Ar1376.2.1) (g := (mkF m 26 L_1362 [(.ref br), (.int (0 : Int32)), (.ref a2), (.int (0 : Int32)), (.ref br)])) rfl rfl (hb hby d10_26) _ ?_
    rw [len_of S1376 M1376]
    show Steps p.tables e below (T1375.setTop (mkF m 27 L_1362 [(.int (2 : Int32)), (.int (0 : Int32)), (.ref a2), (.int (0 : Int32)), (.ref br)])) _
    refine st1377 _ ?_
    show Steps p.tables e below (T1377.setTop (mkF m 30 L_1362 [])) _
    exact X1377.returnOut hx Bd.returns (hb hby d10_30) hr
  · show Q10_2_0 Z a0 a1 a2 bw br w0 w1 r0 r1 u0 u1 u2 u3 x0 x1 x2 x3 k_bw k_br k_a1 k_a2 h0 n0 _ T1377.heap _
    rw [e1377]
    exact ⟨rfl, N1377, K1377, f1384, V1377x⟩
theorem ef10_2_1 (m : MethodId) (x0 : Addr) (x1 : Addr) (x2 : Addr) (x3 : Int32) : entryFrame m #[(.ref x0), (.ref x1), (.ref x2), (.int x3)] 4 = mkF m 0 #[.val (.ref x0), .val (.ref x1), .val (.ref x2), .val (.int x3)] [] := by first | (simp [entryFrame, mkF, argsToLocals, Value.category]; done) | rfl
abbrev rr10_2_1 : Room := { frames := 1, cells := 0, slots := 0, locals := 18 }
def Q10_2_1 (Z : State) (a0 : Addr) (a1 : Addr) (a2 : Addr) (bw : Addr) (br : Addr) (w0 : Int64) (w1 : Int64) (r0 : Int64) (r1 : Int64) (u0 : Int64) (u1 : Int64) (u2 : Int64) (u3 : Int64) (x0 : Int64) (x1 : Int64) (x2 : Int64) (x3 : Int64) (k_bw : ClassId) (k_br : ClassId) (k_a1 : ClassId) (k_a2 : ClassId) (h0 : Heap) (n0 : Nat) (v : Option Value) (h : Heap) (L : List Loc) : Prop := v = none ∧ Fr n0 L ∧ Keep h0 h [a1, a2] ∧ Arv Z h a1 k_a1 .long (4 : Int32) [(.long u0), (.long w0), (.long w1), (.long u3)] (.long (0 : Int64)) ∧ Arv Z h a2 k_a2 .long (4 : Int32) [(.long x0), (.long r0), (.long r1), (.long x3)] (.long (0 : Int64))
set_option maxRecDepth 65536 in
set_option maxHeartbeats 40000000 in
theorem rm10_2_1 (l : Launch) (Z : State) (aw : Array Value) (hw : ∀ d ∈ tables_1, d.before aw Z = true) (ws : List Jvm.Cond) (a0 : Addr) (a1 : Addr) (a2 : Addr) (bw : Addr) (br : Addr) (w0 : Int64) (w1 : Int64) (r0 : Int64) (r1 : Int64) (u0 : Int64) (u1 : Int64) (u2 : Int64) (u3 : Int64) (x0 : Int64) (x1 : Int64) (x2 : Int64) (x3 : Int64) (k_bw : ClassId) (k_br : ClassId) (k_a1 : ClassId) (k_a2 : ClassId) (h0 : Heap) (n0 : Nat) (Z0 : n0 ≤ h0.size) (E_a0 : Exa Z h0 a0 "com/example/stowline/stowline/VolumeBound") (F_wholeCapacities_a0 : Fld Z h0 a0 "com/example/stowline/stowline/VolumeBound" "wholeCapacities" "[J" (.ref bw)) (F_remainders_a0 : Fld Z h0 a0 "com/example/stowline/stowline/VolumeBound" "remainders" "[J" (.ref br)) (V_bw : Arv Z h0 bw k_bw .long (2 : Int32) [(.long w0), (.long w1)] (.long (0 : Int64))) (V_br : Arv Z h0 br k_br .long (2 : Int32) [(.long r0), (.long r1)] (.long (0 : Int64))) (V_a1 : Arv Z h0 a1 k_a1 .long (4 : Int32) [(.long u0), (.long u1), (.long u2), (.long u3)] (.long (0 : Int64))) (V_a2 : Arv Z h0 a2 k_a2 .long (4 : Int32) [(.long x0), (.long x1), (.long x2), (.long x3)] (.long (0 : Int64))) (g_a1 : n0 ≤ a1) (g_a2 : n0 ≤ a2) (ne_a0_a1 : a0 ≠ a1) (ne_a0_a2 : a0 ≠ a2) (ne_bw_a1 : bw ≠ a1) (ne_bw_a2 : bw ≠ a2) (ne_br_a1 : br ≠ a1) (ne_br_a2 : br ≠ a2) (ne_a1_a2 : a1 ≠ a2) :
    MetFree l (⟨"com/example/stowline/stowline/VolumeBound", "copyTotals", "([J[JI)V"⟩ : MethodName) (head1 (Jvm.Cond.code (⟨"com/example/stowline/stowline/VolumeBound", "copyTotals", "([J[JI)V"⟩ : MethodName) prog_29_method_9_code 4 none :: ws) rr10_2_1) (fun a U => a = #[(.ref a0), (.ref a1), (.ref a2), (.int (1 : Int32))] ∧ Z.Warmed39 U.vm ∧ U.heap = h0) (fun _ _ _ _ _ => True) (fun _ U o U' => ∃ v L, o = .returned v ∧ Q10_2_1 Z a0 a1 a2 bw br w0 w1 r0 r1 u0 u1 u2 u3 x0 x1 x2 x3 k_bw k_br k_a1 k_a2 h0 n0 v U'.heap L ∧ FrameEnd U o U' L rr10_2_1.cells rr10_2_1.slots) := by
  refine MetFree.of_bodySF (plainFor_of_name pn_3) hisR ?_
  intro p e s m args below meth c s₁ Bd hml0 hP hK
  obtain ⟨rfl, hZ, hh⟩ := hP
  have hx := Bd.exec
  have hby := Bd.bytes
  have hml : c.maxLocals = 4 := hml0
  have hown : s.vm.findClass "com/example/stowline/stowline/VolumeBound" = some m.cls := findClass_of_methodNamed Bd.named
  have hnm := (name_of_methodNamed Bd.named Bd.method).1
  have X0 : Stand p l e rr10_2_1 s m #[(.ref a0), (.ref a1), (.ref a2), (.int (1 : Int32))] below meth c s₁ [] 0 0 := Stand.of_body Bd
  have e0 : s₁.heap = h0 := by rw [← hh, Bd.state]; rfl
  have N0 := Fr.nil n0
  have K0 := Keep.refl h0 [a1, a2]
  have pre0 : ∀ t, Steps p.tables e below (s₁.setTop (mkF m 0 #[.val (.ref a0), .val (.ref a1), .val (.ref a2), .val (.int (1 : Int32))] [])) t → Steps p.tables e below (s₁.setTop (entryFrame m #[(.ref a0), (.ref a1), (.ref a2), (.int (1 : Int32))] 4)) t := fun t k => castTop (ef10_2_1 m a0 a1 a2 (1 : Int32)) k
  let L_1385 : Array Slot := #[.val (.ref a0), .val (.ref a1), .val (.ref a2), .val (.int (1 : Int32))]
  obtain ⟨T1386, X1386, e1386, st1386⟩ := getF X0 hx hZ hown (host := "") (Or.inl (own_m hw 54 rfl)) Via.refl e0 F_wholeCapacities_a0 (g := (mkF m 1 L_1385 [(.ref a0)])) rfl rfl (hb hby d10_1)
  obtain ⟨T1387, X1387, e1387, st1387⟩ := getF X1386 hx hZ hown (host := "") (Or.inl (own_m hw 54 rfl)) Via.refl e1386 F_wholeCapacities_a0 (g := (mkF m 8 L_1385 [(.ref a0), (.int (1 : Int32)), (.ref a1), (.int (0 : Int32)), (.ref bw)])) rfl rfl (hb hby d10_8)
  obtain ⟨cl1388, Ar1388, q1388, S1388, M1388, H1388, G1388⟩ := id V_bw
  obtain ⟨T1389, h1389, L1389, X1389, e1389, N1389, K1389q, V1389, st1389⟩ := cpA X1387 hx hZ hown (own_m hw 77 rfl) (own_m hw 80 rfl) (own_m hw 78 rfl) (own_m hw 79 rfl) e1387 (sp := (0 : Int32)) (dp := (1 : Int32)) (nn := (2 : Int32)) (us := [(.long w0), (.long w1)]) V_bw V_a1 (Or.inl ⟨rfl, rfl⟩) (by decide) (by decide) (by decide) (by decide) (by decide) (by rfl) (Nat.le_of_ble_eq_true rfl) N0 g_a1 (g := (mkF m 12 L_1385 [(.int (2 : Int32)), (.int (1 : Int32)), (.ref a1), (.int (0 : Int32)), (.ref bw)])) rfl (by rw [hml]; rfl) rfl (hb hby d10_12) (by decide) (W := 0) (by show 2 * 0 + _ ≤ _; exact Nat.le_of_eq rfl) (by decide)
  have f1390 := E_a0.keep K1389q
  have f1391 := F_wholeCapacities_a0.keep K1389q (ninS ne_a0_a1 nin0)
  have f1392 := F_remainders_a0.keep K1389q (ninS ne_a0_a1 nin0)
  have f1393 := V_bw.keep K1389q (ninS ne_bw_a1 nin0)
  have f1394 := V_br.keep K1389q (ninS ne_br_a1 nin0)
  have f1396 := V_a2.keep K1389q (ninS (Ne.symm ne_a1_a2) nin0)
  have V1389x : Arv Z h1389 a1 k_a1 .long (4 : Int32) [(.long u0), (.long w0), (.long w1), (.long u3)] (.long (0 : Int64)) := V1389
  have K1389 := K0.trans K1389q (allS (Or.inl (List.mem_of_getElem? (i := 0) rfl)) all0)
  have Z1389 := Nat.le_trans Z0 K1389q.1
  obtain ⟨T1397, X1397, e1397, st1397⟩ := getF X1389 hx hZ hown (host := "") (Or.inl (own_m hw 56 rfl)) Via.refl e1389 f1392 (g := (mkF m 16 L_1385 [(.ref a0)])) rfl rfl (hb hby d10_16)
  obtain ⟨T1398, X1398, e1398, st1398⟩ := getF X1397 hx hZ hown (host := "") (Or.inl (own_m hw 56 rfl)) Via.refl e1397 f1392 (g := (mkF m 23 L_1385 [(.ref a0), (.int (1 : Int32)), (.ref a2), (.int (0 : Int32)), (.ref br)])) rfl rfl (hb hby d10_23)
  obtain ⟨cl1399, Ar1399, q1399, S1399, M1399, H1399, G1399⟩ := id f1394
  obtain ⟨T1400, h1400, L1400, X1400, e1400, N1400, K1400q, V1400, st1400⟩ := cpA X1398 hx hZ hown (own_m hw 77 rfl) (own_m hw 80 rfl) (own_m hw 78 rfl) (own_m hw 79 rfl) e1398 (sp := (0 : Int32)) (dp := (1 : Int32)) (nn := (2 : Int32)) (us := [(.long r0), (.long r1)]) f1394 f1396 (Or.inl ⟨rfl, rfl⟩) (by decide) (by decide) (by decide) (by decide) (by decide) (by rfl) (Nat.le_of_ble_eq_true rfl) N1389 g_a2 (g := (mkF m 27 L_1385 [(.int (2 : Int32)), (.int (1 : Int32)), (.ref a2), (.int (0 : Int32)), (.ref br)])) rfl (by rw [hml]; rfl) rfl (hb hby d10_27) (by decide) (W := 0) (by show 2 * 0 + _ ≤ _; exact Nat.le_of_eq rfl) (by decide)
  have f1401 := f1390.keep K1400q
  have f1402 := f1391.keep K1400q (ninS ne_a0_a2 nin0)
  have f1403 := f1392.keep K1400q (ninS ne_a0_a2 nin0)
  have f1404 := f1393.keep K1400q (ninS ne_bw_a2 nin0)
  have f1405 := f1394.keep K1400q (ninS ne_br_a2 nin0)
  have f1407 := V1389x.keep K1400q (ninS ne_a1_a2 nin0)
  have V1400x : Arv Z h1400 a2 k_a2 .long (4 : Int32) [(.long x0), (.long r0), (.long r1), (.long x3)] (.long (0 : Int64)) := V1400
  have K1400 := K1389.trans K1400q (allS (Or.inl (List.mem_of_getElem? (i := 1) rfl)) all0)
  have Z1400 := Nat.le_trans Z1389 K1400q.1
  obtain ⟨fs, hr, hrun, hended, hW, hsame⟩ := X1400.leave (v := none) (fun _ => rfl)
  refine ⟨_, _, pre0 _ ?_, hrun, hended, _, _, rfl, ?_, ⟨_, rfl⟩, hW, hsame.mono (by decide) (by decide)⟩
  · skip
    show Steps p.tables e below (s₁.setTop (mkF m 0 L_1385 [])) _
    refine XS.aloadN X0.here hx rfl (hb hby d10_0) rfl rfl ?_
    show Steps p.tables e below (s₁.setTop (mkF m 1 L_1385 [(.ref a0)])) _
    refine st1386 _ ?_
    refine XS.iconst X1386.here hx rfl (hb hby d10_4) ?_
    refine XS.aloadN X1386.here hx rfl (hb hby d10_5) rfl rfl ?_
    refine XS.iloadN X1386.here hx rfl (hb hby d10_6) rfl ?_
    refine XS.aloadN X1386.here hx rfl (hb hby d10_7) rfl rfl ?_
    show Steps p.tables e below (T1386.setTop (mkF m 8 L_1385 [(.ref a0), (.int (1 : Int32)), (.ref a1), (.int (0 : Int32)), (.ref bw)])) _
    refine st1387 _ ?_
    show Steps p.tables e below (T1387.setTop (mkF m 11 L_1385 [(.ref bw), (.int (1 : Int32)), (.ref a1), (.int (0 : Int32)), (.ref bw)])) _
    refine X1387.arraylength hx (by rw [e1387]; exact Ar1388.1) (State.isArrayOf_alike hZ.alike Ar1388.2.1) (g := (mkF m 11 L_1385 [(.ref bw), (.int (1 : Int32)), (.ref a1), (.int (0 : Int32)), (.ref bw)])) rfl rfl (hb hby d10_11) _ ?_
    rw [len_of S1388 M1388]
    show Steps p.tables e below (T1387.setTop (mkF m 12 L_1385 [(.int (2 : Int32)), (.int (1 : Int32)), (.ref a1), (.int (0 : Int32)), (.ref bw)])) _
    refine st1389 _ ?_
    refine XS.aloadN X1389.here hx rfl (hb hby d10_15) rfl rfl ?_
    show Steps p.tables e below (T1389.setTop (mkF m 16 L_1385 [(.ref a0)])) _
    refine st1397 _ ?_
    refine XS.iconst X1397.here hx rfl (hb hby d10_19) ?_
    refine XS.aloadN X1397.here hx rfl (hb hby d10_20) rfl rfl ?_
    refine XS.iloadN X1397.here hx rfl (hb hby d10_21) rfl ?_
    refine XS.aloadN X1397.here hx rfl (hb hby d10_22) rfl rfl ?_
    show Steps p.tables e below (T1397.setTop (mkF m 23 L_1385 [(.ref a0), (.int (1 : Int32)), (.ref a2), (.int (0 : Int32)), (.ref br)])) _
    refine st1398 _ ?_
    show Steps p.tables e below (T1398.setTop (mkF m 26 L_1385 [(.ref br), (.int (1 : Int32)), (.ref a2), (.int (0 : Int32)), (.ref br)])) _
    refine X1398.arraylength hx (by rw [e1398]; exact Ar1399.1) (State.isArrayOf_alike hZ.alike Ar1399.2.1) (g := (mkF m 26 L_1385 [(.ref br), (.int (1 : Int32)), (.ref a2), (.int (0 : Int32)), (.ref br)])) rfl rfl (hb hby d10_26) _ ?_
    rw [len_of S1399 M1399]
    show Steps p.tables e below (T1398.setTop (mkF m 27 L_1385 [(.int (2 : Int32)), (.int (1 : Int32)), (.ref a2), (.int (0 : Int32)), (.ref br)])) _
    refine st1400 _ ?_
    show Steps p.tables e below (T1400.setTop (mkF m 30 L_1385 [])) _
    exact X1400.returnOut hx Bd.returns (hb hby d10_30) hr
  · show Q10_2_1 Z a0 a1 a2 bw br w0 w1 r0 r1 u0 u1 u2 u3 x0 x1 x2 x3 k_bw k_br k_a1 k_a2 h0 n0 _ T1400.heap _
    rw [e1400]
    exact ⟨rfl, N1400, K1400, f1407, V1400x⟩
theorem ef10_2_2 (m : MethodId) (x0 : Addr) (x1 : Addr) (x2 : Addr) (x3 : Int32) : entryFrame m #[(.ref x0), (.ref x1), (.ref x2), (.int x3)] 4 = mkF m 0 #[.val (.ref x0), .val (.ref x1), .val (.ref x2), .val (.int x3)] [] := by first | (simp [entryFrame, mkF, argsToLocals, Value.category]; done) | rfl
abbrev rr10_2_2 : Room := { frames := 1, cells := 0, slots := 0, locals := 18 }
def Q10_2_2 (Z : State) (a0 : Addr) (a1 : Addr) (a2 : Addr) (bw : Addr) (br : Addr) (w0 : Int64) (w1 : Int64) (r0 : Int64) (r1 : Int64) (u0 : Int64) (u1 : Int64) (u2 : Int64) (u3 : Int64) (x0 : Int64) (x1 : Int64) (x2 : Int64) (x3 : Int64) (k_bw : ClassId) (k_br : ClassId) (k_a1 : ClassId) (k_a2 : ClassId) (h0 : Heap) (n0 : Nat) (v : Option Value) (h : Heap) (L : List Loc) : Prop := v = none ∧ Fr n0 L ∧ Keep h0 h [a1, a2] ∧ Arv Z h a1 k_a1 .long (4 : Int32) [(.long u0), (.long u1), (.long w0), (.long w1)] (.long (0 : Int64)) ∧ Arv Z h a2 k_a2 .long (4 : Int32) [(.long x0), (.long x1), (.long r0), (.long r1)] (.long (0 : Int64))
set_option maxRecDepth 65536 in
set_option maxHeartbeats 40000000 in
theorem rm10_2_2 (l : Launch) (Z : State) (aw : Array Value) (hw : ∀ d ∈ tables_1, d.before aw Z = true) (ws : List Jvm.Cond) (a0 : Addr) (a1 : Addr) (a2 : Addr) (bw : Addr) (br : Addr) (w0 : Int64) (w1 : Int64) (r0 : Int64) (r1 : Int64) (u0 : Int64) (u1 : Int64) (u2 : Int64) (u3 : Int64) (x0 : Int64) (x1 : Int64) (x2 : Int64) (x3 : Int64) (k_bw : ClassId) (k_br : ClassId) (k_a1 : ClassId) (k_a2 : ClassId) (h0 : Heap) (n0 : Nat) (Z0 : n0 ≤ h0.size) (E_a0 : Exa Z h0 a0 "com/example/stowline/stowline/VolumeBound") (F_wholeCapacities_a0 : Fld Z h0 a0 "com/example/stowline/stowline/VolumeBound" "wholeCapacities" "[J" (.ref bw)) (F_remainders_a0 : Fld Z h0 a0 "com/example/stowline/stowline/VolumeBound" "remainders" "[J" (.ref br)) (V_bw : Arv Z h0 bw k_bw .long (2 : Int32) [(.long w0), (.long w1)] (.long (0 : Int64))) (V_br : Arv Z h0 br k_br .long (2 : Int32) [(.long r0), (.long r1)] (.long (0 : Int64))) (V_a1 : Arv Z h0 a1 k_a1 .long (4 : Int32) [(.long u0), (.long u1), (.long u2), (.long u3)] (.long (0 : Int64))) (V_a2 : Arv Z h0 a2 k_a2 .long (4 : Int32) [(.long x0), (.long x1), (.long x2), (.long x3)] (.long (0 : Int64))) (g_a1 : n0 ≤ a1) (g_a2 : n0 ≤ a2) (ne_a0_a1 : a0 ≠ a1) (ne_a0_a2 : a0 ≠ a2) (ne_bw_a1 : bw ≠ a1) (ne_bw_a2 : bw ≠ a2) (ne_br_a1 : br ≠ a1) (ne_br_a2 : br ≠ a2) (ne_a1_a2 : a1 ≠ a2) :
    MetFree l (⟨"com/example/stowline/stowline/VolumeBound", "copyTotals", "([J[JI)V"⟩ : MethodName) (head1 (Jvm.Cond.code (⟨"com/example/stowline/stowline/VolumeBound", "copyTotals", "([J[JI)V"⟩ : MethodName) prog_29_method_9_code 4 none :: ws) rr10_2_2) (fun a U => a = #[(.ref a0), (.ref a1), (.ref a2), (.int (2 : Int32))] ∧ Z.Warmed39 U.vm ∧ U.heap = h0) (fun _ _ _ _ _ => True) (fun _ U o U' => ∃ v L, o = .returned v ∧ Q10_2_2 Z a0 a1 a2 bw br w0 w1 r0 r1 u0 u1 u2 u3 x0 x1 x2 x3 k_bw k_br k_a1 k_a2 h0 n0 v U'.heap L ∧ FrameEnd U o U' L rr10_2_2.cells rr10_2_2.slots) := by
  refine MetFree.of_bodySF (plainFor_of_name pn_3) hisR ?_
  intro p e s m args below meth c s₁ Bd hml0 hP hK
  obtain ⟨rfl, hZ, hh⟩ := hP
  have hx := Bd.exec
  have hby := Bd.bytes
  have hml : c.maxLocals = 4 := hml0
  have hown : s.vm.findClass "com/example/stowline/stowline/VolumeBound" = some m.cls := findClass_of_methodNamed Bd.named
  have hnm := (name_of_methodNamed Bd.named Bd.method).1
  have X0 : Stand p l e rr10_2_2 s m #[(.ref a0), (.ref a1), (.ref a2), (.int (2 : Int32))] below meth c s₁ [] 0 0 := Stand.of_body Bd
  have e0 : s₁.heap = h0 := by rw [← hh, Bd.state]; rfl
  have N0 := Fr.nil n0
  have K0 := Keep.refl h0 [a1, a2]
  have pre0 : ∀ t, Steps p.tables e below (s₁.setTop (mkF m 0 #[.val (.ref a0), .val (.ref a1), .val (.ref a2), .val (.int (2 : Int32))] [])) t → Steps p.tables e below (s₁.setTop (entryFrame m #[(.ref a0), (.ref a1), (.ref a2), (.int (2 : Int32))] 4)) t := fun t k => castTop (ef10_2_2 m a0 a1 a2 (2 : Int32)) k
  let L_1408 : Array Slot := #[.val (.ref a0), .val (.ref a1), .val (.ref a2), .val (.int (2 : Int32))]
  obtain ⟨T1409, X1409, e1409, st1409⟩ := getF X0 hx hZ hown (host := "") (Or.inl (own_m hw 54 rfl)) Via.refl e0 F_wholeCapacities_a0 (g := (mkF m 1 L_1408 [(.ref a0)])) rfl rfl (hb hby d10_1)
  obtain ⟨T1410, X1410, e1410, st1410⟩ := getF X1409 hx hZ hown (host := "") (Or.inl (own_m hw 54 rfl)) Via.refl e1409 F_wholeCapacities_a0 (g := (mkF m 8 L_1408 [(.ref a0), (.int (2 : Int32)), (.ref a1), (.int (0 : Int32)), (.ref bw)])) rfl rfl (hb hby d10_8)
  obtain ⟨cl1411, Ar1411, q1411, S1411, M1411, H1411, G1411⟩ := id V_bw
  obtain ⟨T1412, h1412, L1412, X1412, e1412, N1412, K1412q, V1412, st1412⟩ := cpA X1410 hx hZ hown (own_m hw 77 rfl) (own_m hw 80 rfl) (own_m hw 78 rfl) (own_m hw 79 rfl) e1410 (sp := (0 : Int32)) (dp := (2 : Int32)) (nn := (2 : Int32)) (us := [(.long w0), (.long w1)]) V_bw V_a1 (Or.inl ⟨rfl, rfl⟩) (by decide) (by decide) (by decide) (by decide) (by decide) (by rfl) (Nat.le_of_ble_eq_true rfl) N0 g_a1 (g := (mkF m 12 L_1408 [(.int (2 : Int32)), (.int (2 : Int32)), (.ref a1), (.int (0 : Int32)), (.ref bw)])) rfl (by rw [hml]; rfl) rfl (hb hby d10_12) (by decide) (W := 0) (by show 2 * 0 + _ ≤ _; exact Nat.le_of_eq rfl) (by decide)
  have f1413 := E_a0.keep K1412q
  have f1414 := F_wholeCapacities_a0.keep K1412q (ninS ne_a0_a1 nin0)
  have f1415 := F_remainders_a0.keep K1412q (ninS ne_a0_a1 nin0)
  have f1416 := V_bw.keep K1412q (ninS ne_bw_a1 nin0)
  have f1417 := V_br.keep K1412q (ninS ne_br_a1 nin0)
  have f1419 := V_a2.keep K1412q (ninS (Ne.symm ne_a1_a2) nin0)
  have V1412x : Arv Z h1412 a1 k_a1 .long (4 : Int32) [(.long u0), (.long u1), (.long w0), (.long w1)] (.long (0 : Int64)) := V1412
  have K1412 := K0.trans K1412q (allS (Or.inl (List.mem_of_getElem? (i := 0) rfl)) all0)
  have Z1412 := Nat.le_trans Z0 K1412q.1
  obtain ⟨T1420, X1420, e1420, st1420⟩ := getF X1412 hx hZ hown (host := "") (Or.inl (own_m hw 56 rfl)) Via.refl e1412 f1415 (g := (mkF m 16 L_1408 [(.ref a0)])) rfl rfl (hb hby d10_16)
  obtain ⟨T1421, X1421, e1421, st1421⟩ := getF X1420 hx hZ hown (host := "") (Or.inl (own_m hw 56 rfl)) Via.refl e1420 f1415 (g := (mkF m 23 L_1408 [(.ref a0), (.int (2 : Int32)), (.ref a2), (.int (0 : Int32)), (.ref br)])) rfl rfl (hb hby d10_23)
  obtain ⟨cl1422, Ar1422, q1422, S1422, M1422, H1422, G1422⟩ := id f1417
  obtain ⟨T1423, h1423, L1423, X1423, e1423, N1423, K1423q, V1423, st1423⟩ := cpA X1421 hx hZ hown (own_m hw 77 rfl) (own_m hw 80 rfl) (own_m hw 78 rfl) (own_m hw 79 rfl) e1421 (sp := (0 : Int32)) (dp := (2 : Int32)) (nn := (2 : Int32)) (us := [(.long r0), (.long r1)]) f1417 f1419 (Or.inl ⟨rfl, rfl⟩) (by decide) (by decide) (by decide) (by decide) (by decide) (by rfl) (Nat.le_of_ble_eq_true rfl) N1412 g_a2 (g := (mkF m 27 L_1408 [(.int (2 : Int32)), (.int (2 : Int32)), (.ref a2), (.int (0 : Int32)), (.ref br)])) rfl (by rw [hml]; rfl) rfl (hb hby d10_27) (by decide) (W := 0) (by show 2 * 0 + _ ≤ _; exact Nat.le_of_eq rfl) (by decide)
  have f1424 := f1413.keep K1423q
  have f1425 := f1414.keep K1423q (ninS ne_a0_a2 nin0)
  have f1426 := f1415.keep K1423q (ninS ne_a0_a2 nin0)
  have f1427 := f1416.keep K1423q (ninS ne_bw_a2 nin0)
  have f1428 := f1417.keep K1423q (ninS ne_br_a2 nin0)
  have f1430 := V1412x.keep K1423q (ninS ne_a1_a2 nin0)
  have V1423x : Arv Z h1423 a2 k_a2 .long (4 : Int32) [(.long x0), (.long x1), (.long r0), (.long r1)] (.long (0 : Int64)) := V1423
  have K1423 := K1412.trans K1423q (allS (Or.inl (List.mem_of_getElem? (i := 1) rfl)) all0)
  have Z1423 := Nat.le_trans Z1412 K1423q.1
  obtain ⟨fs, hr, hrun, hended, hW, hsame⟩ := X1423.leave (v := none) (fun _ => rfl)
  refine ⟨_, _, pre0 _ ?_, hrun, hended, _, _, rfl, ?_, ⟨_, rfl⟩, hW, hsame.mono (by decide) (by decide)⟩
  · skip
    show Steps p.tables e below (s₁.setTop (mkF m 0 L_1408 [])) _
    refine XS.aloadN X0.here hx rfl (hb hby d10_0) rfl rfl ?_
    show Steps p.tables e below (s₁.setTop (mkF m 1 L_1408 [(.ref a0)])) _
    refine st1409 _ ?_
    refine XS.iconst X1409.here hx rfl (hb hby d10_4) ?_
    refine XS.aloadN X1409.here hx rfl (hb hby d10_5) rfl rfl ?_
    refine XS.iloadN X1409.here hx rfl (hb hby d10_6) rfl ?_
    refine XS.aloadN X1409.here hx rfl (hb hby d10_7) rfl rfl ?_
    show Steps p.tables e below (T1409.setTop (mkF m 8 L_1408 [(.ref a0), (.int (2 : Int32)), (.ref a1), (.int (0 : Int32)), (.ref bw)])) _
    refine st1410 _ ?_
    show Steps p.tables e below (T1410.setTop (mkF m 11 L_1408 [(.ref bw), (.int (2 : Int32)), (.ref a1), (.int (0 : Int32)), (.ref bw)])) _
    refine X1410.arraylength hx (by rw [e1410]; exact Ar1411.1) (State.isArrayOf_alike hZ.alike Ar1411.2.1) (g := (mkF m 11 L_1408 [(.ref bw), (.int (2 : Int32)), (.ref a1), (.int (0 : Int32)), (.ref bw)])) rfl rfl (hb hby d10_11) _ ?_
    rw [len_of S1411 M1411]
    show Steps p.tables e below (T1410.setTop (mkF m 12 L_1408 [(.int (2 : Int32)), (.int (2 : Int32)), (.ref a1), (.int (0 : Int32)), (.ref bw)])) _
    refine st1412 _ ?_
    refine XS.aloadN X1412.here hx rfl (hb hby d10_15) rfl rfl ?_
    show Steps p.tables e below (T1412.setTop (mkF m 16 L_1408 [(.ref a0)])) _
    refine st1420 _ ?_
    refine XS.iconst X1420.here hx rfl (hb hby d10_19) ?_
    refine XS.aloadN X1420.here hx rfl (hb hby d10_20) rfl rfl ?_
    refine XS.iloadN X1420.here hx rfl (hb hby d10_21) rfl ?_
    refine XS.aloadN X1420.here hx rfl (hb hby d10_22) rfl rfl ?_
    show Steps p.tables e below (T1420.setTop (mkF m 23 L_1408 [(.ref a0), (.int (2 : Int32)), (.ref a2), (.int (0 : Int32)), (.ref br)])) _
    refine st1421 _ ?_
    show Steps p.tables e below (T1421.setTop (mkF m 26 L_1408 [(.ref br), (.int (2 : Int32)), (.ref a2), (.int (0 : Int32)), (.ref br)])) _
    refine X1421.arraylength hx (by rw [e1421]; exact Ar1422.1) (State.isArrayOf_alike hZ.alike Ar1422.2.1) (g := (mkF m 26 L_1408 [(.ref br), (.int (2 : Int32)), (.ref a2), (.int (0 : Int32)), (.ref br)])) rfl rfl (hb hby d10_26) _ ?_
    rw [len_of S1422 M1422]
    show Steps p.tables e below (T1421.setTop (mkF m 27 L_1408 [(.int (2 : Int32)), (.int (2 : Int32)), (.ref a2), (.int (0 : Int32)), (.ref br)])) _
    refine st1423 _ ?_
    show Steps p.tables e below (T1423.setTop (mkF m 30 L_1408 [])) _
    exact X1423.returnOut hx Bd.returns (hb hby d10_30) hr
  · show Q10_2_2 Z a0 a1 a2 bw br w0 w1 r0 r1 u0 u1 u2 u3 x0 x1 x2 x3 k_bw k_br k_a1 k_a2 h0 n0 _ T1423.heap _
    rw [e1423]
    exact ⟨rfl, N1423, K1423, f1430, V1423x⟩
theorem d11_0 : decode method_4_code 0 = .ok (.iload 6, 2) := by decide +kernel
theorem d11_2 : decode method_4_code 2 = .ok (.ifCond .ne 23, 3) := by decide +kernel
theorem d11_5 : decode method_4_code 5 = .ok (.lload 7, 2) := by decide +kernel
theorem d11_7 : decode method_4_code 7 = .ok (.lconst 0, 1) := by decide +kernel
theorem d11_8 : decode method_4_code 8 = .ok (.lcmp, 1) := by decide +kernel
theorem d11_9 : decode method_4_code 9 = .ok (.ifCond .ne 14, 3) := by decide +kernel
theorem d11_12 : decode method_4_code 12 = .ok (.lload 9, 2) := by decide +kernel
theorem d11_14 : decode method_4_code 14 = .ok (.lconst 0, 1) := by decide +kernel
theorem d11_15 : decode method_4_code 15 = .ok (.lcmp, 1) := by decide +kernel
theorem d11_16 : decode method_4_code 16 = .ok (.ifCond .ne 7, 3) := by decide +kernel
theorem d11_19 : decode method_4_code 19 = .ok (.iconst 1, 1) := by decide +kernel
theorem d11_20 : decode method_4_code 20 = .ok (.goto 4, 3) := by decide +kernel
theorem d11_23 : decode method_4_code 23 = .ok (.iconst 0, 1) := by decide +kernel
theorem d11_24 : decode method_4_code 24 = .ok (.ireturn, 1) := by decide +kernel
theorem d11_25 : decode method_4_code 25 = .ok (.iload 6, 2) := by decide +kernel
theorem d11_27 : decode method_4_code 27 = .ok (.iconst 1, 1) := by decide +kernel
theorem d11_28 : decode method_4_code 28 = .ok (.if_icmp .eq 9, 3) := by decide +kernel
theorem d11_37 : decode method_4_code 37 = .ok (.iload 6, 2) := by decide +kernel
theorem d11_39 : decode method_4_code 39 = .ok (.iconst 1, 1) := by decide +kernel
theorem d11_40 : decode method_4_code 40 = .ok (.if_icmp .ne 7, 3) := by decide +kernel
theorem d11_43 : decode method_4_code 43 = .ok (.lload_n 2, 1) := by decide +kernel
theorem d11_44 : decode method_4_code 44 = .ok (.goto 5, 3) := by decide +kernel
theorem d11_49 : decode method_4_code 49 = .ok (.lstore 11, 2) := by decide +kernel
theorem d11_51 : decode method_4_code 51 = .ok (.lload 11, 2) := by decide +kernel
theorem d11_53 : decode method_4_code 53 = .ok (.lload_n 0, 1) := by decide +kernel
theorem d11_54 : decode method_4_code 54 = .ok (.lcmp, 1) := by decide +kernel
theorem d11_55 : decode method_4_code 55 = .ok (.ifCond .ne 23, 3) := by decide +kernel
theorem d11_58 : decode method_4_code 58 = .ok (.lload 7, 2) := by decide +kernel
theorem d11_60 : decode method_4_code 60 = .ok (.lconst 1, 1) := by decide +kernel
theorem d11_61 : decode method_4_code 61 = .ok (.lcmp, 1) := by decide +kernel
theorem d11_62 : decode method_4_code 62 = .ok (.ifCond .ne 14, 3) := by decide +kernel
theorem d11_65 : decode method_4_code 65 = .ok (.lload 9, 2) := by decide +kernel
theorem d11_67 : decode method_4_code 67 = .ok (.lconst 0, 1) := by decide +kernel
theorem d11_68 : decode method_4_code 68 = .ok (.lcmp, 1) := by decide +kernel
theorem d11_69 : decode method_4_code 69 = .ok (.ifCond .ne 7, 3) := by decide +kernel
theorem d11_72 : decode method_4_code 72 = .ok (.iconst 1, 1) := by decide +kernel
theorem d11_73 : decode method_4_code 73 = .ok (.goto 4, 3) := by decide +kernel
theorem d11_76 : decode method_4_code 76 = .ok (.iconst 0, 1) := by decide +kernel
theorem d11_77 : decode method_4_code 77 = .ok (.ireturn, 1) := by decide +kernel
theorem d11_78 : decode method_4_code 78 = .ok (.lload 7, 2) := by decide +kernel
theorem d11_80 : decode method_4_code 80 = .ok (.lconst 0, 1) := by decide +kernel
theorem d11_81 : decode method_4_code 81 = .ok (.lcmp, 1) := by decide +kernel
theorem d11_82 : decode method_4_code 82 = .ok (.ifCond .ne 15, 3) := by decide +kernel
theorem d11_85 : decode method_4_code 85 = .ok (.lload 9, 2) := by decide +kernel
theorem d11_87 : decode method_4_code 87 = .ok (.lload 11, 2) := by decide +kernel
theorem d11_89 : decode method_4_code 89 = .ok (.lcmp, 1) := by decide +kernel
theorem d11_90 : decode method_4_code 90 = .ok (.ifCond .ne 7, 3) := by decide +kernel
theorem d11_93 : decode method_4_code 93 = .ok (.iconst 1, 1) := by decide +kernel
theorem d11_94 : decode method_4_code 94 = .ok (.goto 4, 3) := by decide +kernel
theorem d11_97 : decode method_4_code 97 = .ok (.iconst 0, 1) := by decide +kernel
theorem d11_98 : decode method_4_code 98 = .ok (.ireturn, 1) := by decide +kernel
theorem d11_31 : decode method_4_code 31 = .ok (.iload 6, 2) := by decide +kernel
theorem d11_33 : decode method_4_code 33 = .ok (.iconst 3, 1) := by decide +kernel
theorem d11_34 : decode method_4_code 34 = .ok (.if_icmp .ne 65, 3) := by decide +kernel
theorem d11_47 : decode method_4_code 47 = .ok (.lload 4, 2) := by decide +kernel
theorem d11_99 : decode method_4_code 99 = .ok (.lload_n 2, 1) := by decide +kernel
theorem d11_100 : decode method_4_code 100 = .ok (.lload_n 0, 1) := by decide +kernel
theorem d11_101 : decode method_4_code 101 = .ok (.lcmp, 1) := by decide +kernel
theorem d11_102 : decode method_4_code 102 = .ok (.ifCond .ne 32, 3) := by decide +kernel
theorem d11_105 : decode method_4_code 105 = .ok (.lload 4, 2) := by decide +kernel
theorem d11_107 : decode method_4_code 107 = .ok (.lload_n 0, 1) := by decide +kernel
theorem d11_108 : decode method_4_code 108 = .ok (.lcmp, 1) := by decide +kernel
theorem d11_109 : decode method_4_code 109 = .ok (.ifCond .ne 25, 3) := by decide +kernel
theorem d11_112 : decode method_4_code 112 = .ok (.lload 7, 2) := by decide +kernel
theorem d11_114 : decode method_4_code 114 = .ok (.ldc2_w 61, 3) := by decide +kernel
theorem d11_117 : decode method_4_code 117 = .ok (.lcmp, 1) := by decide +kernel
theorem d11_118 : decode method_4_code 118 = .ok (.ifCond .ne 14, 3) := by decide +kernel
theorem d11_121 : decode method_4_code 121 = .ok (.lload 9, 2) := by decide +kernel
theorem d11_123 : decode method_4_code 123 = .ok (.lconst 0, 1) := by decide +kernel
theorem d11_124 : decode method_4_code 124 = .ok (.lcmp, 1) := by decide +kernel
theorem d11_125 : decode method_4_code 125 = .ok (.ifCond .ne 7, 3) := by decide +kernel
theorem d11_128 : decode method_4_code 128 = .ok (.iconst 1, 1) := by decide +kernel
theorem d11_129 : decode method_4_code 129 = .ok (.goto 4, 3) := by decide +kernel
theorem d11_132 : decode method_4_code 132 = .ok (.iconst 0, 1) := by decide +kernel
theorem d11_133 : decode method_4_code 133 = .ok (.ireturn, 1) := by decide +kernel
theorem d11_134 : decode method_4_code 134 = .ok (.lload_n 2, 1) := by decide +kernel
theorem d11_135 : decode method_4_code 135 = .ok (.lload_n 0, 1) := by decide +kernel
theorem d11_136 : decode method_4_code 136 = .ok (.lload 4, 2) := by decide +kernel
theorem d11_138 : decode method_4_code 138 = .ok (.lsub, 1) := by decide +kernel
theorem d11_139 : decode method_4_code 139 = .ok (.lcmp, 1) := by decide +kernel
theorem d11_140 : decode method_4_code 140 = .ok (.ifCond .lt 28, 3) := by decide +kernel
theorem d11_168 : decode method_4_code 168 = .ok (.lload 7, 2) := by decide +kernel
theorem d11_170 : decode method_4_code 170 = .ok (.lconst 0, 1) := by decide +kernel
theorem d11_171 : decode method_4_code 171 = .ok (.lcmp, 1) := by decide +kernel
theorem d11_172 : decode method_4_code 172 = .ok (.ifCond .ne 17, 3) := by decide +kernel
theorem d11_175 : decode method_4_code 175 = .ok (.lload 9, 2) := by decide +kernel
theorem d11_177 : decode method_4_code 177 = .ok (.lload_n 2, 1) := by decide +kernel
theorem d11_178 : decode method_4_code 178 = .ok (.lload 4, 2) := by decide +kernel
theorem d11_180 : decode method_4_code 180 = .ok (.ladd, 1) := by decide +kernel
theorem d11_181 : decode method_4_code 181 = .ok (.lcmp, 1) := by decide +kernel
theorem d11_182 : decode method_4_code 182 = .ok (.ifCond .ne 7, 3) := by decide +kernel
theorem d11_185 : decode method_4_code 185 = .ok (.iconst 1, 1) := by decide +kernel
theorem d11_186 : decode method_4_code 186 = .ok (.goto 4, 3) := by decide +kernel
theorem d11_189 : decode method_4_code 189 = .ok (.iconst 0, 1) := by decide +kernel
theorem d11_190 : decode method_4_code 190 = .ok (.ireturn, 1) := by decide +kernel
theorem d11_143 : decode method_4_code 143 = .ok (.lload 7, 2) := by decide +kernel
theorem d11_145 : decode method_4_code 145 = .ok (.lconst 1, 1) := by decide +kernel
theorem d11_146 : decode method_4_code 146 = .ok (.lcmp, 1) := by decide +kernel
theorem d11_147 : decode method_4_code 147 = .ok (.ifCond .ne 19, 3) := by decide +kernel
theorem d11_150 : decode method_4_code 150 = .ok (.lload 9, 2) := by decide +kernel
theorem d11_152 : decode method_4_code 152 = .ok (.lload_n 2, 1) := by decide +kernel
theorem d11_153 : decode method_4_code 153 = .ok (.lload_n 0, 1) := by decide +kernel
theorem d11_154 : decode method_4_code 154 = .ok (.lload 4, 2) := by decide +kernel
theorem d11_156 : decode method_4_code 156 = .ok (.lsub, 1) := by decide +kernel
theorem d11_157 : decode method_4_code 157 = .ok (.lsub, 1) := by decide +kernel
theorem d11_158 : decode method_4_code 158 = .ok (.lcmp, 1) := by decide +kernel
theorem d11_159 : decode method_4_code 159 = .ok (.ifCond .ne 7, 3) := by decide +kernel
theorem d11_162 : decode method_4_code 162 = .ok (.iconst 1, 1) := by decide +kernel
theorem d11_163 : decode method_4_code 163 = .ok (.goto 4, 3) := by decide +kernel
theorem d11_166 : decode method_4_code 166 = .ok (.iconst 0, 1) := by decide +kernel
theorem d11_167 : decode method_4_code 167 = .ok (.ireturn, 1) := by decide +kernel
def j11_0 (q4 : Int64) (q5 : Int64) : Int32 := (if q4 = (0 : Int64) then (if q5 = (0 : Int64) then (1 : Int32) else (0 : Int32)) else (0 : Int32))
def j11_1 (q4 : Int64) (q5 : Int64) : Int32 := (if q4 = (1 : Int64) then (if q5 = (0 : Int64) then (1 : Int32) else (0 : Int32)) else (0 : Int32))
def j11_2 (q1 : Int64) (q4 : Int64) (q5 : Int64) : Int32 := (if q4 = (0 : Int64) then (if q5 = q1 then (1 : Int32) else (0 : Int32)) else (0 : Int32))
def j11_3 (q2 : Int64) (q4 : Int64) (q5 : Int64) : Int32 := (if q4 = (0 : Int64) then (if q5 = q2 then (1 : Int32) else (0 : Int32)) else (0 : Int32))
def j11_4 (q4 : Int64) (q5 : Int64) : Int32 := (if q4 = (2 : Int64) then (if q5 = (0 : Int64) then (1 : Int32) else (0 : Int32)) else (0 : Int32))
def j11_5 (q1 : Int64) (q2 : Int64) (q4 : Int64) (q5 : Int64) : Int32 := (if q4 = (0 : Int64) then (if q5 = (q1 + q2) then (1 : Int32) else (0 : Int32)) else (0 : Int32))
def j11_6 (q0 : Int64) (q1 : Int64) (q2 : Int64) (q4 : Int64) (q5 : Int64) : Int32 := (if q4 = (1 : Int64) then (if q5 = (q1 - (q0 - q2)) then (1 : Int32) else (0 : Int32)) else (0 : Int32))
def v11 (q0 : Int64) (q1 : Int64) (q2 : Int64) (p3 : Int32) (q4 : Int64) (q5 : Int64) : Int32 := (if p3 = (0 : Int32) then (nar .boolean (j11_0 q4 q5)) else (if p3 = (1 : Int32) then (if q1 = q0 then (nar .boolean (j11_1 q4 q5)) else (nar .boolean (j11_2 q1 q4 q5))) else (if p3 = (3 : Int32) then (if q2 = q0 then (nar .boolean (j11_1 q4 q5)) else (nar .boolean (j11_3 q2 q4 q5))) else (if q1 = q0 then (if q2 = q0 then (nar .boolean (j11_4 q4 q5)) else (if q1 < (q0 - q2) then (nar .boolean (j11_5 q1 q2 q4 q5)) else (nar .boolean (j11_6 q0 q1 q2 q4 q5)))) else (if q1 < (q0 - q2) then (nar .boolean (j11_5 q1 q2 q4 q5)) else (nar .boolean (j11_6 q0 q1 q2 q4 q5)))))))
theorem pn_4 : plainName "com/example/stowline/stowline/VolumeBoundCopyTotalsPinLaw" = true := by first | (simp [plainName, overriddenIn]; done) | decide +kernel
theorem ef11 (m : MethodId) (x0 : Int64) (x1 : Int64) (x2 : Int64) (x3 : Int32) (x4 : Int64) (x5 : Int64) : entryFrame m #[(.long x0), (.long x1), (.long x2), (.int x3), (.long x4), (.long x5)] 13 = mkF m 0 #[.val (.long x0), .second, .val (.long x1), .second, .val (.long x2), .second, .val (.int x3), .val (.long x4), .second, .val (.long x5), .second, .unset, .unset] [] := by first | (simp [entryFrame, mkF, argsToLocals, Value.category]; done) | rfl
abbrev rr11 : Room := { frames := 0, cells := 0, slots := 0, locals := 0 }
def Q11 (Z : State) (q0 : Int64) (q1 : Int64) (q2 : Int64) (p3 : Int32) (q4 : Int64) (q5 : Int64) (h0 : Heap) (n0 : Nat) (v : Option Value) (h : Heap) (L : List Loc) : Prop := v = some (.int (v11 q0 q1 q2 p3 q4 q5)) ∧ Fr n0 L ∧ h = h0
set_option maxRecDepth 65536 in
set_option maxHeartbeats 40000000 in
theorem rm11 (l : Launch) (Z : State) (aw : Array Value) (hw : ∀ d ∈ tables_1, d.before aw Z = true) (ws : List Jvm.Cond) (q0 : Int64) (q1 : Int64) (q2 : Int64) (p3 : Int32) (q4 : Int64) (q5 : Int64) (h0 : Heap) (n0 : Nat) (Z0 : n0 ≤ h0.size)  :
    MetFree l (⟨"com/example/stowline/stowline/VolumeBoundCopyTotalsPinLaw", "check", "(JJJIJJ)Z"⟩ : MethodName) (head1 (Jvm.Cond.code (⟨"com/example/stowline/stowline/VolumeBoundCopyTotalsPinLaw", "check", "(JJJIJJ)Z"⟩ : MethodName) method_4_code 13 (some .boolean) :: ws) rr11) (fun a U => a = #[(.long q0), (.long q1), (.long q2), (.int p3), (.long q4), (.long q5)] ∧ Z.Warmed39 U.vm ∧ U.heap = h0) (fun _ _ _ _ _ => True) (fun _ U o U' => ∃ v L, o = .returned v ∧ Q11 Z q0 q1 q2 p3 q4 q5 h0 n0 v U'.heap L ∧ FrameEnd U o U' L rr11.cells rr11.slots) := by
  refine MetFree.of_bodySF (plainFor_of_name pn_4) hisR ?_
  intro p e s m args below meth c s₁ Bd hml0 hP hK
  obtain ⟨rfl, hZ, hh⟩ := hP
  have hx := Bd.exec
  have hby := Bd.bytes
  have hml : c.maxLocals = 13 := hml0
  have hown : s.vm.findClass "com/example/stowline/stowline/VolumeBoundCopyTotalsPinLaw" = some m.cls := findClass_of_methodNamed Bd.named
  have hnm := (name_of_methodNamed Bd.named Bd.method).1
  have X0 : Stand p l e rr11 s m #[(.long q0), (.long q1), (.long q2), (.int p3), (.long q4), (.long q5)] below meth c s₁ [] 0 0 := Stand.of_body Bd
  have e0 : s₁.heap = h0 := by rw [← hh, Bd.state]; rfl
  have N0 := Fr.nil n0
  have pre0 : ∀ t, Steps p.tables e below (s₁.setTop (mkF m 0 #[.val (.long q0), .second, .val (.long q1), .second, .val (.long q2), .second, .val (.int p3), .val (.long q4), .second, .val (.long q5), .second, .unset, .unset] [])) t → Steps p.tables e below (s₁.setTop (entryFrame m #[(.long q0), (.long q1), (.long q2), (.int p3), (.long q4), (.long q5)] 13)) t := fun t k => castTop (ef11 m q0 q1 q2 p3 q4 q5) k
  let L_1431 : Array Slot := #[.val (.long q0), .second, .val (.long q1), .second, .val (.long q2), .second, .val (.int p3), .val (.long q4), .second, .val (.long q5), .second, .unset, .unset]
  have pre1433 := fun (t : State) (k : Steps p.tables e below (s₁.setTop (mkF m 2 L_1431 [(.int p3)])) t) => pre0 t (by
    show Steps p.tables e below (s₁.setTop (mkF m 0 L_1431 [])) _
    refine XS.iload X0.here hx rfl (hb hby d11_0) rfl ?_
    exact k)
  by_cases hc1432 : p3 = (0 : Int32)
  · skip
    have pre1436 := fun (t : State) (k : Steps p.tables e below (s₁.setTop (mkF m 9 L_1431 [(.int (lcmpW q4 (0 : Int64)))])) t) => pre1433 t (by
      show Steps p.tables e below (s₁.setTop (mkF m 2 L_1431 [(.int p3)])) _
      refine XS.ifNo X0.here hx rfl (hb hby d11_2) rfl ((if0 _ _).trans (teq hc1432).2) ?_
      refine XS.lload X0.here hx rfl (hb hby d11_5) rfl ?_
      refine XS.lconst X0.here hx rfl (hb hby d11_7) ?_
      refine XS.lcmp X0.here hx rfl (hb hby d11_8) rfl ?_
      exact k)
    have pre1437 := fun (t : State) (k : Steps p.tables e below (s₁.setTop (mkF m 24 L_1431 [(.int (j11_0 q4 q5))])) t) => pre1436 t (by
      by_cases hc1438 : q4 = (0 : Int64)
      · skip
        show Steps p.tables e below (s₁.setTop (mkF m 9 L_1431 [(.int (lcmpW q4 (0 : Int64)))])) _
        refine XS.ifNo X0.here hx rfl (hb hby d11_9) rfl ((if0 _ _).trans (teq ((own_eq q4 (0 : Int64)).mpr hc1438)).2) ?_
        refine XS.lload X0.here hx rfl (hb hby d11_12) rfl ?_
        refine XS.lconst X0.here hx rfl (hb hby d11_14) ?_
        refine XS.lcmp X0.here hx rfl (hb hby d11_15) rfl ?_
        by_cases hc1439 : q5 = (0 : Int64)
        · skip
          show Steps p.tables e below (s₁.setTop (mkF m 16 L_1431 [(.int (lcmpW q5 (0 : Int64)))])) _
          refine XS.ifNo X0.here hx rfl (hb hby d11_16) rfl ((if0 _ _).trans (teq ((own_eq q5 (0 : Int64)).mpr hc1439)).2) ?_
          refine XS.iconst X0.here hx rfl (hb hby d11_19) ?_
          refine XS.goto X0.here hx rfl (pc0 := 20) (pc' := 24) rfl (hb hby d11_20) (by decide) (by decide) ?_
          have hj1440 : (j11_0 q4 q5) = (1 : Int32) := by unfold j11_0; first | (rw [if_pos hc1438, if_pos hc1439]) | (simp only [if_pos hc1438, if_pos hc1439])
          rw [hj1440] at k
          exact k
        · skip
          show Steps p.tables e below (s₁.setTop (mkF m 16 L_1431 [(.int (lcmpW q5 (0 : Int64)))])) _
          refine XS.ifYes X0.here hx rfl (pc0 := 16) (pc' := 23) rfl (hb hby d11_16) rfl ((if0 _ _).trans (feq (mt (own_eq q5 (0 : Int64)).mp hc1439)).2) (by decide) (by decide) ?_
          refine XS.iconst X0.here hx rfl (hb hby d11_23) ?_
          have hj1441 : (j11_0 q4 q5) = (0 : Int32) := by unfold j11_0; first | (rw [if_pos hc1438, if_neg hc1439]) | (simp only [if_pos hc1438, if_neg hc1439])
          rw [hj1441] at k
          exact k
      · skip
        show Steps p.tables e below (s₁.setTop (mkF m 9 L_1431 [(.int (lcmpW q4 (0 : Int64)))])) _
        refine XS.ifYes X0.here hx rfl (pc0 := 9) (pc' := 23) rfl (hb hby d11_9) rfl ((if0 _ _).trans (feq (mt (own_eq q4 (0 : Int64)).mp hc1438)).2) (by decide) (by decide) ?_
        refine XS.iconst X0.here hx rfl (hb hby d11_23) ?_
        have hj1442 : (j11_0 q4 q5) = (0 : Int32) := by unfold j11_0; first | (rw [if_neg hc1438]) | (simp only [if_neg hc1438])
        rw [hj1442] at k
        exact k)
    obtain ⟨fs, hr, hrun, hended, hW, hsame⟩ := X0.leave (v := some (.int (nar .boolean (j11_0 q4 q5)))) (fun h => by rw [Bd.returns] at h; cases h)
    refine ⟨_, _, pre1437 _ ?_, hrun, hended, _, _, rfl, ?_, ⟨_, rfl⟩, hW, hsame.mono (by decide) (by decide)⟩
    · skip
      show Steps p.tables e below (s₁.setTop (mkF m 24 L_1431 [(.int (j11_0 q4 q5))])) _
      exact retN X0 hx (t := .boolean) Bd.returns (by simp) (hb hby d11_24) hr
    · show Q11 Z q0 q1 q2 p3 q4 q5 h0 n0 _ s₁.heap _
      rw [e0]
      have hv : (nar .boolean (j11_0 q4 q5)) = (v11 q0 q1 q2 p3 q4 q5) := by unfold v11; first | (rw [if_pos hc1432]) | (simp only [if_pos hc1432])
      exact ⟨(by rw [← hv]), N0, rfl⟩
  · skip
    have pre1444 := fun (t : State) (k : Steps p.tables e below (s₁.setTop (mkF m 28 L_1431 [(.int (1 : Int32)), (.int p3)])) t) => pre1433 t (by
      show Steps p.tables e below (s₁.setTop (mkF m 2 L_1431 [(.int p3)])) _
      refine XS.ifYes X0.here hx rfl (pc0 := 2) (pc' := 25) rfl (hb hby d11_2) rfl ((if0 _ _).trans (feq hc1432).2) (by decide) (by decide) ?_
      refine XS.iload X0.here hx rfl (hb hby d11_25) rfl ?_
      refine XS.iconst X0.here hx rfl (hb hby d11_27) ?_
      exact k)
    by_cases hc1443 : p3 = (1 : Int32)
    · skip
      let L_1445 : Array Slot := #[.val (.long q0), .second, .val (.long q1), .second, .val (.long q2), .second, .val (.int p3), .val (.long q4), .second, .val (.long q5), .second, .val (.long q1), .second]
      have pre1447 := fun (t : State) (k : Steps p.tables e below (s₁.setTop (mkF m 55 L_1445 [(.int (lcmpW q1 q0))])) t) => pre1444 t (by
        show Steps p.tables e below (s₁.setTop (mkF m 28 L_1431 [(.int (1 : Int32)), (.int p3)])) _
        refine XS.icmpYes X0.here hx rfl (pc0 := 28) (pc' := 37) rfl (hb hby d11_28) rfl (teq hc1443).1 (by decide) (by decide) ?_
        refine XS.iload X0.here hx rfl (hb hby d11_37) rfl ?_
        refine XS.iconst X0.here hx rfl (hb hby d11_39) ?_
        refine XS.icmpNo X0.here hx rfl (hb hby d11_40) rfl (teq hc1443).2 ?_
        refine XS.lloadN X0.here hx rfl (hb hby d11_43) rfl ?_
        refine XS.goto X0.here hx rfl (pc0 := 44) (pc' := 49) rfl (hb hby d11_44) (by decide) (by decide) ?_
        show Steps p.tables e below (s₁.setTop (mkF m 49 L_1431 [(.long q1)])) _
        refine XS.lstore X0.here hx rfl (hb hby d11_49) rfl (l' := L_1445) rfl ?_
        refine XS.lload X0.here hx rfl (hb hby d11_51) rfl ?_
        refine XS.lloadN X0.here hx rfl (hb hby d11_53) rfl ?_
        refine XS.lcmp X0.here hx rfl (hb hby d11_54) rfl ?_
        exact k)
      by_cases hc1446 : q1 = q0
      · skip
        have pre1450 := fun (t : State) (k : Steps p.tables e below (s₁.setTop (mkF m 62 L_1445 [(.int (lcmpW q4 (1 : Int64)))])) t) => pre1447 t (by
          show Steps p.tables e below (s₁.setTop (mkF m 55 L_1445 [(.int (lcmpW q1 q0))])) _
          refine XS.ifNo X0.here hx rfl (hb hby d11_55) rfl ((if0 _ _).trans (teq ((own_eq q1 q0).mpr hc1446)).2) ?_
          refine XS.lload X0.here hx rfl (hb hby d11_58) rfl ?_
          refine XS.lconst X0.here hx rfl (hb hby d11_60) ?_
          refine XS.lcmp X0.here hx rfl (hb hby d11_61) rfl ?_
          exact k)
        have pre1451 := fun (t : State) (k : Steps p.tables e below (s₁.setTop (mkF m 77 L_1445 [(.int (j11_1 q4 q5))])) t) => pre1450 t (by
          by_cases hc1452 : q4 = (1 : Int64)
          · skip
            show Steps p.tables e below (s₁.setTop (mkF m 62 L_1445 [(.int (lcmpW q4 (1 : Int64)))])) _
            refine XS.ifNo X0.here hx rfl (hb hby d11_62) rfl ((if0 _ _).trans (teq ((own_eq q4 (1 : Int64)).mpr hc1452)).2) ?_
            refine XS.lload X0.here hx rfl (hb hby d11_65) rfl ?_
            refine XS.lconst X0.here hx rfl (hb hby d11_67) ?_
            refine XS.lcmp X0.here hx rfl (hb hby d11_68) rfl ?_
            by_cases hc1453 : q5 = (0 : Int64)
            · skip
              show Steps p.tables e below (s₁.setTop (mkF m 69 L_1445 [(.int (lcmpW q5 (0 : Int64)))])) _
              refine XS.ifNo X0.here hx rfl (hb hby d11_69) rfl ((if0 _ _).trans (teq ((own_eq q5 (0 : Int64)).mpr hc1453)).2) ?_
              refine XS.iconst X0.here hx rfl (hb hby d11_72) ?_
              refine XS.goto X0.here hx rfl (pc0 := 73) (pc' := 77) rfl (hb hby d11_73) (by decide) (by decide) ?_
              have hj1454 : (j11_1 q4 q5) = (1 : Int32) := by unfold j11_1; first | (rw [if_pos hc1452, if_pos hc1453]) | (simp only [if_pos hc1452, if_pos hc1453])
              rw [hj1454] at k
              exact k
            · skip
              show Steps p.tables e below (s₁.setTop (mkF m 69 L_1445 [(.int (lcmpW q5 (0 : Int64)))])) _
              refine XS.ifYes X0.here hx rfl (pc0 := 69) (pc' := 76) rfl (hb hby d11_69) rfl ((if0 _ _).trans (feq (mt (own_eq q5 (0 : Int64)).mp hc1453)).2) (by decide) (by decide) ?_
              refine XS.iconst X0.here hx rfl (hb hby d11_76) ?_
              have hj1455 : (j11_1 q4 q5) = (0 : Int32) := by unfold j11_1; first | (rw [if_pos hc1452, if_neg hc1453]) | (simp only [if_pos hc1452, if_neg hc1453])
              rw [hj1455] at k
              exact k
          · skip
            show Steps p.tables e below (s₁.setTop (mkF m 62 L_1445 [(.int (lcmpW q4 (1 : Int64)))])) _
            refine XS.ifYes X0.here hx rfl (pc0 := 62) (pc' := 76) rfl (hb hby d11_62) rfl ((if0 _ _).trans (feq (mt (own_eq q4 (1 : Int64)).mp hc1452)).2) (by decide) (by decide) ?_
            refine XS.iconst X0.here hx rfl (hb hby d11_76) ?_
            have hj1456 : (j11_1 q4 q5) = (0 : Int32) := by unfold j11_1; first | (rw [if_neg hc1452]) | (simp only [if_neg hc1452])
            rw [hj1456] at k
            exact k)
        obtain ⟨fs, hr, hrun, hended, hW, hsame⟩ := X0.leave (v := some (.int (nar .boolean (j11_1 q4 q5)))) (fun h => by rw [Bd.returns] at h; cases h)
        refine ⟨_, _, pre1451 _ ?_, hrun, hended, _, _, rfl, ?_, ⟨_, rfl⟩, hW, hsame.mono (by decide) (by decide)⟩
        · skip
          show Steps p.tables e below (s₁.setTop (mkF m 77 L_1445 [(.int (j11_1 q4 q5))])) _
          exact retN X0 hx (t := .boolean) Bd.returns (by simp) (hb hby d11_77) hr
        · show Q11 Z q0 q1 q2 p3 q4 q5 h0 n0 _ s₁.heap _
          rw [e0]
          have hv : (nar .boolean (j11_1 q4 q5)) = (v11 q0 q1 q2 p3 q4 q5) := by unfold v11; first | (rw [if_neg hc1432, if_pos hc1443, if_pos hc1446]) | (simp only [if_neg hc1432, if_pos hc1443, if_pos hc1446])
          exact ⟨(by rw [← hv]), N0, rfl⟩
      · skip
        have pre1459 := fun (t : State) (k : Steps p.tables e below (s₁.setTop (mkF m 82 L_1445 [(.int (lcmpW q4 (0 : Int64)))])) t) => pre1447 t (by
          show Steps p.tables e below (s₁.setTop (mkF m 55 L_1445 [(.int (lcmpW q1 q0))])) _
          refine XS.ifYes X0.here hx rfl (pc0 := 55) (pc' := 78) rfl (hb hby d11_55) rfl ((if0 _ _).trans (feq (mt (own_eq q1 q0).mp hc1446)).2) (by decide) (by decide) ?_
          refine XS.lload X0.here hx rfl (hb hby d11_78) rfl ?_
          refine XS.lconst X0.here hx rfl (hb hby d11_80) ?_
          refine XS.lcmp X0.here hx rfl (hb hby d11_81) rfl ?_
          exact k)
        have pre1460 := fun (t : State) (k : Steps p.tables e below (s₁.setTop (mkF m 98 L_1445 [(.int (j11_2 q1 q4 q5))])) t) => pre1459 t (by
          by_cases hc1461 : q4 = (0 : Int64)
          · skip
            show Steps p.tables e below (s₁.setTop (mkF m 82 L_1445 [(.int (lcmpW q4 (0 : Int64)))])) _
            refine XS.ifNo X0.here hx rfl (hb hby d11_82) rfl ((if0 _ _).trans (teq ((own_eq q4 (0 : Int64)).mpr hc1461)).2) ?_
            refine XS.lload X0.here hx rfl (hb hby d11_85) rfl ?_
            refine XS.lload X0.here hx rfl (hb hby d11_87) rfl ?_
            refine XS.lcmp X0.here hx rfl (hb hby d11_89) rfl ?_
            by_cases hc1462 : q5 = q1
            · skip
              show Steps p.tables e below (s₁.setTop (mkF m 90 L_1445 [(.int (lcmpW q5 q1))])) _
              refine XS.ifNo X0.here hx rfl (hb hby d11_90) rfl ((if0 _ _).trans (teq ((own_eq q5 q1).mpr hc1462)).2) ?_
              refine XS.iconst X0.here hx rfl (hb hby d11_93) ?_
              refine XS.goto X0.here hx rfl (pc0 := 94) (pc' := 98) rfl (hb hby d11_94) (by decide) (by decide) ?_
              have hj1463 : (j11_2 q1 q4 q5) = (1 : Int32) := by unfold j11_2; first | (rw [if_pos hc1461, if_pos hc1462]) | (simp only [if_pos hc1461, if_pos hc1462])
              rw [hj1463] at k
              exact k
            · skip
              show Steps p.tables e below (s₁.setTop (mkF m 90 L_1445 [(.int (lcmpW q5 q1))])) _
              refine XS.ifYes X0.here hx rfl (pc0 := 90) (pc' := 97) rfl (hb hby d11_90) rfl ((if0 _ _).trans (feq (mt (own_eq q5 q1).mp hc1462)).2) (by decide) (by decide) ?_
              refine XS.iconst X0.here hx rfl (hb hby d11_97) ?_
              have hj1464 : (j11_2 q1 q4 q5) = (0 : Int32) := by unfold j11_2; first | (rw [if_pos hc1461, if_neg hc1462]) | (simp only [if_pos hc1461, if_neg hc1462])
              rw [hj1464] at k
              exact k
          · skip
            show Steps p.tables e below (s₁.setTop (mkF m 82 L_1445 [(.int (lcmpW q4 (0 : Int64)))])) _
            refine XS.ifYes X0.here hx rfl (pc0 := 82) (pc' := 97) rfl (hb hby d11_82) rfl ((if0 _ _).trans (feq (mt (own_eq q4 (0 : Int64)).mp hc1461)).2) (by decide) (by decide) ?_
            refine XS.iconst X0.here hx rfl (hb hby d11_97) ?_
            have hj1465 : (j11_2 q1 q4 q5) = (0 : Int32) := by unfold j11_2; first | (rw [if_neg hc1461]) | (simp only [if_neg hc1461])
            rw [hj1465] at k
            exact k)
        obtain ⟨fs, hr, hrun, hended, hW, hsame⟩ := X0.leave (v := some (.int (nar .boolean (j11_2 q1 q4 q5)))) (fun h => by rw [Bd.returns] at h; cases h)
        refine ⟨_, _, pre1460 _ ?_, hrun, hended, _, _, rfl, ?_, ⟨_, rfl⟩, hW, hsame.mono (by decide) (by decide)⟩
        · skip
          show Steps p.tables e below (s₁.setTop (mkF m 98 L_1445 [(.int (j11_2 q1 q4 q5))])) _
          exact retN X0 hx (t := .boolean) Bd.returns (by simp) (hb hby d11_98) hr
        · show Q11 Z q0 q1 q2 p3 q4 q5 h0 n0 _ s₁.heap _
          rw [e0]
          have hv : (nar .boolean (j11_2 q1 q4 q5)) = (v11 q0 q1 q2 p3 q4 q5) := by unfold v11; first | (rw [if_neg hc1432, if_pos hc1443, if_neg hc1446]) | (simp only [if_neg hc1432, if_pos hc1443, if_neg hc1446])
          exact ⟨(by rw [← hv]), N0, rfl⟩
    · skip
      have pre1467 := fun (t : State) (k : Steps p.tables e below (s₁.setTop (mkF m 34 L_1431 [(.int (3 : Int32)), (.int p3)])) t) => pre1444 t (by
        show Steps p.tables e below (s₁.setTop (mkF m 28 L_1431 [(.int (1 : Int32)), (.int p3)])) _
        refine XS.icmpNo X0.here hx rfl (hb hby d11_28) rfl (feq hc1443).1 ?_
        refine XS.iload X0.here hx rfl (hb hby d11_31) rfl ?_
        refine XS.iconst X0.here hx rfl (hb hby d11_33) ?_
        exact k)
      by_cases hc1466 : p3 = (3 : Int32)
      · skip
        let L_1468 : Array Slot := #[.val (.long q0), .second, .val (.long q1), .second, .val (.long q2), .second, .val (.int p3), .val (.long q4), .second, .val (.long q5), .second, .val (.long q2), .second]
        have pre1470 := fun (t : State) (k : Steps p.tables e below (s₁.setTop (mkF m 55 L_1468 [(.int (lcmpW q2 q0))])) t) => pre1467 t (by
          show Steps p.tables e below (s₁.setTop (mkF m 34 L_1431 [(.int (3 : Int32)), (.int p3)])) _
          refine XS.icmpNo X0.here hx rfl (hb hby d11_34) rfl (teq hc1466).2 ?_
          refine XS.iload X0.here hx rfl (hb hby d11_37) rfl ?_
          refine XS.iconst X0.here hx rfl (hb hby d11_39) ?_
          refine XS.icmpYes X0.here hx rfl (pc0 := 40) (pc' := 47) rfl (hb hby d11_40) rfl (feq hc1443).2 (by decide) (by decide) ?_
          refine XS.lload X0.here hx rfl (hb hby d11_47) rfl ?_
          refine XS.lstore X0.here hx rfl (hb hby d11_49) rfl (l' := L_1468) rfl ?_
          show Steps p.tables e below (s₁.setTop (mkF m 51 L_1468 [])) _
          refine XS.lload X0.here hx rfl (hb hby d11_51) rfl ?_
          refine XS.lloadN X0.here hx rfl (hb hby d11_53) rfl ?_
          refine XS.lcmp X0.here hx rfl (hb hby d11_54) rfl ?_
          exact k)
        by_cases hc1469 : q2 = q0
        · skip
          have pre1473 := fun (t : State) (k : Steps p.tables e below (s₁.setTop (mkF m 62 L_1468 [(.int (lcmpW q4 (1 : Int64)))])) t) => pre1470 t (by
            show Steps p.tables e below (s₁.setTop (mkF m 55 L_1468 [(.int (lcmpW q2 q0))])) _
            refine XS.ifNo X0.here hx rfl (hb hby d11_55) rfl ((if0 _ _).trans (teq ((own_eq q2 q0).mpr hc1469)).2) ?_
            refine XS.lload X0.here hx rfl (hb hby d11_58) rfl ?_
            refine XS.lconst X0.here hx rfl (hb hby d11_60) ?_
            refine XS.lcmp X0.here hx rfl (hb hby d11_61) rfl ?_
            exact k)
          have pre1474 := fun (t : State) (k : Steps p.tables e below (s₁.setTop (mkF m 77 L_1468 [(.int (j11_1 q4 q5))])) t) => pre1473 t (by
            by_cases hc1475 : q4 = (1 : Int64)
            · skip
              show Steps p.tables e below (s₁.setTop (mkF m 62 L_1468 [(.int (lcmpW q4 (1 : Int64)))])) _
              refine XS.ifNo X0.here hx rfl (hb hby d11_62) rfl ((if0 _ _).trans (teq ((own_eq q4 (1 : Int64)).mpr hc1475)).2) ?_
              refine XS.lload X0.here hx rfl (hb hby d11_65) rfl ?_
              refine XS.lconst X0.here hx rfl (hb hby d11_67) ?_
              refine XS.lcmp X0.here hx rfl (hb hby d11_68) rfl ?_
              by_cases hc1476 : q5 = (0 : Int64)
              · skip
                show Steps p.tables e below (s₁.setTop (mkF m 69 L_1468 [(.int (lcmpW q5 (0 : Int64)))])) _
                refine XS.ifNo X0.here hx rfl (hb hby d11_69) rfl ((if0 _ _).trans (teq ((own_eq q5 (0 : Int64)).mpr hc1476)).2) ?_
                refine XS.iconst X0.here hx rfl (hb hby d11_72) ?_
                refine XS.goto X0.here hx rfl (pc0 := 73) (pc' := 77) rfl (hb hby d11_73) (by decide) (by decide) ?_
                have hj1477 : (j11_1 q4 q5) = (1 : Int32) := by unfold j11_1; first | (rw [if_pos hc1475, if_pos hc1476]) | (simp only [if_pos hc1475, if_pos hc1476])
                rw [hj1477] at k
                exact k
              · skip
                show Steps p.tables e below (s₁.setTop (mkF m 69 L_1468 [(.int (lcmpW q5 (0 : Int64)))])) _
                refine XS.ifYes X0.here hx rfl (pc0 := 69) (pc' := 76) rfl (hb hby d11_69) rfl ((if0 _ _).trans (feq (mt (own_eq q5 (0 : Int64)).mp hc1476)).2) (by decide) (by decide) ?_
                refine XS.iconst X0.here hx rfl (hb hby d11_76) ?_
                have hj1478 : (j11_1 q4 q5) = (0 : Int32) := by unfold j11_1; first | (rw [if_pos hc1475, if_neg hc1476]) | (simp only [if_pos hc1475, if_neg hc1476])
                rw [hj1478] at k
                exact k
            · skip
              show Steps p.tables e below (s₁.setTop (mkF m 62 L_1468 [(.int (lcmpW q4 (1 : Int64)))])) _
              refine XS.ifYes X0.here hx rfl (pc0 := 62) (pc' := 76) rfl (hb hby d11_62) rfl ((if0 _ _).trans (feq (mt (own_eq q4 (1 : Int64)).mp hc1475)).2) (by decide) (by decide) ?_
              refine XS.iconst X0.here hx rfl (hb hby d11_76) ?_
              have hj1479 : (j11_1 q4 q5) = (0 : Int32) := by unfold j11_1; first | (rw [if_neg hc1475]) | (simp only [if_neg hc1475])
              rw [hj1479] at k
              exact k)
          obtain ⟨fs, hr, hrun, hended, hW, hsame⟩ := X0.leave (v := some (.int (nar .boolean (j11_1 q4 q5)))) (fun h => by rw [Bd.returns] at h; cases h)
          refine ⟨_, _, pre1474 _ ?_, hrun, hended, _, _, rfl, ?_, ⟨_, rfl⟩, hW, hsame.mono (by decide) (by decide)⟩
          · skip
            show Steps p.tables e below (s₁.setTop (mkF m 77 L_1468 [(.int (j11_1 q4 q5))])) _
            exact retN X0 hx (t := .boolean) Bd.returns (by simp) (hb hby d11_77) hr
          · show Q11 Z q0 q1 q2 p3 q4 q5 h0 n0 _ s₁.heap _
            rw [e0]
            have hv : (nar .boolean (j11_1 q4 q5)) = (v11 q0 q1 q2 p3 q4 q5) := by unfold v11; first | (rw [if_neg hc1432, if_neg hc1443, if_pos hc1466, if_pos hc1469]) | (simp only [if_neg hc1432, if_neg hc1443, if_pos hc1466, if_pos hc1469])
            exact ⟨(by rw [← hv]), N0, rfl⟩
        · skip
          have pre1482 := fun (t : State) (k : Steps p.tables e below (s₁.setTop (mkF m 82 L_1468 [(.int (lcmpW q4 (0 : Int64)))])) t) => pre1470 t (by
            show Steps p.tables e below (s₁.setTop (mkF m 55 L_1468 [(.int (lcmpW q2 q0))])) _
            refine XS.ifYes X0.here hx rfl (pc0 := 55) (pc' := 78) rfl (hb hby d11_55) rfl ((if0 _ _).trans (feq (mt (own_eq q2 q0).mp hc1469)).2) (by decide) (by decide) ?_
            refine XS.lload X0.here hx rfl (hb hby d11_78) rfl ?_
            refine XS.lconst X0.here hx rfl (hb hby d11_80) ?_
            refine XS.lcmp X0.here hx rfl (hb hby d11_81) rfl ?_
            exact k)
          have pre1483 := fun (t : State) (k : Steps p.tables e below (s₁.setTop (mkF m 98 L_1468 [(.int (j11_3 q2 q4 q5))])) t) => pre1482 t (by
            by_cases hc1484 : q4 = (0 : Int64)
            · skip
              show Steps p.tables e below (s₁.setTop (mkF m 82 L_1468 [(.int (lcmpW q4 (0 : Int64)))])) _
              refine XS.ifNo X0.here hx rfl (hb hby d11_82) rfl ((if0 _ _).trans (teq ((own_eq q4 (0 : Int64)).mpr hc1484)).2) ?_
              refine XS.lload X0.here hx rfl (hb hby d11_85) rfl ?_
              refine XS.lload X0.here hx rfl (hb hby d11_87) rfl ?_
              refine XS.lcmp X0.here hx rfl (hb hby d11_89) rfl ?_
              by_cases hc1485 : q5 = q2
              · skip
                show Steps p.tables e below (s₁.setTop (mkF m 90 L_1468 [(.int (lcmpW q5 q2))])) _
                refine XS.ifNo X0.here hx rfl (hb hby d11_90) rfl ((if0 _ _).trans (teq ((own_eq q5 q2).mpr hc1485)).2) ?_
                refine XS.iconst X0.here hx rfl (hb hby d11_93) ?_
                refine XS.goto X0.here hx rfl (pc0 := 94) (pc' := 98) rfl (hb hby d11_94) (by decide) (by decide) ?_
                have hj1486 : (j11_3 q2 q4 q5) = (1 : Int32) := by unfold j11_3; first | (rw [if_pos hc1484, if_pos hc1485]) | (simp only [if_pos hc1484, if_pos hc1485])
                rw [hj1486] at k
                exact k
              · skip
                show Steps p.tables e below (s₁.setTop (mkF m 90 L_1468 [(.int (lcmpW q5 q2))])) _
                refine XS.ifYes X0.here hx rfl (pc0 := 90) (pc' := 97) rfl (hb hby d11_90) rfl ((if0 _ _).trans (feq (mt (own_eq q5 q2).mp hc1485)).2) (by decide) (by decide) ?_
                refine XS.iconst X0.here hx rfl (hb hby d11_97) ?_
                have hj1487 : (j11_3 q2 q4 q5) = (0 : Int32) := by unfold j11_3; first | (rw [if_pos hc1484, if_neg hc1485]) | (simp only [if_pos hc1484, if_neg hc1485])
                rw [hj1487] at k
                exact k
            · skip
              show Steps p.tables e below (s₁.setTop (mkF m 82 L_1468 [(.int (lcmpW q4 (0 : Int64)))])) _
              refine XS.ifYes X0.here hx rfl (pc0 := 82) (pc' := 97) rfl (hb hby d11_82) rfl ((if0 _ _).trans (feq (mt (own_eq q4 (0 : Int64)).mp hc1484)).2) (by decide) (by decide) ?_
              refine XS.iconst X0.here hx rfl (hb hby d11_97) ?_
              have hj1488 : (j11_3 q2 q4 q5) = (0 : Int32) := by unfold j11_3; first | (rw [if_neg hc1484]) | (simp only [if_neg hc1484])
              rw [hj1488] at k
              exact k)
          obtain ⟨fs, hr, hrun, hended, hW, hsame⟩ := X0.leave (v := some (.int (nar .boolean (j11_3 q2 q4 q5)))) (fun h => by rw [Bd.returns] at h; cases h)
          refine ⟨_, _, pre1483 _ ?_, hrun, hended, _, _, rfl, ?_, ⟨_, rfl⟩, hW, hsame.mono (by decide) (by decide)⟩
          · skip
            show Steps p.tables e below (s₁.setTop (mkF m 98 L_1468 [(.int (j11_3 q2 q4 q5))])) _
            exact retN X0 hx (t := .boolean) Bd.returns (by simp) (hb hby d11_98) hr
          · show Q11 Z q0 q1 q2 p3 q4 q5 h0 n0 _ s₁.heap _
            rw [e0]
            have hv : (nar .boolean (j11_3 q2 q4 q5)) = (v11 q0 q1 q2 p3 q4 q5) := by unfold v11; first | (rw [if_neg hc1432, if_neg hc1443, if_pos hc1466, if_neg hc1469]) | (simp only [if_neg hc1432, if_neg hc1443, if_pos hc1466, if_neg hc1469])
            exact ⟨(by rw [← hv]), N0, rfl⟩
      · skip
        have pre1490 := fun (t : State) (k : Steps p.tables e below (s₁.setTop (mkF m 102 L_1431 [(.int (lcmpW q1 q0))])) t) => pre1467 t (by
          show Steps p.tables e below (s₁.setTop (mkF m 34 L_1431 [(.int (3 : Int32)), (.int p3)])) _
          refine XS.icmpYes X0.here hx rfl (pc0 := 34) (pc' := 99) rfl (hb hby d11_34) rfl (feq hc1466).2 (by decide) (by decide) ?_
          refine XS.lloadN X0.here hx rfl (hb hby d11_99) rfl ?_
          refine XS.lloadN X0.here hx rfl (hb hby d11_100) rfl ?_
          refine XS.lcmp X0.here hx rfl (hb hby d11_101) rfl ?_
          exact k)
        by_cases hc1489 : q1 = q0
        · skip
          have pre1492 := fun (t : State) (k : Steps p.tables e below (s₁.setTop (mkF m 109 L_1431 [(.int (lcmpW q2 q0))])) t) => pre1490 t (by
            show Steps p.tables e below (s₁.setTop (mkF m 102 L_1431 [(.int (lcmpW q1 q0))])) _
            refine XS.ifNo X0.here hx rfl (hb hby d11_102) rfl ((if0 _ _).trans (teq ((own_eq q1 q0).mpr hc1489)).2) ?_
            refine XS.lload X0.here hx rfl (hb hby d11_105) rfl ?_
            refine XS.lloadN X0.here hx rfl (hb hby d11_107) rfl ?_
            refine XS.lcmp X0.here hx rfl (hb hby d11_108) rfl ?_
            exact k)
          by_cases hc1491 : q2 = q0
          · skip
            have pre1495 := fun (t : State) (k : Steps p.tables e below (s₁.setTop (mkF m 118 L_1431 [(.int (lcmpW q4 (2 : Int64)))])) t) => pre1492 t (by
              show Steps p.tables e below (s₁.setTop (mkF m 109 L_1431 [(.int (lcmpW q2 q0))])) _
              refine XS.ifNo X0.here hx rfl (hb hby d11_109) rfl ((if0 _ _).trans (teq ((own_eq q2 q0).mpr hc1491)).2) ?_
              refine XS.lload X0.here hx rfl (hb hby d11_112) rfl ?_
              show Steps p.tables e below (s₁.setTop (mkF m 114 L_1431 [(.long q4)])) _
              refine X0.ldc2Long hx hown (mvT hZ (own_m hw 92 rfl)) (g := (mkF m 114 L_1431 [(.long q4)])) rfl (hb hby d11_114) _ ?_
              refine XS.lcmp X0.here hx rfl (hb hby d11_117) rfl ?_
              exact k)
            have pre1496 := fun (t : State) (k : Steps p.tables e below (s₁.setTop (mkF m 133 L_1431 [(.int (j11_4 q4 q5))])) t) => pre1495 t (by
              by_cases hc1497 : q4 = (2 : Int64)
              · skip
                show Steps p.tables e below (s₁.setTop (mkF m 118 L_1431 [(.int (lcmpW q4 (2 : Int64)))])) _
                refine XS.ifNo X0.here hx rfl (hb hby d11_118) rfl ((if0 _ _).trans (teq ((own_eq q4 (2 : Int64)).mpr hc1497)).2) ?_
                refine XS.lload X0.here hx rfl (hb hby d11_121) rfl ?_
                refine XS.lconst X0.here hx rfl (hb hby d11_123) ?_
                refine XS.lcmp X0.here hx rfl (hb hby d11_124) rfl ?_
                by_cases hc1498 : q5 = (0 : Int64)
                · skip
                  show Steps p.tables e below (s₁.setTop (mkF m 125 L_1431 [(.int (lcmpW q5 (0 : Int64)))])) _
                  refine XS.ifNo X0.here hx rfl (hb hby d11_125) rfl ((if0 _ _).trans (teq ((own_eq q5 (0 : Int64)).mpr hc1498)).2) ?_
                  refine XS.iconst X0.here hx rfl (hb hby d11_128) ?_
                  refine XS.goto X0.here hx rfl (pc0 := 129) (pc' := 133) rfl (hb hby d11_129) (by decide) (by decide) ?_
                  have hj1499 : (j11_4 q4 q5) = (1 : Int32) := by unfold j11_4; first | (rw [if_pos hc1497, if_pos hc1498]) | (simp only [if_pos hc1497, if_pos hc1498])
                  rw [hj1499] at k
                  exact k
                · skip
                  show Steps p.tables e below (s₁.setTop (mkF m 125 L_1431 [(.int (lcmpW q5 (0 : Int64)))])) _
                  refine XS.ifYes X0.here hx rfl (pc0 := 125) (pc' := 132) rfl (hb hby d11_125) rfl ((if0 _ _).trans (feq (mt (own_eq q5 (0 : Int64)).mp hc1498)).2) (by decide) (by decide) ?_
                  refine XS.iconst X0.here hx rfl (hb hby d11_132) ?_
                  have hj1500 : (j11_4 q4 q5) = (0 : Int32) := by unfold j11_4; first | (rw [if_pos hc1497, if_neg hc1498]) | (simp only [if_pos hc1497, if_neg hc1498])
                  rw [hj1500] at k
                  exact k
              · skip
                show Steps p.tables e below (s₁.setTop (mkF m 118 L_1431 [(.int (lcmpW q4 (2 : Int64)))])) _
                refine XS.ifYes X0.here hx rfl (pc0 := 118) (pc' := 132) rfl (hb hby d11_118) rfl ((if0 _ _).trans (feq (mt (own_eq q4 (2 : Int64)).mp hc1497)).2) (by decide) (by decide) ?_
                refine XS.iconst X0.here hx rfl (hb hby d11_132) ?_
                have hj1501 : (j11_4 q4 q5) = (0 : Int32) := by unfold j11_4; first | (rw [if_neg hc1497]) | (simp only [if_neg hc1497])
                rw [hj1501] at k
                exact k)
            obtain ⟨fs, hr, hrun, hended, hW, hsame⟩ := X0.leave (v := some (.int (nar .boolean (j11_4 q4 q5)))) (fun h => by rw [Bd.returns] at h; cases h)
            refine ⟨_, _, pre1496 _ ?_, hrun, hended, _, _, rfl, ?_, ⟨_, rfl⟩, hW, hsame.mono (by decide) (by decide)⟩
            · skip
              show Steps p.tables e below (s₁.setTop (mkF m 133 L_1431 [(.int (j11_4 q4 q5))])) _
              exact retN X0 hx (t := .boolean) Bd.returns (by simp) (hb hby d11_133) hr
            · show Q11 Z q0 q1 q2 p3 q4 q5 h0 n0 _ s₁.heap _
              rw [e0]
              have hv : (nar .boolean (j11_4 q4 q5)) = (v11 q0 q1 q2 p3 q4 q5) := by unfold v11; first | (rw [if_neg hc1432, if_neg hc1443, if_neg hc1466, if_pos hc1489, if_pos hc1491]) | (simp only [if_neg hc1432, if_neg hc1443, if_neg hc1466, if_pos hc1489, if_pos hc1491])
              exact ⟨(by rw [← hv]), N0, rfl⟩
          · skip
            have pre1503 := fun (t : State) (k : Steps p.tables e below (s₁.setTop (mkF m 140 L_1431 [(.int (lcmpW q1 (q0 - q2)))])) t) => pre1492 t (by
              show Steps p.tables e below (s₁.setTop (mkF m 109 L_1431 [(.int (lcmpW q2 q0))])) _
              refine XS.ifYes X0.here hx rfl (pc0 := 109) (pc' := 134) rfl (hb hby d11_109) rfl ((if0 _ _).trans (feq (mt (own_eq q2 q0).mp hc1491)).2) (by decide) (by decide) ?_
              refine XS.lloadN X0.here hx rfl (hb hby d11_134) rfl ?_
              refine XS.lloadN X0.here hx rfl (hb hby d11_135) rfl ?_
              refine XS.lload X0.here hx rfl (hb hby d11_136) rfl ?_
              refine XS.lsub X0.here hx rfl (hb hby d11_138) rfl ?_
              refine XS.lcmp X0.here hx rfl (hb hby d11_139) rfl ?_
              exact k)
            by_cases hc1502 : q1 < (q0 - q2)
            · skip
              have pre1506 := fun (t : State) (k : Steps p.tables e below (s₁.setTop (mkF m 172 L_1431 [(.int (lcmpW q4 (0 : Int64)))])) t) => pre1503 t (by
                show Steps p.tables e below (s₁.setTop (mkF m 140 L_1431 [(.int (lcmpW q1 (q0 - q2)))])) _
                refine XS.ifYes X0.here hx rfl (pc0 := 140) (pc' := 168) rfl (hb hby d11_140) rfl ((if0 _ _).trans (tlt ((own_lt q1 (q0 - q2)).mpr hc1502)).1) (by decide) (by decide) ?_
                refine XS.lload X0.here hx rfl (hb hby d11_168) rfl ?_
                refine XS.lconst X0.here hx rfl (hb hby d11_170) ?_
                refine XS.lcmp X0.here hx rfl (hb hby d11_171) rfl ?_
                exact k)
              have pre1507 := fun (t : State) (k : Steps p.tables e below (s₁.setTop (mkF m 190 L_1431 [(.int (j11_5 q1 q2 q4 q5))])) t) => pre1506 t (by
                by_cases hc1508 : q4 = (0 : Int64)
                · skip
                  show Steps p.tables e below (s₁.setTop (mkF m 172 L_1431 [(.int (lcmpW q4 (0 : Int64)))])) _
                  refine XS.ifNo X0.here hx rfl (hb hby d11_172) rfl ((if0 _ _).trans (teq ((own_eq q4 (0 : Int64)).mpr hc1508)).2) ?_
                  refine XS.lload X0.here hx rfl (hb hby d11_175) rfl ?_
                  refine XS.lloadN X0.here hx rfl (hb hby d11_177) rfl ?_
                  refine XS.lload X0.here hx rfl (hb hby d11_178) rfl ?_
                  refine XS.ladd X0.here hx rfl (hb hby d11_180) rfl ?_
                  refine XS.lcmp X0.here hx rfl (hb hby d11_181) rfl ?_
                  by_cases hc1509 : q5 = (q1 + q2)
                  · skip
                    show Steps p.tables e below (s₁.setTop (mkF m 182 L_1431 [(.int (lcmpW q5 (q1 + q2)))])) _
                    refine XS.ifNo X0.here hx rfl (hb hby d11_182) rfl ((if0 _ _).trans (teq ((own_eq q5 (q1 + q2)).mpr hc1509)).2) ?_
                    refine XS.iconst X0.here hx rfl (hb hby d11_185) ?_
                    refine XS.goto X0.here hx rfl (pc0 := 186) (pc' := 190) rfl (hb hby d11_186) (by decide) (by decide) ?_
                    have hj1510 : (j11_5 q1 q2 q4 q5) = (1 : Int32) := by unfold j11_5; first | (rw [if_pos hc1508, if_pos hc1509]) | (simp only [if_pos hc1508, if_pos hc1509])
                    rw [hj1510] at k
                    exact k
                  · skip
                    show Steps p.tables e below (s₁.setTop (mkF m 182 L_1431 [(.int (lcmpW q5 (q1 + q2)))])) _
                    refine XS.ifYes X0.here hx rfl (pc0 := 182) (pc' := 189) rfl (hb hby d11_182) rfl ((if0 _ _).trans (feq (mt (own_eq q5 (q1 + q2)).mp hc1509)).2) (by decide) (by decide) ?_
                    refine XS.iconst X0.here hx rfl (hb hby d11_189) ?_
                    have hj1511 : (j11_5 q1 q2 q4 q5) = (0 : Int32) := by unfold j11_5; first | (rw [if_pos hc1508, if_neg hc1509]) | (simp only [if_pos hc1508, if_neg hc1509])
                    rw [hj1511] at k
                    exact k
                · skip
                  show Steps p.tables e below (s₁.setTop (mkF m 172 L_1431 [(.int (lcmpW q4 (0 : Int64)))])) _
                  refine XS.ifYes X0.here hx rfl (pc0 := 172) (pc' := 189) rfl (hb hby d11_172) rfl ((if0 _ _).trans (feq (mt (own_eq q4 (0 : Int64)).mp hc1508)).2) (by decide) (by decide) ?_
                  refine XS.iconst X0.here hx rfl (hb hby d11_189) ?_
                  have hj1512 : (j11_5 q1 q2 q4 q5) = (0 : Int32) := by unfold j11_5; first | (rw [if_neg hc1508]) | (simp only [if_neg hc1508])
                  rw [hj1512] at k
                  exact k)
              obtain ⟨fs, hr, hrun, hended, hW, hsame⟩ := X0.leave (v := some (.int (nar .boolean (j11_5 q1 q2 q4 q5)))) (fun h => by rw [Bd.returns] at h; cases h)
              refine ⟨_, _, pre1507 _ ?_, hrun, hended, _, _, rfl, ?_, ⟨_, rfl⟩, hW, hsame.mono (by decide) (by decide)⟩
              · skip
                show Steps p.tables e below (s₁.setTop (mkF m 190 L_1431 [(.int (j11_5 q1 q2 q4 q5))])) _
                exact retN X0 hx (t := .boolean) Bd.returns (by simp) (hb hby d11_190) hr
              · show Q11 Z q0 q1 q2 p3 q4 q5 h0 n0 _ s₁.heap _
                rw [e0]
                have hv : (nar .boolean (j11_5 q1 q2 q4 q5)) = (v11 q0 q1 q2 p3 q4 q5) := by unfold v11; first | (rw [if_neg hc1432, if_neg hc1443, if_neg hc1466, if_pos hc1489, if_neg hc1491, if_pos hc1502]) | (simp only [if_neg hc1432, if_neg hc1443, if_neg hc1466, if_pos hc1489, if_neg hc1491, if_pos hc1502])
                exact ⟨(by rw [← hv]), N0, rfl⟩
            · skip
              have pre1515 := fun (t : State) (k : Steps p.tables e below (s₁.setTop (mkF m 147 L_1431 [(.int (lcmpW q4 (1 : Int64)))])) t) => pre1503 t (by
                show Steps p.tables e below (s₁.setTop (mkF m 140 L_1431 [(.int (lcmpW q1 (q0 - q2)))])) _
                refine XS.ifNo X0.here hx rfl (hb hby d11_140) rfl ((if0 _ _).trans (flt (mt (own_lt q1 (q0 - q2)).mp hc1502)).1) ?_
                refine XS.lload X0.here hx rfl (hb hby d11_143) rfl ?_
                refine XS.lconst X0.here hx rfl (hb hby d11_145) ?_
                refine XS.lcmp X0.here hx rfl (hb hby d11_146) rfl ?_
                exact k)
              have pre1516 := fun (t : State) (k : Steps p.tables e below (s₁.setTop (mkF m 167 L_1431 [(.int (j11_6 q0 q1 q2 q4 q5))])) t) => pre1515 t (by
                by_cases hc1517 : q4 = (1 : Int64)
                · skip
                  show Steps p.tables e below (s₁.setTop (mkF m 147 L_1431 [(.int (lcmpW q4 (1 : Int64)))])) _
                  refine XS.ifNo X0.here hx rfl (hb hby d11_147) rfl ((if0 _ _).trans (teq ((own_eq q4 (1 : Int64)).mpr hc1517)).2) ?_
                  refine XS.lload X0.here hx rfl (hb hby d11_150) rfl ?_
                  refine XS.lloadN X0.here hx rfl (hb hby d11_152) rfl ?_
                  refine XS.lloadN X0.here hx rfl (hb hby d11_153) rfl ?_
                  refine XS.lload X0.here hx rfl (hb hby d11_154) rfl ?_
                  refine XS.lsub X0.here hx rfl (hb hby d11_156) rfl ?_
                  show Steps p.tables e below (s₁.setTop (mkF m 157 L_1431 [(.long (q0 - q2)), (.long q1), (.long q5)])) _
                  refine XS.lsub X0.here hx rfl (hb hby d11_157) rfl ?_
                  refine XS.lcmp X0.here hx rfl (hb hby d11_158) rfl ?_
                  by_cases hc1518 : q5 = (q1 - (q0 - q2))
                  · skip
                    show Steps p.tables e below (s₁.setTop (mkF m 159 L_1431 [(.int (lcmpW q5 (q1 - (q0 - q2))))])) _
                    refine XS.ifNo X0.here hx rfl (hb hby d11_159) rfl ((if0 _ _).trans (teq ((own_eq q5 (q1 - (q0 - q2))).mpr hc1518)).2) ?_
                    refine XS.iconst X0.here hx rfl (hb hby d11_162) ?_
                    refine XS.goto X0.here hx rfl (pc0 := 163) (pc' := 167) rfl (hb hby d11_163) (by decide) (by decide) ?_
                    have hj1519 : (j11_6 q0 q1 q2 q4 q5) = (1 : Int32) := by unfold j11_6; first | (rw [if_pos hc1517, if_pos hc1518]) | (simp only [if_pos hc1517, if_pos hc1518])
                    rw [hj1519] at k
                    exact k
                  · skip
                    show Steps p.tables e below (s₁.setTop (mkF m 159 L_1431 [(.int (lcmpW q5 (q1 - (q0 - q2))))])) _
                    refine XS.ifYes X0.here hx rfl (pc0 := 159) (pc' := 166) rfl (hb hby d11_159) rfl ((if0 _ _).trans (feq (mt (own_eq q5 (q1 - (q0 - q2))).mp hc1518)).2) (by decide) (by decide) ?_
                    refine XS.iconst X0.here hx rfl (hb hby d11_166) ?_
                    have hj1520 : (j11_6 q0 q1 q2 q4 q5) = (0 : Int32) := by unfold j11_6; first | (rw [if_pos hc1517, if_neg hc1518]) | (simp only [if_pos hc1517, if_neg hc1518])
                    rw [hj1520] at k
                    exact k
                · skip
                  show Steps p.tables e below (s₁.setTop (mkF m 147 L_1431 [(.int (lcmpW q4 (1 : Int64)))])) _
                  refine XS.ifYes X0.here hx rfl (pc0 := 147) (pc' := 166) rfl (hb hby d11_147) rfl ((if0 _ _).trans (feq (mt (own_eq q4 (1 : Int64)).mp hc1517)).2) (by decide) (by decide) ?_
                  refine XS.iconst X0.here hx rfl (hb hby d11_166) ?_
                  have hj1521 : (j11_6 q0 q1 q2 q4 q5) = (0 : Int32) := by unfold j11_6; first | (rw [if_neg hc1517]) | (simp only [if_neg hc1517])
                  rw [hj1521] at k
                  exact k)
              obtain ⟨fs, hr, hrun, hended, hW, hsame⟩ := X0.leave (v := some (.int (nar .boolean (j11_6 q0 q1 q2 q4 q5)))) (fun h => by rw [Bd.returns] at h; cases h)
              refine ⟨_, _, pre1516 _ ?_, hrun, hended, _, _, rfl, ?_, ⟨_, rfl⟩, hW, hsame.mono (by decide) (by decide)⟩
              · skip
                show Steps p.tables e below (s₁.setTop (mkF m 167 L_1431 [(.int (j11_6 q0 q1 q2 q4 q5))])) _
                exact retN X0 hx (t := .boolean) Bd.returns (by simp) (hb hby d11_167) hr
              · show Q11 Z q0 q1 q2 p3 q4 q5 h0 n0 _ s₁.heap _
                rw [e0]
                have hv : (nar .boolean (j11_6 q0 q1 q2 q4 q5)) = (v11 q0 q1 q2 p3 q4 q5) := by unfold v11; first | (rw [if_neg hc1432, if_neg hc1443, if_neg hc1466, if_pos hc1489, if_neg hc1491, if_neg hc1502]) | (simp only [if_neg hc1432, if_neg hc1443, if_neg hc1466, if_pos hc1489, if_neg hc1491, if_neg hc1502])
                exact ⟨(by rw [← hv]), N0, rfl⟩
        · skip
          have pre1523 := fun (t : State) (k : Steps p.tables e below (s₁.setTop (mkF m 140 L_1431 [(.int (lcmpW q1 (q0 - q2)))])) t) => pre1490 t (by
            show Steps p.tables e below (s₁.setTop (mkF m 102 L_1431 [(.int (lcmpW q1 q0))])) _
            refine XS.ifYes X0.here hx rfl (pc0 := 102) (pc' := 134) rfl (hb hby d11_102) rfl ((if0 _ _).trans (feq (mt (own_eq q1 q0).mp hc1489)).2) (by decide) (by decide) ?_
            refine XS.lloadN X0.here hx rfl (hb hby d11_134) rfl ?_
            refine XS.lloadN X0.here hx rfl (hb hby d11_135) rfl ?_
            refine XS.lload X0.here hx rfl (hb hby d11_136) rfl ?_
            refine XS.lsub X0.here hx rfl (hb hby d11_138) rfl ?_
            refine XS.lcmp X0.here hx rfl (hb hby d11_139) rfl ?_
            exact k)
          by_cases hc1522 : q1 < (q0 - q2)
          · skip
            have pre1526 := fun (t : State) (k : Steps p.tables e below (s₁.setTop (mkF m 172 L_1431 [(.int (lcmpW q4 (0 : Int64)))])) t) => pre1523 t (by
              show Steps p.tables e below (s₁.setTop (mkF m 140 L_1431 [(.int (lcmpW q1 (q0 - q2)))])) _
              refine XS.ifYes X0.here hx rfl (pc0 := 140) (pc' := 168) rfl (hb hby d11_140) rfl ((if0 _ _).trans (tlt ((own_lt q1 (q0 - q2)).mpr hc1522)).1) (by decide) (by decide) ?_
              refine XS.lload X0.here hx rfl (hb hby d11_168) rfl ?_
              refine XS.lconst X0.here hx rfl (hb hby d11_170) ?_
              refine XS.lcmp X0.here hx rfl (hb hby d11_171) rfl ?_
              exact k)
            have pre1527 := fun (t : State) (k : Steps p.tables e below (s₁.setTop (mkF m 190 L_1431 [(.int (j11_5 q1 q2 q4 q5))])) t) => pre1526 t (by
              by_cases hc1528 : q4 = (0 : Int64)
              · skip
                show Steps p.tables e below (s₁.setTop (mkF m 172 L_1431 [(.int (lcmpW q4 (0 : Int64)))])) _
                refine XS.ifNo X0.here hx rfl (hb hby d11_172) rfl ((if0 _ _).trans (teq ((own_eq q4 (0 : Int64)).mpr hc1528)).2) ?_
                refine XS.lload X0.here hx rfl (hb hby d11_175) rfl ?_
                refine XS.lloadN X0.here hx rfl (hb hby d11_177) rfl ?_
                refine XS.lload X0.here hx rfl (hb hby d11_178) rfl ?_
                refine XS.ladd X0.here hx rfl (hb hby d11_180) rfl ?_
                refine XS.lcmp X0.here hx rfl (hb hby d11_181) rfl ?_
                by_cases hc1529 : q5 = (q1 + q2)
                · skip
                  show Steps p.tables e below (s₁.setTop (mkF m 182 L_1431 [(.int (lcmpW q5 (q1 + q2)))])) _
                  refine XS.ifNo X0.here hx rfl (hb hby d11_182) rfl ((if0 _ _).trans (teq ((own_eq q5 (q1 + q2)).mpr hc1529)).2) ?_
                  refine XS.iconst X0.here hx rfl (hb hby d11_185) ?_
                  refine XS.goto X0.here hx rfl (pc0 := 186) (pc' := 190) rfl (hb hby d11_186) (by decide) (by decide) ?_
                  have hj1530 : (j11_5 q1 q2 q4 q5) = (1 : Int32) := by unfold j11_5; first | (rw [if_pos hc1528, if_pos hc1529]) | (simp only [if_pos hc1528, if_pos hc1529])
                  rw [hj1530] at k
                  exact k
                · skip
                  show Steps p.tables e below (s₁.setTop (mkF m 182 L_1431 [(.int (lcmpW q5 (q1 + q2)))])) _
                  refine XS.ifYes X0.here hx rfl (pc0 := 182) (pc' := 189) rfl (hb hby d11_182) rfl ((if0 _ _).trans (feq (mt (own_eq q5 (q1 + q2)).mp hc1529)).2) (by decide) (by decide) ?_
                  refine XS.iconst X0.here hx rfl (hb hby d11_189) ?_
                  have hj1531 : (j11_5 q1 q2 q4 q5) = (0 : Int32) := by unfold j11_5; first | (rw [if_pos hc1528, if_neg hc1529]) | (simp only [if_pos hc1528, if_neg hc1529])
                  rw [hj1531] at k
                  exact k
              · skip
                show Steps p.tables e below (s₁.setTop (mkF m 172 L_1431 [(.int (lcmpW q4 (0 : Int64)))])) _
                refine XS.ifYes X0.here hx rfl (pc0 := 172) (pc' := 189) rfl (hb hby d11_172) rfl ((if0 _ _).trans (feq (mt (own_eq q4 (0 : Int64)).mp hc1528)).2) (by decide) (by decide) ?_
                refine XS.iconst X0.here hx rfl (hb hby d11_189) ?_
                have hj1532 : (j11_5 q1 q2 q4 q5) = (0 : Int32) := by unfold j11_5; first | (rw [if_neg hc1528]) | (simp only [if_neg hc1528])
                rw [hj1532] at k
                exact k)
            obtain ⟨fs, hr, hrun, hended, hW, hsame⟩ := X0.leave (v := some (.int (nar .boolean (j11_5 q1 q2 q4 q5)))) (fun h => by rw [Bd.returns] at h; cases h)
            refine ⟨_, _, pre1527 _ ?_, hrun, hended, _, _, rfl, ?_, ⟨_, rfl⟩, hW, hsame.mono (by decide) (by decide)⟩
            · skip
              show Steps p.tables e below (s₁.setTop (mkF m 190 L_1431 [(.int (j11_5 q1 q2 q4 q5))])) _
              exact retN X0 hx (t := .boolean) Bd.returns (by simp) (hb hby d11_190) hr
            · show Q11 Z q0 q1 q2 p3 q4 q5 h0 n0 _ s₁.heap _
              rw [e0]
              have hv : (nar .boolean (j11_5 q1 q2 q4 q5)) = (v11 q0 q1 q2 p3 q4 q5) := by unfold v11; first | (rw [if_neg hc1432, if_neg hc1443, if_neg hc1466, if_neg hc1489, if_pos hc1522]) | (simp only [if_neg hc1432, if_neg hc1443, if_neg hc1466, if_neg hc1489, if_pos hc1522])
              exact ⟨(by rw [← hv]), N0, rfl⟩
          · skip
            have pre1535 := fun (t : State) (k : Steps p.tables e below (s₁.setTop (mkF m 147 L_1431 [(.int (lcmpW q4 (1 : Int64)))])) t) => pre1523 t (by
              show Steps p.tables e below (s₁.setTop (mkF m 140 L_1431 [(.int (lcmpW q1 (q0 - q2)))])) _
              refine XS.ifNo X0.here hx rfl (hb hby d11_140) rfl ((if0 _ _).trans (flt (mt (own_lt q1 (q0 - q2)).mp hc1522)).1) ?_
              refine XS.lload X0.here hx rfl (hb hby d11_143) rfl ?_
              refine XS.lconst X0.here hx rfl (hb hby d11_145) ?_
              refine XS.lcmp X0.here hx rfl (hb hby d11_146) rfl ?_
              exact k)
            have pre1536 := fun (t : State) (k : Steps p.tables e below (s₁.setTop (mkF m 167 L_1431 [(.int (j11_6 q0 q1 q2 q4 q5))])) t) => pre1535 t (by
              by_cases hc1537 : q4 = (1 : Int64)
              · skip
                show Steps p.tables e below (s₁.setTop (mkF m 147 L_1431 [(.int (lcmpW q4 (1 : Int64)))])) _
                refine XS.ifNo X0.here hx rfl (hb hby d11_147) rfl ((if0 _ _).trans (teq ((own_eq q4 (1 : Int64)).mpr hc1537)).2) ?_
                refine XS.lload X0.here hx rfl (hb hby d11_150) rfl ?_
                refine XS.lloadN X0.here hx rfl (hb hby d11_152) rfl ?_
                refine XS.lloadN X0.here hx rfl (hb hby d11_153) rfl ?_
                refine XS.lload X0.here hx rfl (hb hby d11_154) rfl ?_
                refine XS.lsub X0.here hx rfl (hb hby d11_156) rfl ?_
                show Steps p.tables e below (s₁.setTop (mkF m 157 L_1431 [(.long (q0 - q2)), (.long q1), (.long q5)])) _
                refine XS.lsub X0.here hx rfl (hb hby d11_157) rfl ?_
                refine XS.lcmp X0.here hx rfl (hb hby d11_158) rfl ?_
                by_cases hc1538 : q5 = (q1 - (q0 - q2))
                · skip
                  show Steps p.tables e below (s₁.setTop (mkF m 159 L_1431 [(.int (lcmpW q5 (q1 - (q0 - q2))))])) _
                  refine XS.ifNo X0.here hx rfl (hb hby d11_159) rfl ((if0 _ _).trans (teq ((own_eq q5 (q1 - (q0 - q2))).mpr hc1538)).2) ?_
                  refine XS.iconst X0.here hx rfl (hb hby d11_162) ?_
                  refine XS.goto X0.here hx rfl (pc0 := 163) (pc' := 167) rfl (hb hby d11_163) (by decide) (by decide) ?_
                  have hj1539 : (j11_6 q0 q1 q2 q4 q5) = (1 : Int32) := by unfold j11_6; first | (rw [if_pos hc1537, if_pos hc1538]) | (simp only [if_pos hc1537, if_pos hc1538])
                  rw [hj1539] at k
                  exact k
                · skip
                  show Steps p.tables e below (s₁.setTop (mkF m 159 L_1431 [(.int (lcmpW q5 (q1 - (q0 - q2))))])) _
                  refine XS.ifYes X0.here hx rfl (pc0 := 159) (pc' := 166) rfl (hb hby d11_159) rfl ((if0 _ _).trans (feq (mt (own_eq q5 (q1 - (q0 - q2))).mp hc1538)).2) (by decide) (by decide) ?_
                  refine XS.iconst X0.here hx rfl (hb hby d11_166) ?_
                  have hj1540 : (j11_6 q0 q1 q2 q4 q5) = (0 : Int32) := by unfold j11_6; first | (rw [if_pos hc1537, if_neg hc1538]) | (simp only [if_pos hc1537, if_neg hc1538])
                  rw [hj1540] at k
                  exact k
              · skip
                show Steps p.tables e below (s₁.setTop (mkF m 147 L_1431 [(.int (lcmpW q4 (1 : Int64)))])) _
                refine XS.ifYes X0.here hx rfl (pc0 := 147) (pc' := 166) rfl (hb hby d11_147) rfl ((if0 _ _).trans (feq (mt (own_eq q4 (1 : Int64)).mp hc1537)).2) (by decide) (by decide) ?_
                refine XS.iconst X0.here hx rfl (hb hby d11_166) ?_
                have hj1541 : (j11_6 q0 q1 q2 q4 q5) = (0 : Int32) := by unfold j11_6; first | (rw [if_neg hc1537]) | (simp only [if_neg hc1537])
                rw [hj1541] at k
                exact k)
            obtain ⟨fs, hr, hrun, hended, hW, hsame⟩ := X0.leave (v := some (.int (nar .boolean (j11_6 q0 q1 q2 q4 q5)))) (fun h => by rw [Bd.returns] at h; cases h)
            refine ⟨_, _, pre1536 _ ?_, hrun, hended, _, _, rfl, ?_, ⟨_, rfl⟩, hW, hsame.mono (by decide) (by decide)⟩
            · skip
              show Steps p.tables e below (s₁.setTop (mkF m 167 L_1431 [(.int (j11_6 q0 q1 q2 q4 q5))])) _
              exact retN X0 hx (t := .boolean) Bd.returns (by simp) (hb hby d11_167) hr
            · show Q11 Z q0 q1 q2 p3 q4 q5 h0 n0 _ s₁.heap _
              rw [e0]
              have hv : (nar .boolean (j11_6 q0 q1 q2 q4 q5)) = (v11 q0 q1 q2 p3 q4 q5) := by unfold v11; first | (rw [if_neg hc1432, if_neg hc1443, if_neg hc1466, if_neg hc1489, if_neg hc1522]) | (simp only [if_neg hc1432, if_neg hc1443, if_neg hc1466, if_neg hc1489, if_neg hc1522])
              exact ⟨(by rw [← hv]), N0, rfl⟩
theorem d12_0 : decode method_5_code 0 = .ok (.iload_n 2, 1) := by decide +kernel
theorem d12_1 : decode method_5_code 1 = .ok (.iload_n 3, 1) := by decide +kernel
theorem d12_2 : decode method_5_code 2 = .ok (.if_icmp .lt 13, 3) := by decide +kernel
theorem d12_5 : decode method_5_code 5 = .ok (.iload_n 2, 1) := by decide +kernel
theorem d12_6 : decode method_5_code 6 = .ok (.iload_n 3, 1) := by decide +kernel
theorem d12_7 : decode method_5_code 7 = .ok (.iload 4, 2) := by decide +kernel
theorem d12_9 : decode method_5_code 9 = .ok (.iadd, 1) := by decide +kernel
theorem d12_10 : decode method_5_code 10 = .ok (.if_icmp .ge 5, 3) := by decide +kernel
theorem d12_13 : decode method_5_code 13 = .ok (.iconst 1, 1) := by decide +kernel
theorem d12_14 : decode method_5_code 14 = .ok (.ireturn, 1) := by decide +kernel
theorem ef12_in (m : MethodId) (x0 : Addr) (x1 : Addr) (x2 : Int32) (x3 : Int32) (x4 : Int32) : entryFrame m #[(.ref x0), (.ref x1), (.int x2), (.int x3), (.int x4)] 5 = mkF m 0 #[.val (.ref x0), .val (.ref x1), .val (.int x2), .val (.int x3), .val (.int x4)] [] := by first | (simp [entryFrame, mkF, argsToLocals, Value.category]; done) | rfl
abbrev rr12_in : Room := { frames := 0, cells := 0, slots := 0, locals := 0 }
def Q12_in (Z : State) (a0 : Addr) (a1 : Addr) (p2 : Int32) (p3 : Int32) (p4 : Int32) (h0 : Heap) (n0 : Nat) (v : Option Value) (h : Heap) (L : List Loc) : Prop := v = some (.int (1 : Int32)) ∧ Fr n0 L ∧ h = h0
set_option maxRecDepth 65536 in
set_option maxHeartbeats 40000000 in
theorem rm12_in (l : Launch) (Z : State) (aw : Array Value) (hw : ∀ d ∈ tables_1, d.before aw Z = true) (ws : List Jvm.Cond) (a0 : Addr) (a1 : Addr) (p2 : Int32) (p3 : Int32) (p4 : Int32) (h0 : Heap) (n0 : Nat) (Z0 : n0 ≤ h0.size) (h1 : ¬ p2 < p3) (h2 : p2 < (p3 + p4)) :
    MetFree l (⟨"com/example/stowline/stowline/VolumeBoundCopyTotalsPinLaw", "untouched", "([J[JIII)Z"⟩ : MethodName) (head1 (Jvm.Cond.code (⟨"com/example/stowline/stowline/VolumeBoundCopyTotalsPinLaw", "untouched", "([J[JIII)Z"⟩ : MethodName) method_5_code 5 (some .boolean) :: ws) rr12_in) (fun a U => a = #[(.ref a0), (.ref a1), (.int p2), (.int p3), (.int p4)] ∧ Z.Warmed39 U.vm ∧ U.heap = h0) (fun _ _ _ _ _ => True) (fun _ U o U' => ∃ v L, o = .returned v ∧ Q12_in Z a0 a1 p2 p3 p4 h0 n0 v U'.heap L ∧ FrameEnd U o U' L rr12_in.cells rr12_in.slots) := by
  refine MetFree.of_bodySF (plainFor_of_name pn_4) hisR ?_
  intro p e s m args below meth c s₁ Bd hml0 hP hK
  obtain ⟨rfl, hZ, hh⟩ := hP
  have hx := Bd.exec
  have hby := Bd.bytes
  have hml : c.maxLocals = 5 := hml0
  have hown : s.vm.findClass "com/example/stowline/stowline/VolumeBoundCopyTotalsPinLaw" = some m.cls := findClass_of_methodNamed Bd.named
  have hnm := (name_of_methodNamed Bd.named Bd.method).1
  have X0 : Stand p l e rr12_in s m #[(.ref a0), (.ref a1), (.int p2), (.int p3), (.int p4)] below meth c s₁ [] 0 0 := Stand.of_body Bd
  have e0 : s₁.heap = h0 := by rw [← hh, Bd.state]; rfl
  have N0 := Fr.nil n0
  have pre0 : ∀ t, Steps p.tables e below (s₁.setTop (mkF m 0 #[.val (.ref a0), .val (.ref a1), .val (.int p2), .val (.int p3), .val (.int p4)] [])) t → Steps p.tables e below (s₁.setTop (entryFrame m #[(.ref a0), (.ref a1), (.int p2), (.int p3), (.int p4)] 5)) t := fun t k => castTop (ef12_in m a0 a1 p2 p3 p4) k
  let L_1542 : Array Slot := #[.val (.ref a0), .val (.ref a1), .val (.int p2), .val (.int p3), .val (.int p4)]
  obtain ⟨fs, hr, hrun, hended, hW, hsame⟩ := X0.leave (v := some (.int (1 : Int32))) (fun h => by rw [Bd.returns] at h; cases h)
  refine ⟨_, _, pre0 _ ?_, hrun, hended, _, _, rfl, ?_, ⟨_, rfl⟩, hW, hsame.mono (by decide) (by decide)⟩
  · skip
    show Steps p.tables e below (s₁.setTop (mkF m 0 L_1542 [])) _
    refine XS.iloadN X0.here hx rfl (hb hby d12_0) rfl ?_
    refine XS.iloadN X0.here hx rfl (hb hby d12_1) rfl ?_
    refine XS.icmpNo X0.here hx rfl (hb hby d12_2) rfl (flt h1).1 ?_
    refine XS.iloadN X0.here hx rfl (hb hby d12_5) rfl ?_
    refine XS.iloadN X0.here hx rfl (hb hby d12_6) rfl ?_
    refine XS.iload X0.here hx rfl (hb hby d12_7) rfl ?_
    show Steps p.tables e below (s₁.setTop (mkF m 9 L_1542 [(.int p4), (.int p3), (.int p2)])) _
    refine XS.iadd X0.here hx rfl (hb hby d12_9) rfl ?_
    refine XS.icmpNo X0.here hx rfl (hb hby d12_10) rfl (tlt h2).2.1 ?_
    refine XS.iconst X0.here hx rfl (hb hby d12_13) ?_
    show Steps p.tables e below (s₁.setTop (mkF m 14 L_1542 [(.int (1 : Int32))])) _
    exact retN X0 hx (t := .boolean) Bd.returns (by simp) (hb hby d12_14) hr
  · show Q12_in Z a0 a1 p2 p3 p4 h0 n0 _ s₁.heap _
    rw [e0]
    exact ⟨rfl, N0, rfl⟩
theorem d12_15 : decode method_5_code 15 = .ok (.aload_n 0, 1) := by decide +kernel
theorem d12_16 : decode method_5_code 16 = .ok (.iload_n 2, 1) := by decide +kernel
theorem d12_17 : decode method_5_code 17 = .ok (.laload, 1) := by decide +kernel
theorem d12_18 : decode method_5_code 18 = .ok (.ldc2_w 22, 3) := by decide +kernel
theorem d12_21 : decode method_5_code 21 = .ok (.iload_n 2, 1) := by decide +kernel
theorem d12_22 : decode method_5_code 22 = .ok (.i2l, 1) := by decide +kernel
theorem d12_23 : decode method_5_code 23 = .ok (.lsub, 1) := by decide +kernel
theorem d12_24 : decode method_5_code 24 = .ok (.lcmp, 1) := by decide +kernel
theorem d12_25 : decode method_5_code 25 = .ok (.ifCond .ne 20, 3) := by decide +kernel
theorem d12_28 : decode method_5_code 28 = .ok (.aload_n 1, 1) := by decide +kernel
theorem d12_29 : decode method_5_code 29 = .ok (.iload_n 2, 1) := by decide +kernel
theorem d12_30 : decode method_5_code 30 = .ok (.laload, 1) := by decide +kernel
theorem d12_31 : decode method_5_code 31 = .ok (.ldc2_w 30, 3) := by decide +kernel
theorem d12_34 : decode method_5_code 34 = .ok (.iload_n 2, 1) := by decide +kernel
theorem d12_35 : decode method_5_code 35 = .ok (.i2l, 1) := by decide +kernel
theorem d12_36 : decode method_5_code 36 = .ok (.lsub, 1) := by decide +kernel
theorem d12_37 : decode method_5_code 37 = .ok (.lcmp, 1) := by decide +kernel
theorem d12_38 : decode method_5_code 38 = .ok (.ifCond .ne 7, 3) := by decide +kernel
theorem d12_41 : decode method_5_code 41 = .ok (.iconst 1, 1) := by decide +kernel
theorem d12_42 : decode method_5_code 42 = .ok (.goto 4, 3) := by decide +kernel
theorem d12_46 : decode method_5_code 46 = .ok (.ireturn, 1) := by decide +kernel
theorem ef12_lo0 (m : MethodId) (x0 : Addr) (x1 : Addr) (x2 : Int32) (x3 : Int32) (x4 : Int32) : entryFrame m #[(.ref x0), (.ref x1), (.int x2), (.int x3), (.int x4)] 5 = mkF m 0 #[.val (.ref x0), .val (.ref x1), .val (.int x2), .val (.int x3), .val (.int x4)] [] := by first | (simp [entryFrame, mkF, argsToLocals, Value.category]; done) | rfl
abbrev rr12_lo0 : Room := { frames := 0, cells := 0, slots := 0, locals := 0 }
def Q12_lo0 (Z : State) (a0 : Addr) (a1 : Addr) (p3 : Int32) (p4 : Int32) (u1 : Int64) (u2 : Int64) (u3 : Int64) (x1 : Int64) (x2 : Int64) (x3 : Int64) (k_a0 : ClassId) (k_a1 : ClassId) (h0 : Heap) (n0 : Nat) (v : Option Value) (h : Heap) (L : List Loc) : Prop := v = some (.int (1 : Int32)) ∧ Fr n0 L ∧ h = h0
set_option maxRecDepth 65536 in
set_option maxHeartbeats 40000000 in
theorem rm12_lo0 (l : Launch) (Z : State) (aw : Array Value) (hw : ∀ d ∈ tables_1, d.before aw Z = true) (ws : List Jvm.Cond) (a0 : Addr) (a1 : Addr) (p3 : Int32) (p4 : Int32) (u1 : Int64) (u2 : Int64) (u3 : Int64) (x1 : Int64) (x2 : Int64) (x3 : Int64) (k_a0 : ClassId) (k_a1 : ClassId) (h0 : Heap) (n0 : Nat) (Z0 : n0 ≤ h0.size) (V_a0 : Arv Z h0 a0 k_a0 .long (4 : Int32) [(.long (-1 : Int64)), (.long u1), (.long u2), (.long u3)] (.long (0 : Int64))) (V_a1 : Arv Z h0 a1 k_a1 .long (4 : Int32) [(.long (-11 : Int64)), (.long x1), (.long x2), (.long x3)] (.long (0 : Int64))) (h1 : (0 : Int32) < p3) :
    MetFree l (⟨"com/example/stowline/stowline/VolumeBoundCopyTotalsPinLaw", "untouched", "([J[JIII)Z"⟩ : MethodName) (head1 (Jvm.Cond.code (⟨"com/example/stowline/stowline/VolumeBoundCopyTotalsPinLaw", "untouched", "([J[JIII)Z"⟩ : MethodName) method_5_code 5 (some .boolean) :: ws) rr12_lo0) (fun a U => a = #[(.ref a0), (.ref a1), (.int (0 : Int32)), (.int p3), (.int p4)] ∧ Z.Warmed39 U.vm ∧ U.heap = h0) (fun _ _ _ _ _ => True) (fun _ U o U' => ∃ v L, o = .returned v ∧ Q12_lo0 Z a0 a1 p3 p4 u1 u2 u3 x1 x2 x3 k_a0 k_a1 h0 n0 v U'.heap L ∧ FrameEnd U o U' L rr12_lo0.cells rr12_lo0.slots) := by
  refine MetFree.of_bodySF (plainFor_of_name pn_4) hisR ?_
  intro p e s m args below meth c s₁ Bd hml0 hP hK
  obtain ⟨rfl, hZ, hh⟩ := hP
  have hx := Bd.exec
  have hby := Bd.bytes
  have hml : c.maxLocals = 5 := hml0
  have hown : s.vm.findClass "com/example/stowline/stowline/VolumeBoundCopyTotalsPinLaw" = some m.cls := findClass_of_methodNamed Bd.named
  have hnm := (name_of_methodNamed Bd.named Bd.method).1
  have X0 : Stand p l e rr12_lo0 s m #[(.ref a0), (.ref a1), (.int (0 : Int32)), (.int p3), (.int p4)] below meth c s₁ [] 0 0 := Stand.of_body Bd
  have e0 : s₁.heap = h0 := by rw [← hh, Bd.state]; rfl
  have N0 := Fr.nil n0
  have pre0 : ∀ t, Steps p.tables e below (s₁.setTop (mkF m 0 #[.val (.ref a0), .val (.ref a1), .val (.int (0 : Int32)), .val (.int p3), .val (.int p4)] [])) t → Steps p.tables e below (s₁.setTop (entryFrame m #[(.ref a0), (.ref a1), (.int (0 : Int32)), (.int p3), (.int p4)] 5)) t := fun t k => castTop (ef12_lo0 m a0 a1 (0 : Int32) p3 p4) k
  let L_1543 : Array Slot := #[.val (.ref a0), .val (.ref a1), .val (.int (0 : Int32)), .val (.int p3), .val (.int p4)]
  obtain ⟨cl1544, Ar1544, q1544, S1544, M1544, H1544, G1544⟩ := id V_a0
  have hin1545 : ¬ ((0 : Int32) < 0 ∨ cl1544.slots.size ≤ ((0 : Int32)).toNatClampNeg) := inb_of S1544 ⟨by decide, by decide⟩
  have hat1546 : cl1544.slots[((0 : Int32)).toNatClampNeg]? = some (.long (-1 : Int64)) := H1544.at hin1545 rfl
  obtain ⟨cl1547, Ar1547, q1547, S1547, M1547, H1547, G1547⟩ := id V_a1
  have hin1548 : ¬ ((0 : Int32) < 0 ∨ cl1547.slots.size ≤ ((0 : Int32)).toNatClampNeg) := inb_of S1547 ⟨by decide, by decide⟩
  have hat1549 : cl1547.slots[((0 : Int32)).toNatClampNeg]? = some (.long (-11 : Int64)) := H1547.at hin1548 rfl
  obtain ⟨fs, hr, hrun, hended, hW, hsame⟩ := X0.leave (v := some (.int (1 : Int32))) (fun h => by rw [Bd.returns] at h; cases h)
  refine ⟨_, _, pre0 _ ?_, hrun, hended, _, _, rfl, ?_, ⟨_, rfl⟩, hW, hsame.mono (by decide) (by decide)⟩
  · skip
    show Steps p.tables e below (s₁.setTop (mkF m 0 L_1543 [])) _
    refine XS.iloadN X0.here hx rfl (hb hby d12_0) rfl ?_
    refine XS.iloadN X0.here hx rfl (hb hby d12_1) rfl ?_
    refine XS.icmpYes X0.here hx rfl (pc0 := 2) (pc' := 15) rfl (hb hby d12_2) rfl (tlt h1).1 (by decide) (by decide) ?_
    refine XS.aloadN X0.here hx rfl (hb hby d12_15) rfl rfl ?_
    refine XS.iloadN X0.here hx rfl (hb hby d12_16) rfl ?_
    show Steps p.tables e below (s₁.setTop (mkF m 17 L_1543 [(.int (0 : Int32)), (.ref a0)])) _
    refine X0.laload hx (j := (0 : Int32)) (v := (.long (-1 : Int64))) (by rw [e0]; exact Ar1544.1) (State.isArrayOf_alike hZ.alike Ar1544.2.1) Ar1544.2.2 hin1545 hat1546 (g := (mkF m 17 L_1543 [(.int (0 : Int32)), (.ref a0)])) rfl rfl (hb hby d12_17) _ ?_
    show Steps p.tables e below (s₁.setTop (mkF m 18 L_1543 [(.long (-1 : Int64))])) _
    refine X0.ldc2Long hx hown (mvT hZ (own_m hw 10 rfl)) (g := (mkF m 18 L_1543 [(.long (-1 : Int64))])) rfl (hb hby d12_18) _ ?_
    refine XS.iloadN X0.here hx rfl (hb hby d12_21) rfl ?_
    refine XS.i2l X0.here hx rfl (hb hby d12_22) rfl ?_
    refine XS.lsub X0.here hx rfl (hb hby d12_23) rfl ?_
    refine XS.lcmp X0.here hx rfl (hb hby d12_24) rfl ?_
    refine XS.ifNo X0.here hx rfl (hb hby d12_25) rfl ((if0 _ _).trans (teq ((own_eq (-1 : Int64) (-1 : Int64)).mpr (rfl : (-1 : Int64) = (-1 : Int64)))).2) ?_
    show Steps p.tables e below (s₁.setTop (mkF m 28 L_1543 [])) _
    refine XS.aloadN X0.here hx rfl (hb hby d12_28) rfl rfl ?_
    refine XS.iloadN X0.here hx rfl (hb hby d12_29) rfl ?_
    show Steps p.tables e below (s₁.setTop (mkF m 30 L_1543 [(.int (0 : Int32)), (.ref a1)])) _
    refine X0.laload hx (j := (0 : Int32)) (v := (.long (-11 : Int64))) (by rw [e0]; exact Ar1547.1) (State.isArrayOf_alike hZ.alike Ar1547.2.1) Ar1547.2.2 hin1548 hat1549 (g := (mkF m 30 L_1543 [(.int (0 : Int32)), (.ref a1)])) rfl rfl (hb hby d12_30) _ ?_
    show Steps p.tables e below (s₁.setTop (mkF m 31 L_1543 [(.long (-11 : Int64))])) _
    refine X0.ldc2Long hx hown (mvT hZ (own_m hw 14 rfl)) (g := (mkF m 31 L_1543 [(.long (-11 : Int64))])) rfl (hb hby d12_31) _ ?_
    refine XS.iloadN X0.here hx rfl (hb hby d12_34) rfl ?_
    refine XS.i2l X0.here hx rfl (hb hby d12_35) rfl ?_
    refine XS.lsub X0.here hx rfl (hb hby d12_36) rfl ?_
    refine XS.lcmp X0.here hx rfl (hb hby d12_37) rfl ?_
    refine XS.ifNo X0.here hx rfl (hb hby d12_38) rfl ((if0 _ _).trans (teq ((own_eq (-11 : Int64) (-11 : Int64)).mpr (rfl : (-11 : Int64) = (-11 : Int64)))).2) ?_
    show Steps p.tables e below (s₁.setTop (mkF m 41 L_1543 [])) _
    refine XS.iconst X0.here hx rfl (hb hby d12_41) ?_
    refine XS.goto X0.here hx rfl (pc0 := 42) (pc' := 46) rfl (hb hby d12_42) (by decide) (by decide) ?_
    show Steps p.tables e below (s₁.setTop (mkF m 46 L_1543 [(.int (1 : Int32))])) _
    exact retN X0 hx (t := .boolean) Bd.returns (by simp) (hb hby d12_46) hr
  · show Q12_lo0 Z a0 a1 p3 p4 u1 u2 u3 x1 x2 x3 k_a0 k_a1 h0 n0 _ s₁.heap _
    rw [e0]
    exact ⟨rfl, N0, rfl⟩
theorem ef12_hi0 (m : MethodId) (x0 : Addr) (x1 : Addr) (x2 : Int32) (x3 : Int32) (x4 : Int32) : entryFrame m #[(.ref x0), (.ref x1), (.int x2), (.int x3), (.int x4)] 5 = mkF m 0 #[.val (.ref x0), .val (.ref x1), .val (.int x2), .val (.int x3), .val (.int x4)] [] := by first | (simp [entryFrame, mkF, argsToLocals, Value.category]; done) | rfl
abbrev rr12_hi0 : Room := { frames := 0, cells := 0, slots := 0, locals := 0 }
def Q12_hi0 (Z : State) (a0 : Addr) (a1 : Addr) (p3 : Int32) (p4 : Int32) (u1 : Int64) (u2 : Int64) (u3 : Int64) (x1 : Int64) (x2 : Int64) (x3 : Int64) (k_a0 : ClassId) (k_a1 : ClassId) (h0 : Heap) (n0 : Nat) (v : Option Value) (h : Heap) (L : List Loc) : Prop := v = some (.int (1 : Int32)) ∧ Fr n0 L ∧ h = h0
set_option maxRecDepth 65536 in
set_option maxHeartbeats 40000000 in
theorem rm12_hi0 (l : Launch) (Z : State) (aw : Array Value) (hw : ∀ d ∈ tables_1, d.before aw Z = true) (ws : List Jvm.Cond) (a0 : Addr) (a1 : Addr) (p3 : Int32) (p4 : Int32) (u1 : Int64) (u2 : Int64) (u3 : Int64) (x1 : Int64) (x2 : Int64) (x3 : Int64) (k_a0 : ClassId) (k_a1 : ClassId) (h0 : Heap) (n0 : Nat) (Z0 : n0 ≤ h0.size) (V_a0 : Arv Z h0 a0 k_a0 .long (4 : Int32) [(.long (-1 : Int64)), (.long u1), (.long u2), (.long u3)] (.long (0 : Int64))) (V_a1 : Arv Z h0 a1 k_a1 .long (4 : Int32) [(.long (-11 : Int64)), (.long x1), (.long x2), (.long x3)] (.long (0 : Int64))) (h1 : ¬ (0 : Int32) < p3) (h2 : ¬ (0 : Int32) < (p3 + p4)) :
    MetFree l (⟨"com/example/stowline/stowline/VolumeBoundCopyTotalsPinLaw", "untouched", "([J[JIII)Z"⟩ : MethodName) (head1 (Jvm.Cond.code (⟨"com/example/stowline/stowline/VolumeBoundCopyTotalsPinLaw", "untouched", "([J[JIII)Z"⟩ : MethodName) method_5_code 5 (some .boolean) :: ws) rr12_hi0) (fun a U => a = #[(.ref a0), (.ref a1), (.int (0 : Int32)), (.int p3), (.int p4)] ∧ Z.Warmed39 U.vm ∧ U.heap = h0) (fun _ _ _ _ _ => True) (fun _ U o U' => ∃ v L, o = .returned v ∧ Q12_hi0 Z a0 a1 p3 p4 u1 u2 u3 x1 x2 x3 k_a0 k_a1 h0 n0 v U'.heap L ∧ FrameEnd U o U' L rr12_hi0.cells rr12_hi0.slots) := by
  refine MetFree.of_bodySF (plainFor_of_name pn_4) hisR ?_
  intro p e s m args below meth c s₁ Bd hml0 hP hK
  obtain ⟨rfl, hZ, hh⟩ := hP
  have hx := Bd.exec
  have hby := Bd.bytes
  have hml : c.maxLocals = 5 := hml0
  have hown : s.vm.findClass "com/example/stowline/stowline/VolumeBoundCopyTotalsPinLaw" = some m.cls := findClass_of_methodNamed Bd.named
  have hnm := (name_of_methodNamed Bd.named Bd.method).1
  have X0 : Stand p l e rr12_hi0 s m #[(.ref a0), (.ref a1), (.int (0 : Int32)), (.int p3), (.int p4)] below meth c s₁ [] 0 0 := Stand.of_body Bd
  have e0 : s₁.heap = h0 := by rw [← hh, Bd.state]; rfl
  have N0 := Fr.nil n0
  have pre0 : ∀ t, Steps p.tables e below (s₁.setTop (mkF m 0 #[.val (.ref a0), .val (.ref a1), .val (.int (0 : Int32)), .val (.int p3), .val (.int p4)] [])) t → Steps p.tables e below (s₁.setTop (entryFrame m #[(.ref a0), (.ref a1), (.int (0 : Int32)), (.int p3), (.int p4)] 5)) t := fun t k => castTop (ef12_hi0 m a0 a1 (0 : Int32) p3 p4) k
  let L_1550 : Array Slot := #[.val (.ref a0), .val (.ref a1), .val (.int (0 : Int32)), .val (.int p3), .val (.int p4)]
  obtain ⟨cl1551, Ar1551, q1551, S1551, M1551, H1551, G1551⟩ := id V_a0
  have hin1552 : ¬ ((0 : Int32) < 0 ∨ cl1551.slots.size ≤ ((0 : Int32)).toNatClampNeg) := inb_of S1551 ⟨by decide, by decide⟩
  have hat1553 : cl1551.slots[((0 : Int32)).toNatClampNeg]? = some (.long (-1 : Int64)) := H1551.at hin1552 rfl
  obtain ⟨cl1554, Ar1554, q1554, S1554, M1554, H1554, G1554⟩ := id V_a1
  have hin1555 : ¬ ((0 : Int32) < 0 ∨ cl1554.slots.size ≤ ((0 : Int32)).toNatClampNeg) := inb_of S1554 ⟨by decide, by decide⟩
  have hat1556 : cl1554.slots[((0 : Int32)).toNatClampNeg]? = some (.long (-11 : Int64)) := H1554.at hin1555 rfl
  obtain ⟨fs, hr, hrun, hended, hW, hsame⟩ := X0.leave (v := some (.int (1 : Int32))) (fun h => by rw [Bd.returns] at h; cases h)
  refine ⟨_, _, pre0 _ ?_, hrun, hended, _, _, rfl, ?_, ⟨_, rfl⟩, hW, hsame.mono (by decide) (by decide)⟩
  · skip
    show Steps p.tables e below (s₁.setTop (mkF m 0 L_1550 [])) _
    refine XS.iloadN X0.here hx rfl (hb hby d12_0) rfl ?_
    refine XS.iloadN X0.here hx rfl (hb hby d12_1) rfl ?_
    refine XS.icmpNo X0.here hx rfl (hb hby d12_2) rfl (flt h1).1 ?_
    refine XS.iloadN X0.here hx rfl (hb hby d12_5) rfl ?_
    refine XS.iloadN X0.here hx rfl (hb hby d12_6) rfl ?_
    refine XS.iload X0.here hx rfl (hb hby d12_7) rfl ?_
    show Steps p.tables e below (s₁.setTop (mkF m 9 L_1550 [(.int p4), (.int p3), (.int (0 : Int32))])) _
    refine XS.iadd X0.here hx rfl (hb hby d12_9) rfl ?_
    refine XS.icmpYes X0.here hx rfl (pc0 := 10) (pc' := 15) rfl (hb hby d12_10) rfl (flt h2).2.1 (by decide) (by decide) ?_
    refine XS.aloadN X0.here hx rfl (hb hby d12_15) rfl rfl ?_
    refine XS.iloadN X0.here hx rfl (hb hby d12_16) rfl ?_
    show Steps p.tables e below (s₁.setTop (mkF m 17 L_1550 [(.int (0 : Int32)), (.ref a0)])) _
    refine X0.laload hx (j := (0 : Int32)) (v := (.long (-1 : Int64))) (by rw [e0]; exact Ar1551.1) (State.isArrayOf_alike hZ.alike Ar1551.2.1) Ar1551.2.2 hin1552 hat1553 (g := (mkF m 17 L_1550 [(.int (0 : Int32)), (.ref a0)])) rfl rfl (hb hby d12_17) _ ?_
    show Steps p.tables e below (s₁.setTop (mkF m 18 L_1550 [(.long (-1 : Int64))])) _
    refine X0.ldc2Long hx hown (mvT hZ (own_m hw 10 rfl)) (g := (mkF m 18 L_1550 [(.long (-1 : Int64))])) rfl (hb hby d12_18) _ ?_
    refine XS.iloadN X0.here hx rfl (hb hby d12_21) rfl ?_
    refine XS.i2l X0.here hx rfl (hb hby d12_22) rfl ?_
    refine XS.lsub X0.here hx rfl (hb hby d12_23) rfl ?_
    refine XS.lcmp X0.here hx rfl (hb hby d12_24) rfl ?_
    refine XS.ifNo X0.here hx rfl (hb hby d12_25) rfl ((if0 _ _).trans (teq ((own_eq (-1 : Int64) (-1 : Int64)).mpr (rfl : (-1 : Int64) = (-1 : Int64)))).2) ?_
    show Steps p.tables e below (s₁.setTop (mkF m 28 L_1550 [])) _
    refine XS.aloadN X0.here hx rfl (hb hby d12_28) rfl rfl ?_
    refine XS.iloadN X0.here hx rfl (hb hby d12_29) rfl ?_
    show Steps p.tables e below (s₁.setTop (mkF m 30 L_1550 [(.int (0 : Int32)), (.ref a1)])) _
    refine X0.laload hx (j := (0 : Int32)) (v := (.long (-11 : Int64))) (by rw [e0]; exact Ar1554.1) (State.isArrayOf_alike hZ.alike Ar1554.2.1) Ar1554.2.2 hin1555 hat1556 (g := (mkF m 30 L_1550 [(.int (0 : Int32)), (.ref a1)])) rfl rfl (hb hby d12_30) _ ?_
    show Steps p.tables e below (s₁.setTop (mkF m 31 L_1550 [(.long (-11 : Int64))])) _
    refine X0.ldc2Long hx hown (mvT hZ (own_m hw 14 rfl)) (g := (mkF m 31 L_1550 [(.long (-11 : Int64))])) rfl (hb hby d12_31) _ ?_
    refine XS.iloadN X0.here hx rfl (hb hby d12_34) rfl ?_
    refine XS.i2l X0.here hx rfl (hb hby d12_35) rfl ?_
    refine XS.lsub X0.here hx rfl (hb hby d12_36) rfl ?_
    refine XS.lcmp X0.here hx rfl (hb hby d12_37) rfl ?_
    refine XS.ifNo X0.here hx rfl (hb hby d12_38) rfl ((if0 _ _).trans (teq ((own_eq (-11 : Int64) (-11 : Int64)).mpr (rfl : (-11 : Int64) = (-11 : Int64)))).2) ?_
    show Steps p.tables e below (s₁.setTop (mkF m 41 L_1550 [])) _
    refine XS.iconst X0.here hx rfl (hb hby d12_41) ?_
    refine XS.goto X0.here hx rfl (pc0 := 42) (pc' := 46) rfl (hb hby d12_42) (by decide) (by decide) ?_
    show Steps p.tables e below (s₁.setTop (mkF m 46 L_1550 [(.int (1 : Int32))])) _
    exact retN X0 hx (t := .boolean) Bd.returns (by simp) (hb hby d12_46) hr
  · show Q12_hi0 Z a0 a1 p3 p4 u1 u2 u3 x1 x2 x3 k_a0 k_a1 h0 n0 _ s₁.heap _
    rw [e0]
    exact ⟨rfl, N0, rfl⟩
theorem ef12_lo1 (m : MethodId) (x0 : Addr) (x1 : Addr) (x2 : Int32) (x3 : Int32) (x4 : Int32) : entryFrame m #[(.ref x0), (.ref x1), (.int x2), (.int x3), (.int x4)] 5 = mkF m 0 #[.val (.ref x0), .val (.ref x1), .val (.int x2), .val (.int x3), .val (.int x4)] [] := by first | (simp [entryFrame, mkF, argsToLocals, Value.category]; done) | rfl
abbrev rr12_lo1 : Room := { frames := 0, cells := 0, slots := 0, locals := 0 }
def Q12_lo1 (Z : State) (a0 : Addr) (a1 : Addr) (p3 : Int32) (p4 : Int32) (u0 : Int64) (u2 : Int64) (u3 : Int64) (x0 : Int64) (x2 : Int64) (x3 : Int64) (k_a0 : ClassId) (k_a1 : ClassId) (h0 : Heap) (n0 : Nat) (v : Option Value) (h : Heap) (L : List Loc) : Prop := v = some (.int (1 : Int32)) ∧ Fr n0 L ∧ h = h0
set_option maxRecDepth 65536 in
set_option maxHeartbeats 40000000 in
theorem rm12_lo1 (l : Launch) (Z : State) (aw : Array Value) (hw : ∀ d ∈ tables_1, d.before aw Z = true) (ws : List Jvm.Cond) (a0 : Addr) (a1 : Addr) (p3 : Int32) (p4 : Int32) (u0 : Int64) (u2 : Int64) (u3 : Int64) (x0 : Int64) (x2 : Int64) (x3 : Int64) (k_a0 : ClassId) (k_a1 : ClassId) (h0 : Heap) (n0 : Nat) (Z0 : n0 ≤ h0.size) (V_a0 : Arv Z h0 a0 k_a0 .long (4 : Int32) [(.long u0), (.long (-2 : Int64)), (.long u2), (.long u3)] (.long (0 : Int64))) (V_a1 : Arv Z h0 a1 k_a1 .long (4 : Int32) [(.long x0), (.long (-12 : Int64)), (.long x2), (.long x3)] (.long (0 : Int64))) (h1 : (1 : Int32) < p3) :
    MetFree l (⟨"com/example/stowline/stowline/VolumeBoundCopyTotalsPinLaw", "untouched", "([J[JIII)Z"⟩ : MethodName) (head1 (Jvm.Cond.code (⟨"com/example/stowline/stowline/VolumeBoundCopyTotalsPinLaw", "untouched", "([J[JIII)Z"⟩ : MethodName) method_5_code 5 (some .boolean) :: ws) rr12_lo1) (fun a U => a = #[(.ref a0), (.ref a1), (.int (1 : Int32)), (.int p3), (.int p4)] ∧ Z.Warmed39 U.vm ∧ U.heap = h0) (fun _ _ _ _ _ => True) (fun _ U o U' => ∃ v L, o = .returned v ∧ Q12_lo1 Z a0 a1 p3 p4 u0 u2 u3 x0 x2 x3 k_a0 k_a1 h0 n0 v U'.heap L ∧ FrameEnd U o U' L rr12_lo1.cells rr12_lo1.slots) := by
  refine MetFree.of_bodySF (plainFor_of_name pn_4) hisR ?_
  intro p e s m args below meth c s₁ Bd hml0 hP hK
  obtain ⟨rfl, hZ, hh⟩ := hP
  have hx := Bd.exec
  have hby := Bd.bytes
  have hml : c.maxLocals = 5 := hml0
  have hown : s.vm.findClass "com/example/stowline/stowline/VolumeBoundCopyTotalsPinLaw" = some m.cls := findClass_of_methodNamed Bd.named
  have hnm := (name_of_methodNamed Bd.named Bd.method).1
  have X0 : Stand p l e rr12_lo1 s m #[(.ref a0), (.ref a1), (.int (1 : Int32)), (.int p3), (.int p4)] below meth c s₁ [] 0 0 := Stand.of_body Bd
  have e0 : s₁.heap = h0 := by rw [← hh, Bd.state]; rfl
  have N0 := Fr.nil n0
  have pre0 : ∀ t, Steps p.tables e below (s₁.setTop (mkF m 0 #[.val (.ref a0), .val (.ref a1), .val (.int (1 : Int32)), .val (.int p3), .val (.int p4)] [])) t → Steps p.tables e below (s₁.setTop (entryFrame m #[(.ref a0), (.ref a1), (.int (1 : Int32)), (.int p3), (.int p4)] 5)) t := fun t k => castTop (ef12_lo1 m a0 a1 (1 : Int32) p3 p4) k
  let L_1557 : Array Slot := #[.val (.ref a0), .val (.ref a1), .val (.int (1 : Int32)), .val (.int p3), .val (.int p4)]
  obtain ⟨cl1558, Ar1558, q1558, S1558, M1558, H1558, G1558⟩ := id V_a0
  have hin1559 : ¬ ((1 : Int32) < 0 ∨ cl1558.slots.size ≤ ((1 : Int32)).toNatClampNeg) := inb_of S1558 ⟨by decide, by decide⟩
  have hat1560 : cl1558.slots[((1 : Int32)).toNatClampNeg]? = some (.long (-2 : Int64)) := H1558.at hin1559 rfl
  obtain ⟨cl1561, Ar1561, q1561, S1561, M1561, H1561, G1561⟩ := id V_a1
  have hin1562 : ¬ ((1 : Int32) < 0 ∨ cl1561.slots.size ≤ ((1 : Int32)).toNatClampNeg) := inb_of S1561 ⟨by decide, by decide⟩
  have hat1563 : cl1561.slots[((1 : Int32)).toNatClampNeg]? = some (.long (-12 : Int64)) := H1561.at hin1562 rfl
  obtain ⟨fs, hr, hrun, hended, hW, hsame⟩ := X0.leave (v := some (.int (1 : Int32))) (fun h => by rw [Bd.returns] at h; cases h)
  refine ⟨_, _, pre0 _ ?_, hrun, hended, _, _, rfl, ?_, ⟨_, rfl⟩, hW, hsame.mono (by decide) (by decide)⟩
  · skip
    show Steps p.tables e below (s₁.setTop (mkF m 0 L_1557 [])) _
    refine XS.iloadN X0.here hx rfl (hb hby d12_0) rfl ?_
    refine XS.iloadN X0.here hx rfl (hb hby d12_1) rfl ?_
    refine XS.icmpYes X0.here hx rfl (pc0 := 2) (pc' := 15) rfl (hb hby d12_2) rfl (tlt h1).1 (by decide) (by decide) ?_
    refine XS.aloadN X0.here hx rfl (hb hby d12_15) rfl rfl ?_
    refine XS.iloadN X0.here hx rfl (hb hby d12_16) rfl ?_
    show Steps p.tables e below (s₁.setTop (mkF m 17 L_1557 [(.int (1 : Int32)), (.ref a0)])) _
    refine X0.laload hx (j := (1 : Int32)) (v := (.long (-2 : Int64))) (by rw [e0]; exact Ar1558.1) (State.isArrayOf_alike hZ.alike Ar1558.2.1) Ar1558.2.2 hin1559 hat1560 (g := (mkF m 17 L_1557 [(.int (1 : Int32)), (.ref a0)])) rfl rfl (hb hby d12_17) _ ?_
    show Steps p.tables e below (s₁.setTop (mkF m 18 L_1557 [(.long (-2 : Int64))])) _
    refine X0.ldc2Long hx hown (mvT hZ (own_m hw 10 rfl)) (g := (mkF m 18 L_1557 [(.long (-2 : Int64))])) rfl (hb hby d12_18) _ ?_
    refine XS.iloadN X0.here hx rfl (hb hby d12_21) rfl ?_
    refine XS.i2l X0.here hx rfl (hb hby d12_22) rfl ?_
    refine XS.lsub X0.here hx rfl (hb hby d12_23) rfl ?_
    refine XS.lcmp X0.here hx rfl (hb hby d12_24) rfl ?_
    refine XS.ifNo X0.here hx rfl (hb hby d12_25) rfl ((if0 _ _).trans (teq ((own_eq (-2 : Int64) (-2 : Int64)).mpr (rfl : (-2 : Int64) = (-2 : Int64)))).2) ?_
    show Steps p.tables e below (s₁.setTop (mkF m 28 L_1557 [])) _
    refine XS.aloadN X0.here hx rfl (hb hby d12_28) rfl rfl ?_
    refine XS.iloadN X0.here hx rfl (hb hby d12_29) rfl ?_
    show Steps p.tables e below (s₁.setTop (mkF m 30 L_1557 [(.int (1 : Int32)), (.ref a1)])) _
    refine X0.laload hx (j := (1 : Int32)) (v := (.long (-12 : Int64))) (by rw [e0]; exact Ar1561.1) (State.isArrayOf_alike hZ.alike Ar1561.2.1) Ar1561.2.2 hin1562 hat1563 (g := (mkF m 30 L_1557 [(.int (1 : Int32)), (.ref a1)])) rfl rfl (hb hby d12_30) _ ?_
    show Steps p.tables e below (s₁.setTop (mkF m 31 L_1557 [(.long (-12 : Int64))])) _
    refine X0.ldc2Long hx hown (mvT hZ (own_m hw 14 rfl)) (g := (mkF m 31 L_1557 [(.long (-12 : Int64))])) rfl (hb hby d12_31) _ ?_
    refine XS.iloadN X0.here hx rfl (hb hby d12_34) rfl ?_
    refine XS.i2l X0.here hx rfl (hb hby d12_35) rfl ?_
    refine XS.lsub X0.here hx rfl (hb hby d12_36) rfl ?_
    refine XS.lcmp X0.here hx rfl (hb hby d12_37) rfl ?_
    refine XS.ifNo X0.here hx rfl (hb hby d12_38) rfl ((if0 _ _).trans (teq ((own_eq (-12 : Int64) (-12 : Int64)).mpr (rfl : (-12 : Int64) = (-12 : Int64)))).2) ?_
    show Steps p.tables e below (s₁.setTop (mkF m 41 L_1557 [])) _
    refine XS.iconst X0.here hx rfl (hb hby d12_41) ?_
    refine XS.goto X0.here hx rfl (pc0 := 42) (pc' := 46) rfl (hb hby d12_42) (by decide) (by decide) ?_
    show Steps p.tables e below (s₁.setTop (mkF m 46 L_1557 [(.int (1 : Int32))])) _
    exact retN X0 hx (t := .boolean) Bd.returns (by simp) (hb hby d12_46) hr
  · show Q12_lo1 Z a0 a1 p3 p4 u0 u2 u3 x0 x2 x3 k_a0 k_a1 h0 n0 _ s₁.heap _
    rw [e0]
    exact ⟨rfl, N0, rfl⟩
theorem ef12_hi1 (m : MethodId) (x0 : Addr) (x1 : Addr) (x2 : Int32) (x3 : Int32) (x4 : Int32) : entryFrame m #[(.ref x0), (.ref x1), (.int x2), (.int x3), (.int x4)] 5 = mkF m 0 #[.val (.ref x0), .val (.ref x1), .val (.int x2), .val (.int x3), .val (.int x4)] [] := by first | (simp [entryFrame, mkF, argsToLocals, Value.category]; done) | rfl
abbrev rr12_hi1 : Room := { frames := 0, cells := 0, slots := 0, locals := 0 }
def Q12_hi1 (Z : State) (a0 : Addr) (a1 : Addr) (p3 : Int32) (p4 : Int32) (u0 : Int64) (u2 : Int64) (u3 : Int64) (x0 : Int64) (x2 : Int64) (x3 : Int64) (k_a0 : ClassId) (k_a1 : ClassId) (h0 : Heap) (n0 : Nat) (v : Option Value) (h : Heap) (L : List Loc) : Prop := v = some (.int (1 : Int32)) ∧ Fr n0 L ∧ h = h0
set_option maxRecDepth 65536 in
set_option maxHeartbeats 40000000 in
theorem rm12_hi1 (l : Launch) (Z : State) (aw : Array Value) (hw : ∀ d ∈ tables_1, d.before aw Z = true) (ws : List Jvm.Cond) (a0 : Addr) (a1 : Addr) (p3 : Int32) (p4 : Int32) (u0 : Int64) (u2 : Int64) (u3 : Int64) (x0 : Int64) (x2 : Int64) (x3 : Int64) (k_a0 : ClassId) (k_a1 : ClassId) (h0 : Heap) (n0 : Nat) (Z0 : n0 ≤ h0.size) (V_a0 : Arv Z h0 a0 k_a0 .long (4 : Int32) [(.long u0), (.long (-2 : Int64)), (.long u2), (.long u3)] (.long (0 : Int64))) (V_a1 : Arv Z h0 a1 k_a1 .long (4 : Int32) [(.long x0), (.long (-12 : Int64)), (.long x2), (.long x3)] (.long (0 : Int64))) (h1 : ¬ (1 : Int32) < p3) (h2 : ¬ (1 : Int32) < (p3 + p4)) :
    MetFree l (⟨"com/example/stowline/stowline/VolumeBoundCopyTotalsPinLaw", "untouched", "([J[JIII)Z"⟩ : MethodName) (head1 (Jvm.Cond.code (⟨"com/example/stowline/stowline/VolumeBoundCopyTotalsPinLaw", "untouched", "([J[JIII)Z"⟩ : MethodName) method_5_code 5 (some .boolean) :: ws) rr12_hi1) (fun a U => a = #[(.ref a0), (.ref a1), (.int (1 : Int32)), (.int p3), (.int p4)] ∧ Z.Warmed39 U.vm ∧ U.heap = h0) (fun _ _ _ _ _ => True) (fun _ U o U' => ∃ v L, o = .returned v ∧ Q12_hi1 Z a0 a1 p3 p4 u0 u2 u3 x0 x2 x3 k_a0 k_a1 h0 n0 v U'.heap L ∧ FrameEnd U o U' L rr12_hi1.cells rr12_hi1.slots) := by
  refine MetFree.of_bodySF (plainFor_of_name pn_4) hisR ?_
  intro p e s m args below meth c s₁ Bd hml0 hP hK
  obtain ⟨rfl, hZ, hh⟩ := hP
  have hx := Bd.exec
  have hby := Bd.bytes
  have hml : c.maxLocals = 5 := hml0
  have hown : s.vm.findClass "com/example/stowline/stowline/VolumeBoundCopyTotalsPinLaw" = some m.cls := findClass_of_methodNamed Bd.named
  have hnm := (name_of_methodNamed Bd.named Bd.method).1
  have X0 : Stand p l e rr12_hi1 s m #[(.ref a0), (.ref a1), (.int (1 : Int32)), (.int p3), (.int p4)] below meth c s₁ [] 0 0 := Stand.of_body Bd
  have e0 : s₁.heap = h0 := by rw [← hh, Bd.state]; rfl
  have N0 := Fr.nil n0
  have pre0 : ∀ t, Steps p.tables e below (s₁.setTop (mkF m 0 #[.val (.ref a0), .val (.ref a1), .val (.int (1 : Int32)), .val (.int p3), .val (.int p4)] [])) t → Steps p.tables e below (s₁.setTop (entryFrame m #[(.ref a0), (.ref a1), (.int (1 : Int32)), (.int p3), (.int p4)] 5)) t := fun t k => castTop (ef12_hi1 m a0 a1 (1 : Int32) p3 p4) k
  let L_1564 : Array Slot := #[.val (.ref a0), .val (.ref a1), .val (.int (1 : Int32)), .val (.int p3), .val (.int p4)]
  obtain ⟨cl1565, Ar1565, q1565, S1565, M1565, H1565, G1565⟩ := id V_a0
  have hin1566 : ¬ ((1 : Int32) < 0 ∨ cl1565.slots.size ≤ ((1 : Int32)).toNatClampNeg) := inb_of S1565 ⟨by decide, by decide⟩
  have hat1567 : cl1565.slots[((1 : Int32)).toNatClampNeg]? = some (.long (-2 : Int64)) := H1565.at hin1566 rfl
  obtain ⟨cl1568, Ar1568, q1568, S1568, M1568, H1568, G1568⟩ := id V_a1
  have hin1569 : ¬ ((1 : Int32) < 0 ∨ cl1568.slots.size ≤ ((1 : Int32)).toNatClampNeg) := inb_of S1568 ⟨by decide, by decide⟩
  have hat1570 : cl1568.slots[((1 : Int32)).toNatClampNeg]? = some (.long (-12 : Int64)) := H1568.at hin1569 rfl
  obtain ⟨fs, hr, hrun, hended, hW, hsame⟩ := X0.leave (v := some (.int (1 : Int32))) (fun h => by rw [Bd.returns] at h; cases h)
  refine ⟨_, _, pre0 _ ?_, hrun, hended, _, _, rfl, ?_, ⟨_, rfl⟩, hW, hsame.mono (by decide) (by decide)⟩
  · skip
    show Steps p.tables e below (s₁.setTop (mkF m 0 L_1564 [])) _
    refine XS.iloadN X0.here hx rfl (hb hby d12_0) rfl ?_
    refine XS.iloadN X0.here hx rfl (hb hby d12_1) rfl ?_
    refine XS.icmpNo X0.here hx rfl (hb hby d12_2) rfl (flt h1).1 ?_
    refine XS.iloadN X0.here hx rfl (hb hby d12_5) rfl ?_
    refine XS.iloadN X0.here hx rfl (hb hby d12_6) rfl ?_
    refine XS.iload X0.here hx rfl (hb hby d12_7) rfl ?_
    show Steps p.tables e below (s₁.setTop (mkF m 9 L_1564 [(.int p4), (.int p3), (.int (1 : Int32))])) _
    refine XS.iadd X0.here hx rfl (hb hby d12_9) rfl ?_
    refine XS.icmpYes X0.here hx rfl (pc0 := 10) (pc' := 15) rfl (hb hby d12_10) rfl (flt h2).2.1 (by decide) (by decide) ?_
    refine XS.aloadN X0.here hx rfl (hb hby d12_15) rfl rfl ?_
    refine XS.iloadN X0.here hx rfl (hb hby d12_16) rfl ?_
    show Steps p.tables e below (s₁.setTop (mkF m 17 L_1564 [(.int (1 : Int32)), (.ref a0)])) _
    refine X0.laload hx (j := (1 : Int32)) (v := (.long (-2 : Int64))) (by rw [e0]; exact Ar1565.1) (State.isArrayOf_alike hZ.alike Ar1565.2.1) Ar1565.2.2 hin1566 hat1567 (g := (mkF m 17 L_1564 [(.int (1 : Int32)), (.ref a0)])) rfl rfl (hb hby d12_17) _ ?_
    show Steps p.tables e below (s₁.setTop (mkF m 18 L_1564 [(.long (-2 : Int64))])) _
    refine X0.ldc2Long hx hown (mvT hZ (own_m hw 10 rfl)) (g := (mkF m 18 L_1564 [(.long (-2 : Int64))])) rfl (hb hby d12_18) _ ?_
    refine XS.iloadN X0.here hx rfl (hb hby d12_21) rfl ?_
    refine XS.i2l X0.here hx rfl (hb hby d12_22) rfl ?_
    refine XS.lsub X0.here hx rfl (hb hby d12_23) rfl ?_
    refine XS.lcmp X0.here hx rfl (hb hby d12_24) rfl ?_
    refine XS.ifNo X0.here hx rfl (hb hby d12_25) rfl ((if0 _ _).trans (teq ((own_eq (-2 : Int64) (-2 : Int64)).mpr (rfl : (-2 : Int64) = (-2 : Int64)))).2) ?_
    show Steps p.tables e below (s₁.setTop (mkF m 28 L_1564 [])) _
    refine XS.aloadN X0.here hx rfl (hb hby d12_28) rfl rfl ?_
    refine XS.iloadN X0.here hx rfl (hb hby d12_29) rfl ?_
    show Steps p.tables e below (s₁.setTop (mkF m 30 L_1564 [(.int (1 : Int32)), (.ref a1)])) _
    refine X0.laload hx (j := (1 : Int32)) (v := (.long (-12 : Int64))) (by rw [e0]; exact Ar1568.1) (State.isArrayOf_alike hZ.alike Ar1568.2.1) Ar1568.2.2 hin1569 hat1570 (g := (mkF m 30 L_1564 [(.int (1 : Int32)), (.ref a1)])) rfl rfl (hb hby d12_30) _ ?_
    show Steps p.tables e below (s₁.setTop (mkF m 31 L_1564 [(.long (-12 : Int64))])) _
    refine X0.ldc2Long hx hown (mvT hZ (own_m hw 14 rfl)) (g := (mkF m 31 L_1564 [(.long (-12 : Int64))])) rfl (hb hby d12_31) _ ?_
    refine XS.iloadN X0.here hx rfl (hb hby d12_34) rfl ?_
    refine XS.i2l X0.here hx rfl (hb hby d12_35) rfl ?_
    refine XS.lsub X0.here hx rfl (hb hby d12_36) rfl ?_
    refine XS.lcmp X0.here hx rfl (hb hby d12_37) rfl ?_
    refine XS.ifNo X0.here hx rfl (hb hby d12_38) rfl ((if0 _ _).trans (teq ((own_eq (-12 : Int64) (-12 : Int64)).mpr (rfl : (-12 : Int64) = (-12 : Int64)))).2) ?_
    show Steps p.tables e below (s₁.setTop (mkF m 41 L_1564 [])) _
    refine XS.iconst X0.here hx rfl (hb hby d12_41) ?_
    refine XS.goto X0.here hx rfl (pc0 := 42) (pc' := 46) rfl (hb hby d12_42) (by decide) (by decide) ?_
    show Steps p.tables e below (s₁.setTop (mkF m 46 L_1564 [(.int (1 : Int32))])) _
    exact retN X0 hx (t := .boolean) Bd.returns (by simp) (hb hby d12_46) hr
  · show Q12_hi1 Z a0 a1 p3 p4 u0 u2 u3 x0 x2 x3 k_a0 k_a1 h0 n0 _ s₁.heap _
    rw [e0]
    exact ⟨rfl, N0, rfl⟩
theorem ef12_lo2 (m : MethodId) (x0 : Addr) (x1 : Addr) (x2 : Int32) (x3 : Int32) (x4 : Int32) : entryFrame m #[(.ref x0), (.ref x1), (.int x2), (.int x3), (.int x4)] 5 = mkF m 0 #[.val (.ref x0), .val (.ref x1), .val (.int x2), .val (.int x3), .val (.int x4)] [] := by first | (simp [entryFrame, mkF, argsToLocals, Value.category]; done) | rfl
abbrev rr12_lo2 : Room := { frames := 0, cells := 0, slots := 0, locals := 0 }
def Q12_lo2 (Z : State) (a0 : Addr) (a1 : Addr) (p3 : Int32) (p4 : Int32) (u0 : Int64) (u1 : Int64) (u3 : Int64) (x0 : Int64) (x1 : Int64) (x3 : Int64) (k_a0 : ClassId) (k_a1 : ClassId) (h0 : Heap) (n0 : Nat) (v : Option Value) (h : Heap) (L : List Loc) : Prop := v = some (.int (1 : Int32)) ∧ Fr n0 L ∧ h = h0
set_option maxRecDepth 65536 in
set_option maxHeartbeats 40000000 in
theorem rm12_lo2 (l : Launch) (Z : State) (aw : Array Value) (hw : ∀ d ∈ tables_1, d.before aw Z = true) (ws : List Jvm.Cond) (a0 : Addr) (a1 : Addr) (p3 : Int32) (p4 : Int32) (u0 : Int64) (u1 : Int64) (u3 : Int64) (x0 : Int64) (x1 : Int64) (x3 : Int64) (k_a0 : ClassId) (k_a1 : ClassId) (h0 : Heap) (n0 : Nat) (Z0 : n0 ≤ h0.size) (V_a0 : Arv Z h0 a0 k_a0 .long (4 : Int32) [(.long u0), (.long u1), (.long (-3 : Int64)), (.long u3)] (.long (0 : Int64))) (V_a1 : Arv Z h0 a1 k_a1 .long (4 : Int32) [(.long x0), (.long x1), (.long (-13 : Int64)), (.long x3)] (.long (0 : Int64))) (h1 : (2 : Int32) < p3) :
    MetFree l (⟨"com/example/stowline/stowline/VolumeBoundCopyTotalsPinLaw", "untouched", "([J[JIII)Z"⟩ : MethodName) (head1 (Jvm.Cond.code (⟨"com/example/stowline/stowline/VolumeBoundCopyTotalsPinLaw", "untouched", "([J[JIII)Z"⟩ : MethodName) method_5_code 5 (some .boolean) :: ws) rr12_lo2) (fun a U => a = #[(.ref a0), (.ref a1), (.int (2 : Int32)), (.int p3), (.int p4)] ∧ Z.Warmed39 U.vm ∧ U.heap = h0) (fun _ _ _ _ _ => True) (fun _ U o U' => ∃ v L, o = .returned v ∧ Q12_lo2 Z a0 a1 p3 p4 u0 u1 u3 x0 x1 x3 k_a0 k_a1 h0 n0 v U'.heap L ∧ FrameEnd U o U' L rr12_lo2.cells rr12_lo2.slots) := by
  refine MetFree.of_bodySF (plainFor_of_name pn_4) hisR ?_
  intro p e s m args below meth c s₁ Bd hml0 hP hK
  obtain ⟨rfl, hZ, hh⟩ := hP
  have hx := Bd.exec
  have hby := Bd.bytes
  have hml : c.maxLocals = 5 := hml0
  have hown : s.vm.findClass "com/example/stowline/stowline/VolumeBoundCopyTotalsPinLaw" = some m.cls := findClass_of_methodNamed Bd.named
  have hnm := (name_of_methodNamed Bd.named Bd.method).1
  have X0 : Stand p l e rr12_lo2 s m #[(.ref a0), (.ref a1), (.int (2 : Int32)), (.int p3), (.int p4)] below meth c s₁ [] 0 0 := Stand.of_body Bd
  have e0 : s₁.heap = h0 := by rw [← hh, Bd.state]; rfl
  have N0 := Fr.nil n0
  have pre0 : ∀ t, Steps p.tables e below (s₁.setTop (mkF m 0 #[.val (.ref a0), .val (.ref a1), .val (.int (2 : Int32)), .val (.int p3), .val (.int p4)] [])) t → Steps p.tables e below (s₁.setTop (entryFrame m #[(.ref a0), (.ref a1), (.int (2 : Int32)), (.int p3), (.int p4)] 5)) t := fun t k => castTop (ef12_lo2 m a0 a1 (2 : Int32) p3 p4) k
  let L_1571 : Array Slot := #[.val (.ref a0), .val (.ref a1), .val (.int (2 : Int32)), .val (.int p3), .val (.int p4)]
  obtain ⟨cl1572, Ar1572, q1572, S1572, M1572, H1572, G1572⟩ := id V_a0
  have hin1573 : ¬ ((2 : Int32) < 0 ∨ cl1572.slots.size ≤ ((2 : Int32)).toNatClampNeg) := inb_of S1572 ⟨by decide, by decide⟩
  have hat1574 : cl1572.slots[((2 : Int32)).toNatClampNeg]? = some (.long (-3 : Int64)) := H1572.at hin1573 rfl
  obtain ⟨cl1575, Ar1575, q1575, S1575, M1575, H1575, G1575⟩ := id V_a1
  have hin1576 : ¬ ((2 : Int32) < 0 ∨ cl1575.slots.size ≤ ((2 : Int32)).toNatClampNeg) := inb_of S1575 ⟨by decide, by decide⟩
  have hat1577 : cl1575.slots[((2 : Int32)).toNatClampNeg]? = some (.long (-13 : Int64)) := H1575.at hin1576 rfl
  obtain ⟨fs, hr, hrun, hended, hW, hsame⟩ := X0.leave (v := some (.int (1 : Int32))) (fun h => by rw [Bd.returns] at h; cases h)
  refine ⟨_, _, pre0 _ ?_, hrun, hended, _, _, rfl, ?_, ⟨_, rfl⟩, hW, hsame.mono (by decide) (by decide)⟩
  · skip
    show Steps p.tables e below (s₁.setTop (mkF m 0 L_1571 [])) _
    refine XS.iloadN X0.here hx rfl (hb hby d12_0) rfl ?_
    refine XS.iloadN X0.here hx rfl (hb hby d12_1) rfl ?_
    refine XS.icmpYes X0.here hx rfl (pc0 := 2) (pc' := 15) rfl (hb hby d12_2) rfl (tlt h1).1 (by decide) (by decide) ?_
    refine XS.aloadN X0.here hx rfl (hb hby d12_15) rfl rfl ?_
    refine XS.iloadN X0.here hx rfl (hb hby d12_16) rfl ?_
    show Steps p.tables e below (s₁.setTop (mkF m 17 L_1571 [(.int (2 : Int32)), (.ref a0)])) _
    refine X0.laload hx (j := (2 : Int32)) (v := (.long (-3 : Int64))) (by rw [e0]; exact Ar1572.1) (State.isArrayOf_alike hZ.alike Ar1572.2.1) Ar1572.2.2 hin1573 hat1574 (g := (mkF m 17 L_1571 [(.int (2 : Int32)), (.ref a0)])) rfl rfl (hb hby d12_17) _ ?_
    show Steps p.tables e below (s₁.setTop (mkF m 18 L_1571 [(.long (-3 : Int64))])) _
    refine X0.ldc2Long hx hown (mvT hZ (own_m hw 10 rfl)) (g := (mkF m 18 L_1571 [(.long (-3 : Int64))])) rfl (hb hby d12_18) _ ?_
    refine XS.iloadN X0.here hx rfl (hb hby d12_21) rfl ?_
    refine XS.i2l X0.here hx rfl (hb hby d12_22) rfl ?_
    refine XS.lsub X0.here hx rfl (hb hby d12_23) rfl ?_
    refine XS.lcmp X0.here hx rfl (hb hby d12_24) rfl ?_
    refine XS.ifNo X0.here hx rfl (hb hby d12_25) rfl ((if0 _ _).trans (teq ((own_eq (-3 : Int64) (-3 : Int64)).mpr (rfl : (-3 : Int64) = (-3 : Int64)))).2) ?_
    show Steps p.tables e below (s₁.setTop (mkF m 28 L_1571 [])) _
    refine XS.aloadN X0.here hx rfl (hb hby d12_28) rfl rfl ?_
    refine XS.iloadN X0.here hx rfl (hb hby d12_29) rfl ?_
    show Steps p.tables e below (s₁.setTop (mkF m 30 L_1571 [(.int (2 : Int32)), (.ref a1)])) _
    refine X0.laload hx (j := (2 : Int32)) (v := (.long (-13 : Int64))) (by rw [e0]; exact Ar1575.1) (State.isArrayOf_alike hZ.alike Ar1575.2.1) Ar1575.2.2 hin1576 hat1577 (g := (mkF m 30 L_1571 [(.int (2 : Int32)), (.ref a1)])) rfl rfl (hb hby d12_30) _ ?_
    show Steps p.tables e below (s₁.setTop (mkF m 31 L_1571 [(.long (-13 : Int64))])) _
    refine X0.ldc2Long hx hown (mvT hZ (own_m hw 14 rfl)) (g := (mkF m 31 L_1571 [(.long (-13 : Int64))])) rfl (hb hby d12_31) _ ?_
    refine XS.iloadN X0.here hx rfl (hb hby d12_34) rfl ?_
    refine XS.i2l X0.here hx rfl (hb hby d12_35) rfl ?_
    refine XS.lsub X0.here hx rfl (hb hby d12_36) rfl ?_
    refine XS.lcmp X0.here hx rfl (hb hby d12_37) rfl ?_
    refine XS.ifNo X0.here hx rfl (hb hby d12_38) rfl ((if0 _ _).trans (teq ((own_eq (-13 : Int64) (-13 : Int64)).mpr (rfl : (-13 : Int64) = (-13 : Int64)))).2) ?_
    show Steps p.tables e below (s₁.setTop (mkF m 41 L_1571 [])) _
    refine XS.iconst X0.here hx rfl (hb hby d12_41) ?_
    refine XS.goto X0.here hx rfl (pc0 := 42) (pc' := 46) rfl (hb hby d12_42) (by decide) (by decide) ?_
    show Steps p.tables e below (s₁.setTop (mkF m 46 L_1571 [(.int (1 : Int32))])) _
    exact retN X0 hx (t := .boolean) Bd.returns (by simp) (hb hby d12_46) hr
  · show Q12_lo2 Z a0 a1 p3 p4 u0 u1 u3 x0 x1 x3 k_a0 k_a1 h0 n0 _ s₁.heap _
    rw [e0]
    exact ⟨rfl, N0, rfl⟩
theorem ef12_hi2 (m : MethodId) (x0 : Addr) (x1 : Addr) (x2 : Int32) (x3 : Int32) (x4 : Int32) : entryFrame m #[(.ref x0), (.ref x1), (.int x2), (.int x3), (.int x4)] 5 = mkF m 0 #[.val (.ref x0), .val (.ref x1), .val (.int x2), .val (.int x3), .val (.int x4)] [] := by first | (simp [entryFrame, mkF, argsToLocals, Value.category]; done) | rfl
abbrev rr12_hi2 : Room := { frames := 0, cells := 0, slots := 0, locals := 0 }
def Q12_hi2 (Z : State) (a0 : Addr) (a1 : Addr) (p3 : Int32) (p4 : Int32) (u0 : Int64) (u1 : Int64) (u3 : Int64) (x0 : Int64) (x1 : Int64) (x3 : Int64) (k_a0 : ClassId) (k_a1 : ClassId) (h0 : Heap) (n0 : Nat) (v : Option Value) (h : Heap) (L : List Loc) : Prop := v = some (.int (1 : Int32)) ∧ Fr n0 L ∧ h = h0
set_option maxRecDepth 65536 in
set_option maxHeartbeats 40000000 in
theorem rm12_hi2 (l : Launch) (Z : State) (aw : Array Value) (hw : ∀ d ∈ tables_1, d.before aw Z = true) (ws : List Jvm.Cond) (a0 : Addr) (a1 : Addr) (p3 : Int32) (p4 : Int32) (u0 : Int64) (u1 : Int64) (u3 : Int64) (x0 : Int64) (x1 : Int64) (x3 : Int64) (k_a0 : ClassId) (k_a1 : ClassId) (h0 : Heap) (n0 : Nat) (Z0 : n0 ≤ h0.size) (V_a0 : Arv Z h0 a0 k_a0 .long (4 : Int32) [(.long u0), (.long u1), (.long (-3 : Int64)), (.long u3)] (.long (0 : Int64))) (V_a1 : Arv Z h0 a1 k_a1 .long (4 : Int32) [(.long x0), (.long x1), (.long (-13 : Int64)), (.long x3)] (.long (0 : Int64))) (h1 : ¬ (2 : Int32) < p3) (h2 : ¬ (2 : Int32) < (p3 + p4)) :
    MetFree l (⟨"com/example/stowline/stowline/VolumeBoundCopyTotalsPinLaw", "untouched", "([J[JIII)Z"⟩ : MethodName) (head1 (Jvm.Cond.code (⟨"com/example/stowline/stowline/VolumeBoundCopyTotalsPinLaw", "untouched", "([J[JIII)Z"⟩ : MethodName) method_5_code 5 (some .boolean) :: ws) rr12_hi2) (fun a U => a = #[(.ref a0), (.ref a1), (.int (2 : Int32)), (.int p3), (.int p4)] ∧ Z.Warmed39 U.vm ∧ U.heap = h0) (fun _ _ _ _ _ => True) (fun _ U o U' => ∃ v L, o = .returned v ∧ Q12_hi2 Z a0 a1 p3 p4 u0 u1 u3 x0 x1 x3 k_a0 k_a1 h0 n0 v U'.heap L ∧ FrameEnd U o U' L rr12_hi2.cells rr12_hi2.slots) := by
  refine MetFree.of_bodySF (plainFor_of_name pn_4) hisR ?_
  intro p e s m args below meth c s₁ Bd hml0 hP hK
  obtain ⟨rfl, hZ, hh⟩ := hP
  have hx := Bd.exec
  have hby := Bd.bytes
  have hml : c.maxLocals = 5 := hml0
  have hown : s.vm.findClass "com/example/stowline/stowline/VolumeBoundCopyTotalsPinLaw" = some m.cls := findClass_of_methodNamed Bd.named
  have hnm := (name_of_methodNamed Bd.named Bd.method).1
  have X0 : Stand p l e rr12_hi2 s m #[(.ref a0), (.ref a1), (.int (2 : Int32)), (.int p3), (.int p4)] below meth c s₁ [] 0 0 := Stand.of_body Bd
  have e0 : s₁.heap = h0 := by rw [← hh, Bd.state]; rfl
  have N0 := Fr.nil n0
  have pre0 : ∀ t, Steps p.tables e below (s₁.setTop (mkF m 0 #[.val (.ref a0), .val (.ref a1), .val (.int (2 : Int32)), .val (.int p3), .val (.int p4)] [])) t → Steps p.tables e below (s₁.setTop (entryFrame m #[(.ref a0), (.ref a1), (.int (2 : Int32)), (.int p3), (.int p4)] 5)) t := fun t k => castTop (ef12_hi2 m a0 a1 (2 : Int32) p3 p4) k
  let L_1578 : Array Slot := #[.val (.ref a0), .val (.ref a1), .val (.int (2 : Int32)), .val (.int p3), .val (.int p4)]
  obtain ⟨cl1579, Ar1579, q1579, S1579, M1579, H1579, G1579⟩ := id V_a0
  have hin1580 : ¬ ((2 : Int32) < 0 ∨ cl1579.slots.size ≤ ((2 : Int32)).toNatClampNeg) := inb_of S1579 ⟨by decide, by decide⟩
  have hat1581 : cl1579.slots[((2 : Int32)).toNatClampNeg]? = some (.long (-3 : Int64)) := H1579.at hin1580 rfl
  obtain ⟨cl1582, Ar1582, q1582, S1582, M1582, H1582, G1582⟩ := id V_a1
  have hin1583 : ¬ ((2 : Int32) < 0 ∨ cl1582.slots.size ≤ ((2 : Int32)).toNatClampNeg) := inb_of S1582 ⟨by decide, by decide⟩
  have hat1584 : cl1582.slots[((2 : Int32)).toNatClampNeg]? = some (.long (-13 : Int64)) := H1582.at hin1583 rfl
  obtain ⟨fs, hr, hrun, hended, hW, hsame⟩ := X0.leave (v := some (.int (1 : Int32))) (fun h => by rw [Bd.returns] at h; cases h)
  refine ⟨_, _, pre0 _ ?_, hrun, hended, _, _, rfl, ?_, ⟨_, rfl⟩, hW, hsame.mono (by decide) (by decide)⟩
  · skip
    show Steps p.tables e below (s₁.setTop (mkF m 0 L_1578 [])) _
    refine XS.iloadN X0.here hx rfl (hb hby d12_0) rfl ?_
    refine XS.iloadN X0.here hx rfl (hb hby d12_1) rfl ?_
    refine XS.icmpNo X0.here hx rfl (hb hby d12_2) rfl (flt h1).1 ?_
    refine XS.iloadN X0.here hx rfl (hb hby d12_5) rfl ?_
    refine XS.iloadN X0.here hx rfl (hb hby d12_6) rfl ?_
    refine XS.iload X0.here hx rfl (hb hby d12_7) rfl ?_
    show Steps p.tables e below (s₁.setTop (mkF m 9 L_1578 [(.int p4), (.int p3), (.int (2 : Int32))])) _
    refine XS.iadd X0.here hx rfl (hb hby d12_9) rfl ?_
    refine XS.icmpYes X0.here hx rfl (pc0 := 10) (pc' := 15) rfl (hb hby d12_10) rfl (flt h2).2.1 (by decide) (by decide) ?_
    refine XS.aloadN X0.here hx rfl (hb hby d12_15) rfl rfl ?_
    refine XS.iloadN X0.here hx rfl (hb hby d12_16) rfl ?_
    show Steps p.tables e below (s₁.setTop (mkF m 17 L_1578 [(.int (2 : Int32)), (.ref a0)])) _
    refine X0.laload hx (j := (2 : Int32)) (v := (.long (-3 : Int64))) (by rw [e0]; exact Ar1579.1) (State.isArrayOf_alike hZ.alike Ar1579.2.1) Ar1579.2.2 hin1580 hat1581 (g := (mkF m 17 L_1578 [(.int (2 : Int32)), (.ref a0)])) rfl rfl (hb hby d12_17) _ ?_
    show Steps p.tables e below (s₁.setTop (mkF m 18 L_1578 [(.long (-3 : Int64))])) _
    refine X0.ldc2Long hx hown (mvT hZ (own_m hw 10 rfl)) (g := (mkF m 18 L_1578 [(.long (-3 : Int64))])) rfl (hb hby d12_18) _ ?_
    refine XS.iloadN X0.here hx rfl (hb hby d12_21) rfl ?_
    refine XS.i2l X0.here hx rfl (hb hby d12_22) rfl ?_
    refine XS.lsub X0.here hx rfl (hb hby d12_23) rfl ?_
    refine XS.lcmp X0.here hx rfl (hb hby d12_24) rfl ?_
    refine XS.ifNo X0.here hx rfl (hb hby d12_25) rfl ((if0 _ _).trans (teq ((own_eq (-3 : Int64) (-3 : Int64)).mpr (rfl : (-3 : Int64) = (-3 : Int64)))).2) ?_
    show Steps p.tables e below (s₁.setTop (mkF m 28 L_1578 [])) _
    refine XS.aloadN X0.here hx rfl (hb hby d12_28) rfl rfl ?_
    refine XS.iloadN X0.here hx rfl (hb hby d12_29) rfl ?_
    show Steps p.tables e below (s₁.setTop (mkF m 30 L_1578 [(.int (2 : Int32)), (.ref a1)])) _
    refine X0.laload hx (j := (2 : Int32)) (v := (.long (-13 : Int64))) (by rw [e0]; exact Ar1582.1) (State.isArrayOf_alike hZ.alike Ar1582.2.1) Ar1582.2.2 hin1583 hat1584 (g := (mkF m 30 L_1578 [(.int (2 : Int32)), (.ref a1)])) rfl rfl (hb hby d12_30) _ ?_
    show Steps p.tables e below (s₁.setTop (mkF m 31 L_1578 [(.long (-13 : Int64))])) _
    refine X0.ldc2Long hx hown (mvT hZ (own_m hw 14 rfl)) (g := (mkF m 31 L_1578 [(.long (-13 : Int64))])) rfl (hb hby d12_31) _ ?_
    refine XS.iloadN X0.here hx rfl (hb hby d12_34) rfl ?_
    refine XS.i2l X0.here hx rfl (hb hby d12_35) rfl ?_
    refine XS.lsub X0.here hx rfl (hb hby d12_36) rfl ?_
    refine XS.lcmp X0.here hx rfl (hb hby d12_37) rfl ?_
    refine XS.ifNo X0.here hx rfl (hb hby d12_38) rfl ((if0 _ _).trans (teq ((own_eq (-13 : Int64) (-13 : Int64)).mpr (rfl : (-13 : Int64) = (-13 : Int64)))).2) ?_
    show Steps p.tables e below (s₁.setTop (mkF m 41 L_1578 [])) _
    refine XS.iconst X0.here hx rfl (hb hby d12_41) ?_
    refine XS.goto X0.here hx rfl (pc0 := 42) (pc' := 46) rfl (hb hby d12_42) (by decide) (by decide) ?_
    show Steps p.tables e below (s₁.setTop (mkF m 46 L_1578 [(.int (1 : Int32))])) _
    exact retN X0 hx (t := .boolean) Bd.returns (by simp) (hb hby d12_46) hr
  · show Q12_hi2 Z a0 a1 p3 p4 u0 u1 u3 x0 x1 x3 k_a0 k_a1 h0 n0 _ s₁.heap _
    rw [e0]
    exact ⟨rfl, N0, rfl⟩
theorem ef12_lo3 (m : MethodId) (x0 : Addr) (x1 : Addr) (x2 : Int32) (x3 : Int32) (x4 : Int32) : entryFrame m #[(.ref x0), (.ref x1), (.int x2), (.int x3), (.int x4)] 5 = mkF m 0 #[.val (.ref x0), .val (.ref x1), .val (.int x2), .val (.int x3), .val (.int x4)] [] := by first | (simp [entryFrame, mkF, argsToLocals, Value.category]; done) | rfl
abbrev rr12_lo3 : Room := { frames := 0, cells := 0, slots := 0, locals := 0 }
def Q12_lo3 (Z : State) (a0 : Addr) (a1 : Addr) (p3 : Int32) (p4 : Int32) (u0 : Int64) (u1 : Int64) (u2 : Int64) (x0 : Int64) (x1 : Int64) (x2 : Int64) (k_a0 : ClassId) (k_a1 : ClassId) (h0 : Heap) (n0 : Nat) (v : Option Value) (h : Heap) (L : List Loc) : Prop := v = some (.int (1 : Int32)) ∧ Fr n0 L ∧ h = h0
set_option maxRecDepth 65536 in
set_option maxHeartbeats 40000000 in
theorem rm12_lo3 (l : Launch) (Z : State) (aw : Array Value) (hw : ∀ d ∈ tables_1, d.before aw Z = true) (ws : List Jvm.Cond) (a0 : Addr) (a1 : Addr) (p3 : Int32) (p4 : Int32) (u0 : Int64) (u1 : Int64) (u2 : Int64) (x0 : Int64) (x1 : Int64) (x2 : Int64) (k_a0 : ClassId) (k_a1 : ClassId) (h0 : Heap) (n0 : Nat) (Z0 : n0 ≤ h0.size) (V_a0 : Arv Z h0 a0 k_a0 .long (4 : Int32) [(.long u0), (.long u1), (.long u2), (.long (-4 : Int64))] (.long (0 : Int64))) (V_a1 : Arv Z h0 a1 k_a1 .long (4 : Int32) [(.long x0), (.long x1), (.long x2), (.long (-14 : Int64))] (.long (0 : Int64))) (h1 : (3 : Int32) < p3) :
    MetFree l (⟨"com/example/stowline/stowline/VolumeBoundCopyTotalsPinLaw", "untouched", "([J[JIII)Z"⟩ : MethodName) (head1 (Jvm.Cond.code (⟨"com/example/stowline/stowline/VolumeBoundCopyTotalsPinLaw", "untouched", "([J[JIII)Z"⟩ : MethodName) method_5_code 5 (some .boolean) :: ws) rr12_lo3) (fun a U => a = #[(.ref a0), (.ref a1), (.int (3 : Int32)), (.int p3), (.int p4)] ∧ Z.Warmed39 U.vm ∧ U.heap = h0) (fun _ _ _ _ _ => True) (fun _ U o U' => ∃ v L, o = .returned v ∧ Q12_lo3 Z a0 a1 p3 p4 u0 u1 u2 x0 x1 x2 k_a0 k_a1 h0 n0 v U'.heap L ∧ FrameEnd U o U' L rr12_lo3.cells rr12_lo3.slots) := by
  refine MetFree.of_bodySF (plainFor_of_name pn_4) hisR ?_
  intro p e s m args below meth c s₁ Bd hml0 hP hK
  obtain ⟨rfl, hZ, hh⟩ := hP
  have hx := Bd.exec
  have hby := Bd.bytes
  have hml : c.maxLocals = 5 := hml0
  have hown : s.vm.findClass "com/example/stowline/stowline/VolumeBoundCopyTotalsPinLaw" = some m.cls := findClass_of_methodNamed Bd.named
  have hnm := (name_of_methodNamed Bd.named Bd.method).1
  have X0 : Stand p l e rr12_lo3 s m #[(.ref a0), (.ref a1), (.int (3 : Int32)), (.int p3), (.int p4)] below meth c s₁ [] 0 0 := Stand.of_body Bd
  have e0 : s₁.heap = h0 := by rw [← hh, Bd.state]; rfl
  have N0 := Fr.nil n0
  have pre0 : ∀ t, Steps p.tables e below (s₁.setTop (mkF m 0 #[.val (.ref a0), .val (.ref a1), .val (.int (3 : Int32)), .val (.int p3), .val (.int p4)] [])) t → Steps p.tables e below (s₁.setTop (entryFrame m #[(.ref a0), (.ref a1), (.int (3 : Int32)), (.int p3), (.int p4)] 5)) t := fun t k => castTop (ef12_lo3 m a0 a1 (3 : Int32) p3 p4) k
  let L_1585 : Array Slot := #[.val (.ref a0), .val (.ref a1), .val (.int (3 : Int32)), .val (.int p3), .val (.int p4)]
  obtain ⟨cl1586, Ar1586, q1586, S1586, M1586, H1586, G1586⟩ := id V_a0
  have hin1587 : ¬ ((3 : Int32) < 0 ∨ cl1586.slots.size ≤ ((3 : Int32)).toNatClampNeg) := inb_of S1586 ⟨by decide, by decide⟩
  have hat1588 : cl1586.slots[((3 : Int32)).toNatClampNeg]? = some (.long (-4 : Int64)) := H1586.at hin1587 rfl
  obtain ⟨cl1589, Ar1589, q1589, S1589, M1589, H1589, G1589⟩ := id V_a1
  have hin1590 : ¬ ((3 : Int32) < 0 ∨ cl1589.slots.size ≤ ((3 : Int32)).toNatClampNeg) := inb_of S1589 ⟨by decide, by decide⟩
  have hat1591 : cl1589.slots[((3 : Int32)).toNatClampNeg]? = some (.long (-14 : Int64)) := H1589.at hin1590 rfl
  obtain ⟨fs, hr, hrun, hended, hW, hsame⟩ := X0.leave (v := some (.int (1 : Int32))) (fun h => by rw [Bd.returns] at h; cases h)
  refine ⟨_, _, pre0 _ ?_, hrun, hended, _, _, rfl, ?_, ⟨_, rfl⟩, hW, hsame.mono (by decide) (by decide)⟩
  · skip
    show Steps p.tables e below (s₁.setTop (mkF m 0 L_1585 [])) _
    refine XS.iloadN X0.here hx rfl (hb hby d12_0) rfl ?_
    refine XS.iloadN X0.here hx rfl (hb hby d12_1) rfl ?_
    refine XS.icmpYes X0.here hx rfl (pc0 := 2) (pc' := 15) rfl (hb hby d12_2) rfl (tlt h1).1 (by decide) (by decide) ?_
    refine XS.aloadN X0.here hx rfl (hb hby d12_15) rfl rfl ?_
    refine XS.iloadN X0.here hx rfl (hb hby d12_16) rfl ?_
    show Steps p.tables e below (s₁.setTop (mkF m 17 L_1585 [(.int (3 : Int32)), (.ref a0)])) _
    refine X0.laload hx (j := (3 : Int32)) (v := (.long (-4 : Int64))) (by rw [e0]; exact Ar1586.1) (State.isArrayOf_alike hZ.alike Ar1586.2.1) Ar1586.2.2 hin1587 hat1588 (g := (mkF m 17 L_1585 [(.int (3 : Int32)), (.ref a0)])) rfl rfl (hb hby d12_17) _ ?_
    show Steps p.tables e below (s₁.setTop (mkF m 18 L_1585 [(.long (-4 : Int64))])) _
    refine X0.ldc2Long hx hown (mvT hZ (own_m hw 10 rfl)) (g := (mkF m 18 L_1585 [(.long (-4 : Int64))])) rfl (hb hby d12_18) _ ?_
    refine XS.iloadN X0.here hx rfl (hb hby d12_21) rfl ?_
    refine XS.i2l X0.here hx rfl (hb hby d12_22) rfl ?_
    refine XS.lsub X0.here hx rfl (hb hby d12_23) rfl ?_
    refine XS.lcmp X0.here hx rfl (hb hby d12_24) rfl ?_
    refine XS.ifNo X0.here hx rfl (hb hby d12_25) rfl ((if0 _ _).trans (teq ((own_eq (-4 : Int64) (-4 : Int64)).mpr (rfl : (-4 : Int64) = (-4 : Int64)))).2) ?_
    show Steps p.tables e below (s₁.setTop (mkF m 28 L_1585 [])) _
    refine XS.aloadN X0.here hx rfl (hb hby d12_28) rfl rfl ?_
    refine XS.iloadN X0.here hx rfl (hb hby d12_29) rfl ?_
    show Steps p.tables e below (s₁.setTop (mkF m 30 L_1585 [(.int (3 : Int32)), (.ref a1)])) _
    refine X0.laload hx (j := (3 : Int32)) (v := (.long (-14 : Int64))) (by rw [e0]; exact Ar1589.1) (State.isArrayOf_alike hZ.alike Ar1589.2.1) Ar1589.2.2 hin1590 hat1591 (g := (mkF m 30 L_1585 [(.int (3 : Int32)), (.ref a1)])) rfl rfl (hb hby d12_30) _ ?_
    show Steps p.tables e below (s₁.setTop (mkF m 31 L_1585 [(.long (-14 : Int64))])) _
    refine X0.ldc2Long hx hown (mvT hZ (own_m hw 14 rfl)) (g := (mkF m 31 L_1585 [(.long (-14 : Int64))])) rfl (hb hby d12_31) _ ?_
    refine XS.iloadN X0.here hx rfl (hb hby d12_34) rfl ?_
    refine XS.i2l X0.here hx rfl (hb hby d12_35) rfl ?_
    refine XS.lsub X0.here hx rfl (hb hby d12_36) rfl ?_
    refine XS.lcmp X0.here hx rfl (hb hby d12_37) rfl ?_
    refine XS.ifNo X0.here hx rfl (hb hby d12_38) rfl ((if0 _ _).trans (teq ((own_eq (-14 : Int64) (-14 : Int64)).mpr (rfl : (-14 : Int64) = (-14 : Int64)))).2) ?_
    show Steps p.tables e below (s₁.setTop (mkF m 41 L_1585 [])) _
    refine XS.iconst X0.here hx rfl (hb hby d12_41) ?_
    refine XS.goto X0.here hx rfl (pc0 := 42) (pc' := 46) rfl (hb hby d12_42) (by decide) (by decide) ?_
    show Steps p.tables e below (s₁.setTop (mkF m 46 L_1585 [(.int (1 : Int32))])) _
    exact retN X0 hx (t := .boolean) Bd.returns (by simp) (hb hby d12_46) hr
  · show Q12_lo3 Z a0 a1 p3 p4 u0 u1 u2 x0 x1 x2 k_a0 k_a1 h0 n0 _ s₁.heap _
    rw [e0]
    exact ⟨rfl, N0, rfl⟩
theorem ef12_hi3 (m : MethodId) (x0 : Addr) (x1 : Addr) (x2 : Int32) (x3 : Int32) (x4 : Int32) : entryFrame m #[(.ref x0), (.ref x1), (.int x2), (.int x3), (.int x4)] 5 = mkF m 0 #[.val (.ref x0), .val (.ref x1), .val (.int x2), .val (.int x3), .val (.int x4)] [] := by first | (simp [entryFrame, mkF, argsToLocals, Value.category]; done) | rfl
abbrev rr12_hi3 : Room := { frames := 0, cells := 0, slots := 0, locals := 0 }
def Q12_hi3 (Z : State) (a0 : Addr) (a1 : Addr) (p3 : Int32) (p4 : Int32) (u0 : Int64) (u1 : Int64) (u2 : Int64) (x0 : Int64) (x1 : Int64) (x2 : Int64) (k_a0 : ClassId) (k_a1 : ClassId) (h0 : Heap) (n0 : Nat) (v : Option Value) (h : Heap) (L : List Loc) : Prop := v = some (.int (1 : Int32)) ∧ Fr n0 L ∧ h = h0
set_option maxRecDepth 65536 in
set_option maxHeartbeats 40000000 in
theorem rm12_hi3 (l : Launch) (Z : State) (aw : Array Value) (hw : ∀ d ∈ tables_1, d.before aw Z = true) (ws : List Jvm.Cond) (a0 : Addr) (a1 : Addr) (p3 : Int32) (p4 : Int32) (u0 : Int64) (u1 : Int64) (u2 : Int64) (x0 : Int64) (x1 : Int64) (x2 : Int64) (k_a0 : ClassId) (k_a1 : ClassId) (h0 : Heap) (n0 : Nat) (Z0 : n0 ≤ h0.size) (V_a0 : Arv Z h0 a0 k_a0 .long (4 : Int32) [(.long u0), (.long u1), (.long u2), (.long (-4 : Int64))] (.long (0 : Int64))) (V_a1 : Arv Z h0 a1 k_a1 .long (4 : Int32) [(.long x0), (.long x1), (.long x2), (.long (-14 : Int64))] (.long (0 : Int64))) (h1 : ¬ (3 : Int32) < p3) (h2 : ¬ (3 : Int32) < (p3 + p4)) :
    MetFree l (⟨"com/example/stowline/stowline/VolumeBoundCopyTotalsPinLaw", "untouched", "([J[JIII)Z"⟩ : MethodName) (head1 (Jvm.Cond.code (⟨"com/example/stowline/stowline/VolumeBoundCopyTotalsPinLaw", "untouched", "([J[JIII)Z"⟩ : MethodName) method_5_code 5 (some .boolean) :: ws) rr12_hi3) (fun a U => a = #[(.ref a0), (.ref a1), (.int (3 : Int32)), (.int p3), (.int p4)] ∧ Z.Warmed39 U.vm ∧ U.heap = h0) (fun _ _ _ _ _ => True) (fun _ U o U' => ∃ v L, o = .returned v ∧ Q12_hi3 Z a0 a1 p3 p4 u0 u1 u2 x0 x1 x2 k_a0 k_a1 h0 n0 v U'.heap L ∧ FrameEnd U o U' L rr12_hi3.cells rr12_hi3.slots) := by
  refine MetFree.of_bodySF (plainFor_of_name pn_4) hisR ?_
  intro p e s m args below meth c s₁ Bd hml0 hP hK
  obtain ⟨rfl, hZ, hh⟩ := hP
  have hx := Bd.exec
  have hby := Bd.bytes
  have hml : c.maxLocals = 5 := hml0
  have hown : s.vm.findClass "com/example/stowline/stowline/VolumeBoundCopyTotalsPinLaw" = some m.cls := findClass_of_methodNamed Bd.named
  have hnm := (name_of_methodNamed Bd.named Bd.method).1
  have X0 : Stand p l e rr12_hi3 s m #[(.ref a0), (.ref a1), (.int (3 : Int32)), (.int p3), (.int p4)] below meth c s₁ [] 0 0 := Stand.of_body Bd
  have e0 : s₁.heap = h0 := by rw [← hh, Bd.state]; rfl
  have N0 := Fr.nil n0
  have pre0 : ∀ t, Steps p.tables e below (s₁.setTop (mkF m 0 #[.val (.ref a0), .val (.ref a1), .val (.int (3 : Int32)), .val (.int p3), .val (.int p4)] [])) t → Steps p.tables e below (s₁.setTop (entryFrame m #[(.ref a0), (.ref a1), (.int (3 : Int32)), (.int p3), (.int p4)] 5)) t := fun t k => castTop (ef12_hi3 m a0 a1 (3 : Int32) p3 p4) k
  let L_1592 : Array Slot := #[.val (.ref a0), .val (.ref a1), .val (.int (3 : Int32)), .val (.int p3), .val (.int p4)]
  obtain ⟨cl1593, Ar1593, q1593, S1593, M1593, H1593, G1593⟩ := id V_a0
  have hin1594 : ¬ ((3 : Int32) < 0 ∨ cl1593.slots.size ≤ ((3 : Int32)).toNatClampNeg) := inb_of S1593 ⟨by decide, by decide⟩
  have hat1595 : cl1593.slots[((3 : Int32)).toNatClampNeg]? = some (.long (-4 : Int64)) := H1593.at hin1594 rfl
  obtain ⟨cl1596, Ar1596, q1596, S1596, M1596, H1596, G1596⟩ := id V_a1
  have hin1597 : ¬ ((3 : Int32) < 0 ∨ cl1596.slots.size ≤ ((3 : Int32)).toNatClampNeg) := inb_of S1596 ⟨by decide, by decide⟩
  have hat1598 : cl1596.slots[((3 : Int32)).toNatClampNeg]? = some (.long (-14 : Int64)) := H1596.at hin1597 rfl
  obtain ⟨fs, hr, hrun, hended, hW, hsame⟩ := X0.leave (v := some (.int (1 : Int32))) (fun h => by rw [Bd.returns] at h; cases h)
  refine ⟨_, _, pre0 _ ?_, hrun, hended, _, _, rfl, ?_, ⟨_, rfl⟩, hW, hsame.mono (by decide) (by decide)⟩
  · skip
    show Steps p.tables e below (s₁.setTop (mkF m 0 L_1592 [])) _
    refine XS.iloadN X0.here hx rfl (hb hby d12_0) rfl ?_
    refine XS.iloadN X0.here hx rfl (hb hby d12_1) rfl ?_
    refine XS.icmpNo X0.here hx rfl (hb hby d12_2) rfl (flt h1).1 ?_
    refine XS.iloadN X0.here hx rfl (hb hby d12_5) rfl ?_
    refine XS.iloadN X0.here hx rfl (hb hby d12_6) rfl ?_
    refine XS.iload X0.here hx rfl (hb hby d12_7) rfl ?_
    show Steps p.tables e below (s₁.setTop (mkF m 9 L_1592 [(.int p4), (.int p3), (.int (3 : Int32))])) _
    refine XS.iadd X0.here hx rfl (hb hby d12_9) rfl ?_
    refine XS.icmpYes X0.here hx rfl (pc0 := 10) (pc' := 15) rfl (hb hby d12_10) rfl (flt h2).2.1 (by decide) (by decide) ?_
    refine XS.aloadN X0.here hx rfl (hb hby d12_15) rfl rfl ?_
    refine XS.iloadN X0.here hx rfl (hb hby d12_16) rfl ?_
    show Steps p.tables e below (s₁.setTop (mkF m 17 L_1592 [(.int (3 : Int32)), (.ref a0)])) _
    refine X0.laload hx (j := (3 : Int32)) (v := (.long (-4 : Int64))) (by rw [e0]; exact Ar1593.1) (State.isArrayOf_alike hZ.alike Ar1593.2.1) Ar1593.2.2 hin1594 hat1595 (g := (mkF m 17 L_1592 [(.int (3 : Int32)), (.ref a0)])) rfl rfl (hb hby d12_17) _ ?_
    show Steps p.tables e below (s₁.setTop (mkF m 18 L_1592 [(.long (-4 : Int64))])) _
    refine X0.ldc2Long hx hown (mvT hZ (own_m hw 10 rfl)) (g := (mkF m 18 L_1592 [(.long (-4 : Int64))])) rfl (hb hby d12_18) _ ?_
    refine XS.iloadN X0.here hx rfl (hb hby d12_21) rfl ?_
    refine XS.i2l X0.here hx rfl (hb hby d12_22) rfl ?_
    refine XS.lsub X0.here hx rfl (hb hby d12_23) rfl ?_
    refine XS.lcmp X0.here hx rfl (hb hby d12_24) rfl ?_
    refine XS.ifNo X0.here hx rfl (hb hby d12_25) rfl ((if0 _ _).trans (teq ((own_eq (-4 : Int64) (-4 : Int64)).mpr (rfl : (-4 : Int64) = (-4 : Int64)))).2) ?_
    show Steps p.tables e below (s₁.setTop (mkF m 28 L_1592 [])) _
    refine XS.aloadN X0.here hx rfl (hb hby d12_28) rfl rfl ?_
    refine XS.iloadN X0.here hx rfl (hb hby d12_29) rfl ?_
    show Steps p.tables e below (s₁.setTop (mkF m 30 L_1592 [(.int (3 : Int32)), (.ref a1)])) _
    refine X0.laload hx (j := (3 : Int32)) (v := (.long (-14 : Int64))) (by rw [e0]; exact Ar1596.1) (State.isArrayOf_alike hZ.alike Ar1596.2.1) Ar1596.2.2 hin1597 hat1598 (g := (mkF m 30 L_1592 [(.int (3 : Int32)), (.ref a1)])) rfl rfl (hb hby d12_30) _ ?_
    show Steps p.tables e below (s₁.setTop (mkF m 31 L_1592 [(.long (-14 : Int64))])) _
    refine X0.ldc2Long hx hown (mvT hZ (own_m hw 14 rfl)) (g := (mkF m 31 L_1592 [(.long (-14 : Int64))])) rfl (hb hby d12_31) _ ?_
    refine XS.iloadN X0.here hx rfl (hb hby d12_34) rfl ?_
    refine XS.i2l X0.here hx rfl (hb hby d12_35) rfl ?_
    refine XS.lsub X0.here hx rfl (hb hby d12_36) rfl ?_
    refine XS.lcmp X0.here hx rfl (hb hby d12_37) rfl ?_
    refine XS.ifNo X0.here hx rfl (hb hby d12_38) rfl ((if0 _ _).trans (teq ((own_eq (-14 : Int64) (-14 : Int64)).mpr (rfl : (-14 : Int64) = (-14 : Int64)))).2) ?_
    show Steps p.tables e below (s₁.setTop (mkF m 41 L_1592 [])) _
    refine XS.iconst X0.here hx rfl (hb hby d12_41) ?_
    refine XS.goto X0.here hx rfl (pc0 := 42) (pc' := 46) rfl (hb hby d12_42) (by decide) (by decide) ?_
    show Steps p.tables e below (s₁.setTop (mkF m 46 L_1592 [(.int (1 : Int32))])) _
    exact retN X0 hx (t := .boolean) Bd.returns (by simp) (hb hby d12_46) hr
  · show Q12_hi3 Z a0 a1 p3 p4 u0 u1 u2 x0 x1 x2 k_a0 k_a1 h0 n0 _ s₁.heap _
    rw [e0]
    exact ⟨rfl, N0, rfl⟩
theorem own_c1 (c : Int64) (h : ¬ c < (1 : Int64)) (hm : ¬ c = (9223372036854775807 : Int64)) : ¬ ((c + (1 : Int64)) = (0 : Int64)) := by
  have lc := c.toInt_lt
  have o : (1 : Int64).toInt = 1 := rfl
  have m : (9223372036854775807 : Int64).toInt = 9223372036854775807 := rfl
  rw [Int64.lt_iff_toInt_lt, o] at h
  rw [← Int64.toInt_inj, m] at hm
  rw [← Int64.toInt_inj, Jvm.Kit.i64_add (by rw [o]; omega) (by rw [o]; omega), o, show (0 : Int64).toInt = 0 from rfl]
  omega
theorem d2_0 : decode method_3_code 0 = .ok (.lload_n 0, 1) := by decide +kernel
theorem d2_1 : decode method_3_code 1 = .ok (.ldc2_w 9, 3) := by decide +kernel
theorem d2_4 : decode method_3_code 4 = .ok (.land, 1) := by decide +kernel
theorem d2_5 : decode method_3_code 5 = .ok (.lstore 4, 2) := by decide +kernel
theorem d2_7 : decode method_3_code 7 = .ok (.lload_n 2, 1) := by decide +kernel
theorem d2_8 : decode method_3_code 8 = .ok (.ldc2_w 9, 3) := by decide +kernel
theorem d2_11 : decode method_3_code 11 = .ok (.lcmp, 1) := by decide +kernel
theorem d2_12 : decode method_3_code 12 = .ok (.ifCond .ne 8, 3) := by decide +kernel
theorem d2_15 : decode method_3_code 15 = .ok (.lload 4, 2) := by decide +kernel
theorem d2_17 : decode method_3_code 17 = .ok (.goto 9, 3) := by decide +kernel
theorem d2_26 : decode method_3_code 26 = .ok (.lreturn, 1) := by decide +kernel
theorem d2_20 : decode method_3_code 20 = .ok (.lload 4, 2) := by decide +kernel
theorem d2_22 : decode method_3_code 22 = .ok (.lload_n 2, 1) := by decide +kernel
theorem d2_23 : decode method_3_code 23 = .ok (.lconst 1, 1) := by decide +kernel
theorem d2_24 : decode method_3_code 24 = .ok (.ladd, 1) := by decide +kernel
theorem d2_25 : decode method_3_code 25 = .ok (.lrem, 1) := by decide +kernel
def v2 (q0 : Int64) (q1 : Int64) : Int64 := (if q1 = (9223372036854775807 : Int64) then (q0 &&& (9223372036854775807 : Int64)) else ((q0 &&& (9223372036854775807 : Int64)) - (q0 &&& (9223372036854775807 : Int64)) / (q1 + (1 : Int64)) * (q1 + (1 : Int64))))
theorem ef2 (m : MethodId) (x0 : Int64) (x1 : Int64) : entryFrame m #[(.long x0), (.long x1)] 6 = mkF m 0 #[.val (.long x0), .second, .val (.long x1), .second, .unset, .unset] [] := by first | (simp [entryFrame, mkF, argsToLocals, Value.category]; done) | rfl
abbrev rr2 : Room := { frames := 0, cells := 0, slots := 0, locals := 0 }
def Q2 (Z : State) (q0 : Int64) (q1 : Int64) (h0 : Heap) (n0 : Nat) (v : Option Value) (h : Heap) (L : List Loc) : Prop := v = some (.long (v2 q0 q1)) ∧ Fr n0 L ∧ h = h0
set_option maxRecDepth 65536 in
set_option maxHeartbeats 40000000 in
theorem rm2 (l : Launch) (Z : State) (aw : Array Value) (hw : ∀ d ∈ tables_1, d.before aw Z = true) (ws : List Jvm.Cond) (q0 : Int64) (q1 : Int64) (h0 : Heap) (n0 : Nat) (Z0 : n0 ≤ h0.size) (hq : ¬ q1 < (1 : Int64)) :
    MetFree l (⟨"com/example/stowline/stowline/VolumeBoundCopyTotalsPinLaw", "size", "(JJ)J"⟩ : MethodName) (head1 (Jvm.Cond.code (⟨"com/example/stowline/stowline/VolumeBoundCopyTotalsPinLaw", "size", "(JJ)J"⟩ : MethodName) method_3_code 6 (some .long) :: ws) rr2) (fun a U => a = #[(.long q0), (.long q1)] ∧ Z.Warmed39 U.vm ∧ U.heap = h0) (fun _ _ _ _ _ => True) (fun _ U o U' => ∃ v L, o = .returned v ∧ Q2 Z q0 q1 h0 n0 v U'.heap L ∧ FrameEnd U o U' L rr2.cells rr2.slots) := by
  refine MetFree.of_bodySF (plainFor_of_name pn_4) hisR ?_
  intro p e s m args below meth c s₁ Bd hml0 hP hK
  obtain ⟨rfl, hZ, hh⟩ := hP
  have hx := Bd.exec
  have hby := Bd.bytes
  have hml : c.maxLocals = 6 := hml0
  have hown : s.vm.findClass "com/example/stowline/stowline/VolumeBoundCopyTotalsPinLaw" = some m.cls := findClass_of_methodNamed Bd.named
  have hnm := (name_of_methodNamed Bd.named Bd.method).1
  have X0 : Stand p l e rr2 s m #[(.long q0), (.long q1)] below meth c s₁ [] 0 0 := Stand.of_body Bd
  have e0 : s₁.heap = h0 := by rw [← hh, Bd.state]; rfl
  have N0 := Fr.nil n0
  have pre0 : ∀ t, Steps p.tables e below (s₁.setTop (mkF m 0 #[.val (.long q0), .second, .val (.long q1), .second, .unset, .unset] [])) t → Steps p.tables e below (s₁.setTop (entryFrame m #[(.long q0), (.long q1)] 6)) t := fun t k => castTop (ef2 m q0 q1) k
  let L_1599 : Array Slot := #[.val (.long q0), .second, .val (.long q1), .second, .unset, .unset]
  let L_1600 : Array Slot := #[.val (.long q0), .second, .val (.long q1), .second, .val (.long (q0 &&& (9223372036854775807 : Int64))), .second]
  have pre1602 := fun (t : State) (k : Steps p.tables e below (s₁.setTop (mkF m 12 L_1600 [(.int (lcmpW q1 (9223372036854775807 : Int64)))])) t) => pre0 t (by
    show Steps p.tables e below (s₁.setTop (mkF m 0 L_1599 [])) _
    refine XS.lloadN X0.here hx rfl (hb hby d2_0) rfl ?_
    show Steps p.tables e below (s₁.setTop (mkF m 1 L_1599 [(.long q0)])) _
    refine X0.ldc2Long hx hown (mvT hZ (own_m hw 0 rfl)) (g := (mkF m 1 L_1599 [(.long q0)])) rfl (hb hby d2_1) _ ?_
    refine XS.land X0.here hx rfl (hb hby d2_4) rfl ?_
    refine XS.lstore X0.here hx rfl (hb hby d2_5) rfl (l' := L_1600) rfl ?_
    refine XS.lloadN X0.here hx rfl (hb hby d2_7) rfl ?_
    show Steps p.tables e below (s₁.setTop (mkF m 8 L_1600 [(.long q1)])) _
    refine X0.ldc2Long hx hown (mvT hZ (own_m hw 0 rfl)) (g := (mkF m 8 L_1600 [(.long q1)])) rfl (hb hby d2_8) _ ?_
    refine XS.lcmp X0.here hx rfl (hb hby d2_11) rfl ?_
    exact k)
  by_cases hc1601 : q1 = (9223372036854775807 : Int64)
  · skip
    obtain ⟨fs, hr, hrun, hended, hW, hsame⟩ := X0.leave (v := some (.long (q0 &&& (9223372036854775807 : Int64)))) (fun h => by rw [Bd.returns] at h; cases h)
    refine ⟨_, _, pre1602 _ ?_, hrun, hended, _, _, rfl, ?_, ⟨_, rfl⟩, hW, hsame.mono (by decide) (by decide)⟩
    · skip
      show Steps p.tables e below (s₁.setTop (mkF m 12 L_1600 [(.int (lcmpW q1 (9223372036854775807 : Int64)))])) _
      refine XS.ifNo X0.here hx rfl (hb hby d2_12) rfl ((if0 _ _).trans (teq ((own_eq q1 (9223372036854775807 : Int64)).mpr hc1601)).2) ?_
      refine XS.lload X0.here hx rfl (hb hby d2_15) rfl ?_
      refine XS.goto X0.here hx rfl (pc0 := 17) (pc' := 26) rfl (hb hby d2_17) (by decide) (by decide) ?_
      show Steps p.tables e below (s₁.setTop (mkF m 26 L_1600 [(.long (q0 &&& (9223372036854775807 : Int64)))])) _
      exact retOut X0 hx Bd.returns rfl (Or.inr (Or.inl ⟨rfl, rfl, _, rfl⟩)) (hb hby d2_26) hr
    · show Q2 Z q0 q1 h0 n0 _ s₁.heap _
      rw [e0]
      have hv : (q0 &&& (9223372036854775807 : Int64)) = (v2 q0 q1) := by unfold v2; first | (rw [if_pos hc1601]) | (simp only [if_pos hc1601])
      exact ⟨(by rw [← hv]), N0, rfl⟩
  · skip
    obtain ⟨fs, hr, hrun, hended, hW, hsame⟩ := X0.leave (v := some (.long ((q0 &&& (9223372036854775807 : Int64)) - (q0 &&& (9223372036854775807 : Int64)) / (q1 + (1 : Int64)) * (q1 + (1 : Int64))))) (fun h => by rw [Bd.returns] at h; cases h)
    refine ⟨_, _, pre1602 _ ?_, hrun, hended, _, _, rfl, ?_, ⟨_, rfl⟩, hW, hsame.mono (by decide) (by decide)⟩
    · skip
      show Steps p.tables e below (s₁.setTop (mkF m 12 L_1600 [(.int (lcmpW q1 (9223372036854775807 : Int64)))])) _
      refine XS.ifYes X0.here hx rfl (pc0 := 12) (pc' := 20) rfl (hb hby d2_12) rfl ((if0 _ _).trans (feq (mt (own_eq q1 (9223372036854775807 : Int64)).mp hc1601)).2) (by decide) (by decide) ?_
      refine XS.lload X0.here hx rfl (hb hby d2_20) rfl ?_
      refine XS.lloadN X0.here hx rfl (hb hby d2_22) rfl ?_
      refine XS.lconst X0.here hx rfl (hb hby d2_23) ?_
      refine XS.ladd X0.here hx rfl (hb hby d2_24) rfl ?_
      refine XS.lrem X0.here hx rfl (hb hby d2_25) rfl (own_c1 q1 hq hc1601) ?_
      show Steps p.tables e below (s₁.setTop (mkF m 26 L_1600 [(.long ((q0 &&& (9223372036854775807 : Int64)) - (q0 &&& (9223372036854775807 : Int64)) / (q1 + (1 : Int64)) * (q1 + (1 : Int64))))])) _
      exact retOut X0 hx Bd.returns rfl (Or.inr (Or.inl ⟨rfl, rfl, _, rfl⟩)) (hb hby d2_26) hr
    · show Q2 Z q0 q1 h0 n0 _ s₁.heap _
      rw [e0]
      have hv : ((q0 &&& (9223372036854775807 : Int64)) - (q0 &&& (9223372036854775807 : Int64)) / (q1 + (1 : Int64)) * (q1 + (1 : Int64))) = (v2 q0 q1) := by unfold v2; first | (rw [if_neg hc1601]) | (simp only [if_neg hc1601])
      exact ⟨(by rw [← hv]), N0, rfl⟩
theorem own_and (x : Int64) : (x &&& (9223372036854775807 : Int64)).toInt = x.toInt % 2 ^ 63 := Jvm.Kit.i64_mask x 9223372036854775807 (k := 63) (by decide) (by decide)
theorem own_add (c w r s : Int64) (C W R S : Int) (hc : c.toInt = C) (hw : w.toInt = W) (hr : r.toInt = R) (hs : s.toInt = S) (h1 : 1 ≤ C) (h2 : 0 ≤ R) (h3 : R < C) (h4 : 0 ≤ S) (h5 : S ≤ C) (h6 : 0 ≤ W) (h7 : W ≤ 10) :
    (j7_1_0 c w r s).toInt = (if S < C - R then W else W + 1) ∧ (j7_1_1 c r s).toInt = (if S < C - R then R + S else S - (C - R)) := by
  have lc := c.toInt_lt
  have o : (1 : Int64).toInt = 1 := rfl
  have e1 : (c - r).toInt = C - R := by rw [Jvm.Kit.i64_sub] <;> rw [hc, hr] <;> omega
  have e2 : (w + (1 : Int64)).toInt = W + 1 := by rw [Jvm.Kit.i64_add] <;> rw [hw, o] <;> omega
  have e4 : (s - (c - r)).toInt = S - (C - R) := by rw [Jvm.Kit.i64_sub] <;> rw [hs, e1] <;> omega
  unfold j7_1_0 j7_1_1
  by_cases h : s < c - r
  · have h' : S < C - R := by rw [Int64.lt_iff_toInt_lt, hs, e1] at h; exact h
    have e3 : (r + s).toInt = R + S := by rw [Jvm.Kit.i64_add] <;> rw [hr, hs] <;> omega
    rw [if_pos h, if_pos h, if_pos h', if_pos h']; exact ⟨hw, e3⟩
  · have h' : ¬ S < C - R := by rw [Int64.lt_iff_toInt_lt, hs, e1] at h; exact h
    rw [if_neg h, if_neg h, if_neg h', if_neg h']; exact ⟨e2, e4⟩
theorem own_rem (c w r s : Int64) (C W R S : Int) (hc : c.toInt = C) (hw : w.toInt = W) (hr : r.toInt = R) (hs : s.toInt = S) (h1 : 1 ≤ C) (h2 : 0 ≤ R) (h3 : R < C) (h4 : 0 ≤ S) (h5 : S ≤ C) (h6 : 0 ≤ W) (h7 : W ≤ 10) :
    (j13_1_0 w r s).toInt = (if R < S then W - 1 else W) ∧ (j13_1_1 c r s).toInt = (if R < S then R + (C - S) else R - S) := by
  have lc := c.toInt_lt
  have o : (1 : Int64).toInt = 1 := rfl
  have e1 : (c - s).toInt = C - S := by rw [Jvm.Kit.i64_sub] <;> rw [hc, hs] <;> omega
  have e2 : (w - (1 : Int64)).toInt = W - 1 := by rw [Jvm.Kit.i64_sub] <;> rw [hw, o] <;> omega
  have e4 : (r - s).toInt = R - S := by rw [Jvm.Kit.i64_sub] <;> rw [hr, hs] <;> omega
  unfold j13_1_0 j13_1_1
  by_cases h : r < s
  · have h' : R < S := by rw [Int64.lt_iff_toInt_lt, hs, hr] at h; exact h
    have e3 : (r + (c - s)).toInt = R + (C - S) := by rw [Jvm.Kit.i64_add] <;> rw [hr, e1] <;> omega
    rw [if_pos h, if_pos h, if_pos h', if_pos h']; exact ⟨e2, e3⟩
  · have h' : ¬ R < S := by rw [Int64.lt_iff_toInt_lt, hs, hr] at h; exact h
    rw [if_neg h, if_neg h, if_neg h', if_neg h']; exact ⟨hw, e4⟩
/-- behind two adds -/
theorem own_two (c a b : Int64) (h1 : 1 ≤ c.toInt) (ha : 0 ≤ a.toInt) (ha' : a.toInt ≤ c.toInt) (hb : 0 ≤ b.toInt) (hb' : b.toInt ≤ c.toInt) :
    ∃ W R : Int, ((j7_1_0 c (j7_1_0 c (0 : Int64) (0 : Int64) a) (j7_1_1 c (0 : Int64) a) b)).toInt = W ∧ ((j7_1_1 c (j7_1_1 c (0 : Int64) a) b)).toInt = R ∧ 0 ≤ R ∧ R < c.toInt ∧ 0 ≤ W ∧ W ≤ 2 ∧ ((W = 0 ∧ R = a.toInt + b.toInt) ∨ (W = 1 ∧ R = a.toInt + b.toInt - c.toInt) ∨ (W = 2 ∧ R = a.toInt + b.toInt - c.toInt - c.toInt)) := by
  obtain ⟨w1, r1⟩ := own_add c 0 0 a c.toInt 0 0 a.toInt rfl rfl rfl rfl h1 (by omega) (by omega) ha ha' (by omega) (by omega)
  by_cases h : a.toInt < c.toInt
  · rw [if_pos (by omega)] at w1 r1
    obtain ⟨w2, r2⟩ := own_add c _ _ b c.toInt 0 (0 + a.toInt) b.toInt rfl w1 r1 rfl h1 (by omega) (by omega) hb hb' (by omega) (by omega)
    refine ⟨_, _, w2, r2, ?_⟩
    split <;> omega
  · rw [if_neg (by omega)] at w1 r1
    obtain ⟨w2, r2⟩ := own_add c _ _ b c.toInt (0 + 1) (a.toInt - (c.toInt - 0)) b.toInt rfl w1 r1 rfl h1 (by omega) (by omega) hb hb' (by omega) (by omega)
    refine ⟨_, _, w2, r2, ?_⟩
    split <;> omega
theorem own_rmok (c a b : Int64) (h1 : 1 ≤ c.toInt) (ha : 0 ≤ a.toInt) (ha' : a.toInt ≤ c.toInt) (hb : 0 ≤ b.toInt) (hb' : b.toInt ≤ c.toInt) : (j7_1_1 c (j7_1_1 c (0 : Int64) a) b) < a → ¬ (j7_1_0 c (j7_1_0 c (0 : Int64) (0 : Int64) a) (j7_1_1 c (0 : Int64) a) b) = (0 : Int64) := by
  obtain ⟨W, R, hW, hR, a1, a2, a3, a4, a5⟩ := own_two c a b h1 ha ha' hb hb'
  intro h q
  rw [Int64.lt_iff_toInt_lt, hR] at h
  rw [← Int64.toInt_inj, hW, show (0 : Int64).toInt = 0 from rfl] at q
  omega
theorem own_siz (y c : Int64) (h : 1 ≤ c.toInt) : 0 ≤ (v2 y c).toInt ∧ (v2 y c).toInt ≤ c.toInt := by
  have lc := c.toInt_lt
  have e := own_and y
  have o : (1 : Int64).toInt = 1 := rfl
  have m : (9223372036854775807 : Int64).toInt = 9223372036854775807 := rfl
  unfold v2
  by_cases q : c = (9223372036854775807 : Int64)
  · rw [if_pos q, e, q, m]; omega
  · rw [if_neg q]
    rw [← Int64.toInt_inj, m] at q
    have e1 : (c + (1 : Int64)).toInt = c.toInt + 1 := by rw [Jvm.Kit.i64_add] <;> rw [o] <;> omega
    rw [Jvm.Kit.i64_rem_nonneg (by omega), e1]
    exact ⟨Int.emod_nonneg _ (by omega), by have := Int.emod_lt_of_pos (y &&& (9223372036854775807 : Int64)).toInt (show 0 < c.toInt + 1 by omega); omega⟩
theorem own_p1 (c : Int64) (h : 1 ≤ c.toInt) : ¬ c < (1 : Int64) := by rw [Int64.lt_iff_toInt_lt, show (1 : Int64).toInt = 1 from rfl]; omega
theorem own_p0 (s : Int64) (h : 0 ≤ s.toInt) : ¬ s < (0 : Int64) := by rw [Int64.lt_iff_toInt_lt, show (0 : Int64).toInt = 0 from rfl]; omega
theorem own_pc (c s : Int64) (h : s.toInt ≤ c.toInt) : ¬ c < s := by rw [Int64.lt_iff_toInt_lt]; omega
def own_w1 (c s : Int64) (N : Int32) : Int64 := if N < (1 : Int32) then (0 : Int64) else j7_1_0 c (0 : Int64) (0 : Int64) s
def own_r1 (c s : Int64) (N : Int32) : Int64 := if N < (1 : Int32) then (0 : Int64) else j7_1_1 c (0 : Int64) s
def own_w2 (c s t : Int64) (N : Int32) : Int64 := if N < (2 : Int32) then own_w1 c s N else j7_1_0 c (own_w1 c s N) (own_r1 c s N) t
def own_r2 (c s t : Int64) (N : Int32) : Int64 := if N < (2 : Int32) then own_r1 c s N else j7_1_1 c (own_r1 c s N) t
def own_w3 (c s t : Int64) (N : Int32) : Int64 := if N = (3 : Int32) then j13_1_0 (own_w2 c s t N) (own_r2 c s t N) s else own_w2 c s t N
def own_r3 (c s t : Int64) (N : Int32) : Int64 := if N = (3 : Int32) then j13_1_1 c (own_r2 c s t N) s else own_r2 c s t N
theorem own_rmN (c s t : Int64) (N : Int32) (hN : N = (3 : Int32)) (h1 : 1 ≤ c.toInt) (ha : 0 ≤ s.toInt) (ha' : s.toInt ≤ c.toInt) (hb : 0 ≤ t.toInt) (hb' : t.toInt ≤ c.toInt) : own_r2 c s t N < s → ¬ own_w2 c s t N = (0 : Int64) := by
  subst hN; exact own_rmok c s t h1 ha ha' hb hb'
theorem own_y2 {x : Int32} {a b u v : Int64} (h1 : a = u) (h2 : b = v) : nar .boolean (if a = u then (if b = v then (1 : Int32) else (0 : Int32)) else (0 : Int32)) = 1 := by
  rw [if_pos h1, if_pos h2]; rfl
theorem own_chk (c s t : Int64) (N : Int32) (hN : N = 0 ∨ N = 1 ∨ N = 2 ∨ N = 3) (h1 : 1 ≤ c.toInt) (ha : 0 ≤ s.toInt) (ha' : s.toInt ≤ c.toInt) (hb : 0 ≤ t.toInt) (hb' : t.toInt ≤ c.toInt) : v11 c s t N (own_w3 c s t N) (own_r3 c s t N) = 1 := by
  have z : (0 : Int64).toInt = 0 := rfl
  have o : (1 : Int64).toInt = 1 := rfl
  have tw : (2 : Int64).toInt = 2 := rfl
  have lc := c.toInt_lt
  rcases hN with rfl | rfl | rfl | rfl
  · show v11 c s t 0 (0 : Int64) (0 : Int64) = 1
    unfold v11
    rw [if_pos rfl]
    exact own_y2 (x := 0) rfl rfl
  · obtain ⟨w1, r1⟩ := own_add c 0 0 s c.toInt 0 0 s.toInt rfl rfl rfl rfl h1 (by omega) (by omega) ha ha' (by omega) (by omega)
    show v11 c s t 1 (j7_1_0 c (0 : Int64) (0 : Int64) s) (j7_1_1 c (0 : Int64) s) = 1
    unfold v11
    rw [if_neg (by decide), if_pos rfl]
    by_cases q : s = c
    · have q' := Int64.toInt_inj.mpr q
      rw [if_pos q]; rw [if_neg (by omega)] at w1 r1
      exact own_y2 (x := 0) (by rw [← Int64.toInt_inj, w1, o]; omega) (by rw [← Int64.toInt_inj, r1, z]; omega)
    · have q' := mt Int64.toInt_inj.mp q
      rw [if_neg q]; rw [if_pos (by omega)] at w1 r1
      exact own_y2 (x := 0) (by rw [← Int64.toInt_inj, w1, z]) (by rw [← Int64.toInt_inj, r1]; omega)
  · obtain ⟨W, R, hW, hR, a1, a2, a3, a4, a5⟩ := own_two c s t h1 ha ha' hb hb'
    show v11 c s t 2 (j7_1_0 c (j7_1_0 c (0 : Int64) (0 : Int64) s) (j7_1_1 c (0 : Int64) s) t) (j7_1_1 c (j7_1_1 c (0 : Int64) s) t) = 1
    have e1 : (c - t).toInt = c.toInt - t.toInt := by rw [Jvm.Kit.i64_sub] <;> omega
    have e2 : (s - (c - t)).toInt = s.toInt - (c.toInt - t.toInt) := by rw [Jvm.Kit.i64_sub] <;> rw [e1] <;> omega
    have main : ¬ (s = c ∧ t = c) → (if s < c - t then nar .boolean (j11_5 s t (j7_1_0 c (j7_1_0 c (0 : Int64) (0 : Int64) s) (j7_1_1 c (0 : Int64) s) t) (j7_1_1 c (j7_1_1 c (0 : Int64) s) t)) else nar .boolean (j11_6 c s t (j7_1_0 c (j7_1_0 c (0 : Int64) (0 : Int64) s) (j7_1_1 c (0 : Int64) s) t) (j7_1_1 c (j7_1_1 c (0 : Int64) s) t))) = 1 := by
      intro hn
      by_cases q : s < c - t
      · rw [if_pos q]
        rw [Int64.lt_iff_toInt_lt, e1] at q
        have e3 : (s + t).toInt = s.toInt + t.toInt := by rw [Jvm.Kit.i64_add] <;> omega
        exact own_y2 (x := 0) (by rw [← Int64.toInt_inj, hW, z]; omega) (by rw [← Int64.toInt_inj, hR, e3]; omega)
      · rw [if_neg q]
        rw [Int64.lt_iff_toInt_lt, e1] at q
        have hn' : ¬ (s.toInt = c.toInt ∧ t.toInt = c.toInt) := fun ⟨x, y⟩ => hn ⟨Int64.toInt_inj.mp x, Int64.toInt_inj.mp y⟩
        exact own_y2 (x := 0) (by rw [← Int64.toInt_inj, hW, o]; omega) (by rw [← Int64.toInt_inj, hR, e2]; omega)
    unfold v11
    rw [if_neg (by decide), if_neg (by decide), if_neg (by decide)]
    by_cases q : s = c
    · rw [if_pos q]
      by_cases q2 : t = c
      · rw [if_pos q2]
        have x1 := Int64.toInt_inj.mpr q; have x2 := Int64.toInt_inj.mpr q2
        exact own_y2 (x := 0) (by rw [← Int64.toInt_inj, hW, tw]; omega) (by rw [← Int64.toInt_inj, hR, z]; omega)
      · rw [if_neg q2]; exact main fun x => q2 x.2
    · rw [if_neg q]; exact main fun x => q x.1
  · obtain ⟨W, R, hW, hR, a1, a2, a3, a4, a5⟩ := own_two c s t h1 ha ha' hb hb'
    obtain ⟨w3, r3⟩ := own_rem c _ _ s c.toInt W R s.toInt rfl hW hR rfl h1 a1 a2 ha ha' a3 (by omega)
    show v11 c s t 3 (j13_1_0 (j7_1_0 c (j7_1_0 c (0 : Int64) (0 : Int64) s) (j7_1_1 c (0 : Int64) s) t) (j7_1_1 c (j7_1_1 c (0 : Int64) s) t) s) (j13_1_1 c (j7_1_1 c (j7_1_1 c (0 : Int64) s) t) s) = 1
    unfold v11
    rw [if_neg (by decide), if_neg (by decide), if_pos rfl]
    by_cases q : t = c
    · have q' := Int64.toInt_inj.mpr q
      rw [if_pos q]
      exact own_y2 (x := 0) (by rw [← Int64.toInt_inj, w3, o]; split <;> omega) (by rw [← Int64.toInt_inj, r3, z]; split <;> omega)
    · have q' := mt Int64.toInt_inj.mp q
      rw [if_neg q]
      exact own_y2 (x := 0) (by rw [← Int64.toInt_inj, w3, z]; split <;> omega) (by rw [← Int64.toInt_inj, r3]; split <;> omega)
theorem own_capm (x : Int64) : 1 ≤ (j1_0 (1 : Int64) (x &&& (9223372036854775807 : Int64))).toInt := by
  have e := own_and x
  unfold j1_0
  by_cases h : (1 : Int64) < (x &&& (9223372036854775807 : Int64))
  · rw [if_pos h]; rw [Int64.lt_iff_toInt_lt, show (1 : Int64).toInt = 1 from rfl] at h; omega
  · rw [if_neg h]; decide
theorem own_off4 (p : Int32) (h0 : ¬ (p % (4 : Int32)) = (0 : Int32)) (h1 : ¬ (p % (4 : Int32)) = (1 : Int32)) (h2 : ¬ (p % (4 : Int32)) = (2 : Int32)) (hp : 0 ≤ p.toInt) : (p % (4 : Int32)) = (3 : Int32) := by
  have e : (p % (4 : Int32)).toInt = p.toInt % 4 := Jvm.Kit.i32_rem_nonneg hp
  simp only [← Int32.toInt_inj, e, Int32.reduceToInt] at *; omega
theorem own_off3 (p : Int32) (h0 : ¬ (p % (3 : Int32)) = (0 : Int32)) (h1 : ¬ (p % (3 : Int32)) = (1 : Int32)) (hp : 0 ≤ p.toInt) : (p % (3 : Int32)) = (2 : Int32) := by
  have e : (p % (3 : Int32)).toInt = p.toInt % 3 := Jvm.Kit.i32_rem_nonneg hp
  simp only [← Int32.toInt_inj, e, Int32.reduceToInt] at *; omega
def own_c (q : Int64) : Int64 := j1_0 (1 : Int64) (q &&& (9223372036854775807 : Int64))
def own_z (y q : Int64) : Int64 := v2 y (own_c q)
def own_Nn (x y : Int64) : Int32 := (if x < (0 : Int64) then (1 : Int32) else (0 : Int32)) + (if y < (0 : Int64) then (2 : Int32) else (0 : Int32))
theorem own_cp (q : Int64) : 1 ≤ (own_c q).toInt := own_capm q
theorem own_zb (y q : Int64) : 0 ≤ (own_z y q).toInt ∧ (own_z y q).toInt ≤ (own_c q).toInt := own_siz y _ (own_cp q)
theorem pd_8 : parseMethodDescriptor "(JJ)J" = some ⟨[.long, .long], some .long⟩ := by decide +kernel
theorem pd_9 : parseMethodDescriptor "([J[JI)V" = some ⟨[(.array .long), (.array .long), .int], none⟩ := by decide +kernel
theorem pd_10 : parseMethodDescriptor "(JJJIJJ)Z" = some ⟨[.long, .long, .long, .int, .long, .long], some .boolean⟩ := by decide +kernel
theorem pd_11 : parseMethodDescriptor "([J[JIII)Z" = some ⟨[(.array .long), (.array .long), .int, .int, .int], some .boolean⟩ := by decide +kernel
def j0_0 (q2 : Int64) : Int32 := (if q2 < (0 : Int64) then (1 : Int32) else (0 : Int32))
def j0_1 (q3 : Int64) : Int32 := (if q3 < (0 : Int64) then (2 : Int32) else (0 : Int32))
def j0_2 (q4 : Int64) : Int32 := (if q4 < (0 : Int64) then (1 : Int32) else (0 : Int32))
def j0_3 (q5 : Int64) : Int32 := (if q5 < (0 : Int64) then (2 : Int32) else (0 : Int32))
def j0_4 (q0 : Int64) (q2 : Int64) (q3 : Int64) : Int64 := (if (own_Nn q2 q3) < (1 : Int32) then (0 : Int64) else (j7_1_0 (own_c q0) (0 : Int64) (0 : Int64) (own_z q2 q0)))
def j0_5 (q0 : Int64) (q2 : Int64) (q3 : Int64) : Int64 := (if (own_Nn q2 q3) < (1 : Int32) then (0 : Int64) else (j7_1_1 (own_c q0) (0 : Int64) (own_z q2 q0)))
def j0_6 (q0 : Int64) (q2 : Int64) (q3 : Int64) (q4 : Int64) : Int64 := (if (own_Nn q2 q3) < (2 : Int32) then (j0_4 q0 q2 q3) else (j7_1_0 (own_c q0) (j0_4 q0 q2 q3) (j0_5 q0 q2 q3) (own_z q4 q0)))
def j0_7 (q0 : Int64) (q2 : Int64) (q3 : Int64) (q4 : Int64) : Int64 := (if (own_Nn q2 q3) < (2 : Int32) then (j0_5 q0 q2 q3) else (j7_1_1 (own_c q0) (j0_5 q0 q2 q3) (own_z q4 q0)))
def j0_8 (q0 : Int64) (q2 : Int64) (q3 : Int64) (q4 : Int64) : Int64 := (if (own_Nn q2 q3) = (3 : Int32) then (j13_1_0 (j0_6 q0 q2 q3 q4) (j0_7 q0 q2 q3 q4) (own_z q2 q0)) else (j0_6 q0 q2 q3 q4))
def j0_9 (q0 : Int64) (q2 : Int64) (q3 : Int64) (q4 : Int64) : Int64 := (if (own_Nn q2 q3) = (3 : Int32) then (j13_1_1 (own_c q0) (j0_7 q0 q2 q3 q4) (own_z q2 q0)) else (j0_7 q0 q2 q3 q4))
def j0_10 (q0 : Int64) (q2 : Int64) (q3 : Int64) (q4 : Int64) : Int32 := (if (v11 (own_c q0) (own_z q2 q0) (own_z q4 q0) (own_Nn q2 q3) (j0_8 q0 q2 q3 q4) (j0_9 q0 q2 q3 q4)) = (0 : Int32) then (0 : Int32) else (1 : Int32))
def j0_11 (q0 : Int64) (q2 : Int64) (q3 : Int64) (q4 : Int64) : Int32 := (if (j0_10 q0 q2 q3 q4) = (0 : Int32) then (0 : Int32) else (1 : Int32))
def j0_12 (q0 : Int64) (q2 : Int64) (q3 : Int64) (q4 : Int64) : Int32 := (if (j0_11 q0 q2 q3 q4) = (0 : Int32) then (0 : Int32) else (1 : Int32))
def j0_13 (q0 : Int64) (q2 : Int64) (q3 : Int64) (q4 : Int64) : Int32 := (if (j0_12 q0 q2 q3 q4) = (0 : Int32) then (0 : Int32) else (1 : Int32))
def j0_14 (q0 : Int64) (q2 : Int64) (q3 : Int64) : Int64 := (if (own_Nn q2 q3) < (1 : Int32) then (0 : Int64) else (j7_2_0 (own_c q0) (0 : Int64) (0 : Int64) (own_z q2 q0)))
def j0_15 (q1 : Int64) (q2 : Int64) (q3 : Int64) : Int64 := (if (own_Nn q2 q3) < (1 : Int32) then (0 : Int64) else (j7_2_2 (own_c q1) (0 : Int64) (0 : Int64) (own_z q3 q1)))
def j0_16 (q0 : Int64) (q2 : Int64) (q3 : Int64) : Int64 := (if (own_Nn q2 q3) < (1 : Int32) then (0 : Int64) else (j7_2_1 (own_c q0) (0 : Int64) (own_z q2 q0)))
def j0_17 (q1 : Int64) (q2 : Int64) (q3 : Int64) : Int64 := (if (own_Nn q2 q3) < (1 : Int32) then (0 : Int64) else (j7_2_3 (own_c q1) (0 : Int64) (own_z q3 q1)))
def j0_18 (q0 : Int64) (q2 : Int64) (q3 : Int64) (q4 : Int64) : Int64 := (if (own_Nn q2 q3) < (2 : Int32) then (j0_14 q0 q2 q3) else (j7_2_0 (own_c q0) (j0_14 q0 q2 q3) (j0_16 q0 q2 q3) (own_z q4 q0)))
def j0_19 (q1 : Int64) (q2 : Int64) (q3 : Int64) (q5 : Int64) : Int64 := (if (own_Nn q2 q3) < (2 : Int32) then (j0_15 q1 q2 q3) else (j7_2_2 (own_c q1) (j0_15 q1 q2 q3) (j0_17 q1 q2 q3) (own_z q5 q1)))
def j0_20 (q0 : Int64) (q2 : Int64) (q3 : Int64) (q4 : Int64) : Int64 := (if (own_Nn q2 q3) < (2 : Int32) then (j0_16 q0 q2 q3) else (j7_2_1 (own_c q0) (j0_16 q0 q2 q3) (own_z q4 q0)))
def j0_21 (q1 : Int64) (q2 : Int64) (q3 : Int64) (q5 : Int64) : Int64 := (if (own_Nn q2 q3) < (2 : Int32) then (j0_17 q1 q2 q3) else (j7_2_3 (own_c q1) (j0_17 q1 q2 q3) (own_z q5 q1)))
def j0_22 (q0 : Int64) (q2 : Int64) (q3 : Int64) (q4 : Int64) : Int64 := (if (own_Nn q2 q3) = (3 : Int32) then (j13_2_0 (j0_18 q0 q2 q3 q4) (j0_20 q0 q2 q3 q4) (own_z q2 q0)) else (j0_18 q0 q2 q3 q4))
def j0_23 (q1 : Int64) (q2 : Int64) (q3 : Int64) (q5 : Int64) : Int64 := (if (own_Nn q2 q3) = (3 : Int32) then (j13_2_2 (j0_19 q1 q2 q3 q5) (j0_21 q1 q2 q3 q5) (own_z q3 q1)) else (j0_19 q1 q2 q3 q5))
def j0_24 (q0 : Int64) (q2 : Int64) (q3 : Int64) (q4 : Int64) : Int64 := (if (own_Nn q2 q3) = (3 : Int32) then (j13_2_1 (own_c q0) (j0_20 q0 q2 q3 q4) (own_z q2 q0)) else (j0_20 q0 q2 q3 q4))
def j0_25 (q1 : Int64) (q2 : Int64) (q3 : Int64) (q5 : Int64) : Int64 := (if (own_Nn q2 q3) = (3 : Int32) then (j13_2_3 (own_c q1) (j0_21 q1 q2 q3 q5) (own_z q3 q1)) else (j0_21 q1 q2 q3 q5))
def j0_26 (q0 : Int64) (q1 : Int64) (q2 : Int64) (q3 : Int64) (q4 : Int64) (q5 : Int64) : Int32 := (if (v11 (own_c q0) (own_z q2 q0) (own_z q4 q0) (own_Nn q2 q3) (j0_22 q0 q2 q3 q4) (j0_24 q0 q2 q3 q4)) = (0 : Int32) then (0 : Int32) else (if (v11 (own_c q1) (own_z q3 q1) (own_z q5 q1) (own_Nn q2 q3) (j0_23 q1 q2 q3 q5) (j0_25 q1 q2 q3 q5)) = (0 : Int32) then (0 : Int32) else (1 : Int32)))
def j0_27 (q0 : Int64) (q1 : Int64) (q2 : Int64) (q3 : Int64) (q4 : Int64) (q5 : Int64) : Int32 := (if (j0_26 q0 q1 q2 q3 q4 q5) = (0 : Int32) then (0 : Int32) else (1 : Int32))
def j0_28 (q0 : Int64) (q1 : Int64) (q2 : Int64) (q3 : Int64) (q4 : Int64) (q5 : Int64) : Int32 := (if (j0_27 q0 q1 q2 q3 q4 q5) = (0 : Int32) then (0 : Int32) else (1 : Int32))
def j0_29 (q0 : Int64) (q1 : Int64) (q2 : Int64) (q3 : Int64) (q4 : Int64) (q5 : Int64) : Int32 := (if (j0_28 q0 q1 q2 q3 q4 q5) = (0 : Int32) then (0 : Int32) else (1 : Int32))
def j0_30 (q0 : Int64) (q1 : Int64) (q2 : Int64) (q3 : Int64) (q4 : Int64) (q5 : Int64) : Int32 := (if (j0_29 q0 q1 q2 q3 q4 q5) = (0 : Int32) then (0 : Int32) else (1 : Int32))
def v0 (q0 : Int64) (q1 : Int64) (q2 : Int64) (q3 : Int64) (q4 : Int64) (q5 : Int64) : Int32 := (if q1 < (0 : Int64) then (if (((j0_2 q4) + (j0_3 q5)) % (4 : Int32)) = (0 : Int32) then (nar .boolean (j0_13 q0 q2 q3 q4)) else (if (((j0_2 q4) + (j0_3 q5)) % (4 : Int32)) = (1 : Int32) then (nar .boolean (j0_13 q0 q2 q3 q4)) else (if (((j0_2 q4) + (j0_3 q5)) % (4 : Int32)) = (2 : Int32) then (nar .boolean (j0_13 q0 q2 q3 q4)) else (nar .boolean (j0_13 q0 q2 q3 q4))))) else (if (((j0_2 q4) + (j0_3 q5)) % (3 : Int32)) = (0 : Int32) then (nar .boolean (j0_30 q0 q1 q2 q3 q4 q5)) else (if (((j0_2 q4) + (j0_3 q5)) % (3 : Int32)) = (1 : Int32) then (nar .boolean (j0_30 q0 q1 q2 q3 q4 q5)) else (nar .boolean (j0_30 q0 q1 q2 q3 q4 q5)))))
theorem own_offp (q4 q5 : Int64) : 0 ≤ (j0_2 q4 + j0_3 q5).toInt := by
  unfold j0_2 j0_3
  repeat' split
  all_goals decide
theorem ef0 (m : MethodId) (x0 : Int64) (x1 : Int64) (x2 : Int64) (x3 : Int64) (x4 : Int64) (x5 : Int64) : entryFrame m #[(.long x0), (.long x1), (.long x2), (.long x3), (.long x4), (.long x5)] maxLocals = mkF m 0 #[.val (.long x0), .second, .val (.long x1), .second, .val (.long x2), .second, .val (.long x3), .second, .val (.long x4), .second, .val (.long x5), .second, .unset, .unset, .unset, .unset, .unset, .unset, .unset, .unset, .unset, .unset, .unset, .unset, .unset, .unset, .unset, .unset, .unset, .unset, .unset, .unset, .unset, .unset, .unset] [] := by first | (simp [entryFrame, mkF, argsToLocals, Value.category, maxLocals]; done) | rfl
def Q0 (Z : State) (q0 : Int64) (q1 : Int64) (q2 : Int64) (q3 : Int64) (q4 : Int64) (q5 : Int64) (h0 : Heap) (n0 : Nat) (v : Option Value) (h : Heap) (L : List Loc) : Prop := v = some (.int (v0 q0 q1 q2 q3 q4 q5)) ∧ Fr n0 L
set_option maxRecDepth 65536 in
set_option maxHeartbeats 40000000 in
theorem rm0 (l : Launch) (Z : State) (aw : Array Value) (hw : ∀ d ∈ tables_1, d.before aw Z = true) (ws : List Jvm.Cond) (q0 : Int64) (q1 : Int64) (q2 : Int64) (q3 : Int64) (q4 : Int64) (q5 : Int64) (h0 : Heap) (n0 : Nat) (Z0 : n0 ≤ h0.size)  :
    MetFree l x (head1 (Jvm.Cond.code x code maxLocals ret :: ws) room_1) (fun a U => a = #[(.long q0), (.long q1), (.long q2), (.long q3), (.long q4), (.long q5)] ∧ Z.Warmed39 U.vm ∧ U.heap = h0) (fun _ _ _ _ _ => True) (fun _ U o U' => ∃ v L, o = .returned v ∧ Q0 Z q0 q1 q2 q3 q4 q5 h0 n0 v U'.heap L ∧ ReturnedEndW U o U' L room_1.cells room_1.slots) := by
  refine MetFree.of_bodySF (plainFor_of_name pn_4) hisR ?_
  intro p e s m args below meth c s₁ Bd hml0 hP hK
  obtain ⟨rfl, hZ, hh⟩ := hP
  have hx := Bd.exec
  have hby := Bd.bytes
  have hml : c.maxLocals = 35 := hml0
  have hown : s.vm.findClass "com/example/stowline/stowline/VolumeBoundCopyTotalsPinLaw" = some m.cls := findClass_of_methodNamed Bd.named
  have hnm := (name_of_methodNamed Bd.named Bd.method).1
  have X0 : Stand p l e room_1 (s.setVm s.vm) m #[(.long q0), (.long q1), (.long q2), (.long q3), (.long q4), (.long q5)] below meth c s₁ [] 0 0 := Stand.of_body Bd
  have e0 : s₁.heap = h0 := by rw [← hh, Bd.state]; rfl
  have N0 := Fr.nil n0
  have hS : s.Since s.vm 0 := (State.WarmedH.refl s).since 0
  have hk : 0 ≤ h0.size := Nat.zero_le _
  have hstr : ∀ a ∈ Bundle.stringAtoms, a.before aw Z = true := fun d hd => hw d ((by decide +kernel : ∀ d ∈ Bundle.stringAtoms, d ∈ tables_1) d hd)
  have pre0 : ∀ t, Steps p.tables e below (s₁.setTop (mkF m 0 #[.val (.long q0), .second, .val (.long q1), .second, .val (.long q2), .second, .val (.long q3), .second, .val (.long q4), .second, .val (.long q5), .second, .unset, .unset, .unset, .unset, .unset, .unset, .unset, .unset, .unset, .unset, .unset, .unset, .unset, .unset, .unset, .unset, .unset, .unset, .unset, .unset, .unset, .unset, .unset] [])) t → Steps p.tables e below (s₁.setTop (entryFrame m #[(.long q0), (.long q1), (.long q2), (.long q3), (.long q4), (.long q5)] maxLocals)) t := fun t k => castTop (ef0 m q0 q1 q2 q3 q4 q5) k
  let L_1603 : Array Slot := #[.val (.long q0), .second, .val (.long q1), .second, .val (.long q2), .second, .val (.long q3), .second, .val (.long q4), .second, .val (.long q5), .second, .unset, .unset, .unset, .unset, .unset, .unset, .unset, .unset, .unset, .unset, .unset, .unset, .unset, .unset, .unset, .unset, .unset, .unset, .unset, .unset, .unset, .unset, .unset]
  have pre1605 := fun (t : State) (k : Steps p.tables e below (s₁.setTop (mkF m 3 L_1603 [(.int (lcmpW q1 (0 : Int64)))])) t) => pre0 t (by
    show Steps p.tables e below (s₁.setTop (mkF m 0 L_1603 [])) _
    refine XS.lloadN X0.here hx rfl (hb hby at_0) rfl ?_
    refine XS.lconst X0.here hx rfl (hb hby at_1) ?_
    refine XS.lcmp X0.here hx rfl (hb hby at_2) rfl ?_
    exact k)
  by_cases hc1604 : q1 < (0 : Int64)
  · skip
    let L_1606 : Array Slot := #[.val (.long q0), .second, .val (.long q1), .second, .val (.long q2), .second, .val (.long q3), .second, .val (.long q4), .second, .val (.long q5), .second, .val (.int (1 : Int32)), .unset, .unset, .unset, .unset, .unset, .unset, .unset, .unset, .unset, .unset, .unset, .unset, .unset, .unset, .unset, .unset, .unset, .unset, .unset, .unset, .unset, .unset]
    have pre1607 := fun (t : State) (k : Steps p.tables e below (s₁.setTop (mkF m 17 L_1606 [(.int (lcmpW q2 (0 : Int64)))])) t) => pre1605 t (by
      show Steps p.tables e below (s₁.setTop (mkF m 3 L_1603 [(.int (lcmpW q1 (0 : Int64)))])) _
      refine XS.ifNo X0.here hx rfl (hb hby at_3) rfl ((if0 _ _).trans (tlt ((own_lt q1 (0 : Int64)).mpr hc1604)).2.1) ?_
      refine XS.iconst X0.here hx rfl (hb hby at_6) ?_
      refine XS.goto X0.here hx rfl (pc0 := 7) (pc' := 11) rfl (hb hby at_7) (by decide) (by decide) ?_
      refine XS.istore X0.here hx rfl (hb hby at_11) rfl (l' := L_1606) rfl ?_
      refine XS.lload X0.here hx rfl (hb hby at_13) rfl ?_
      refine XS.lconst X0.here hx rfl (hb hby at_15) ?_
      show Steps p.tables e below (s₁.setTop (mkF m 16 L_1606 [(.long (0 : Int64)), (.long q2)])) _
      refine XS.lcmp X0.here hx rfl (hb hby at_16) rfl ?_
      exact k)
    have pre1608 := fun (t : State) (k : Steps p.tables e below (s₁.setTop (mkF m 25 L_1606 [(.int (j0_0 q2))])) t) => pre1607 t (by
      by_cases hc1609 : q2 < (0 : Int64)
      · skip
        show Steps p.tables e below (s₁.setTop (mkF m 17 L_1606 [(.int (lcmpW q2 (0 : Int64)))])) _
        refine XS.ifNo X0.here hx rfl (hb hby at_17) rfl ((if0 _ _).trans (tlt ((own_lt q2 (0 : Int64)).mpr hc1609)).2.1) ?_
        refine XS.iconst X0.here hx rfl (hb hby at_20) ?_
        refine XS.goto X0.here hx rfl (pc0 := 21) (pc' := 25) rfl (hb hby at_21) (by decide) (by decide) ?_
        have hj1610 : (j0_0 q2) = (1 : Int32) := by unfold j0_0; first | (rw [if_pos hc1609]) | (simp only [if_pos hc1609])
        rw [hj1610] at k
        exact k
      · skip
        show Steps p.tables e below (s₁.setTop (mkF m 17 L_1606 [(.int (lcmpW q2 (0 : Int64)))])) _
        refine XS.ifYes X0.here hx rfl (pc0 := 17) (pc' := 24) rfl (hb hby at_17) rfl ((if0 _ _).trans (flt (mt (own_lt q2 (0 : Int64)).mp hc1609)).2.1) (by decide) (by decide) ?_
        refine XS.iconst X0.here hx rfl (hb hby at_24) ?_
        have hj1611 : (j0_0 q2) = (0 : Int32) := by unfold j0_0; first | (rw [if_neg hc1609]) | (simp only [if_neg hc1609])
        rw [hj1611] at k
        exact k)
    have pre1612 := fun (t : State) (k : Steps p.tables e below (s₁.setTop (mkF m 29 L_1606 [(.int (lcmpW q3 (0 : Int64))), (.int (j0_0 q2))])) t) => pre1608 t (by
      show Steps p.tables e below (s₁.setTop (mkF m 25 L_1606 [(.int (j0_0 q2))])) _
      refine XS.lload X0.here hx rfl (hb hby at_25) rfl ?_
      refine XS.lconst X0.here hx rfl (hb hby at_27) ?_
      refine XS.lcmp X0.here hx rfl (hb hby at_28) rfl ?_
      exact k)
    have pre1613 := fun (t : State) (k : Steps p.tables e below (s₁.setTop (mkF m 37 L_1606 [(.int (j0_1 q3)), (.int (j0_0 q2))])) t) => pre1612 t (by
      by_cases hc1614 : q3 < (0 : Int64)
      · skip
        show Steps p.tables e below (s₁.setTop (mkF m 29 L_1606 [(.int (lcmpW q3 (0 : Int64))), (.int (j0_0 q2))])) _
        refine XS.ifNo X0.here hx rfl (hb hby at_29) rfl ((if0 _ _).trans (tlt ((own_lt q3 (0 : Int64)).mpr hc1614)).2.1) ?_
        refine XS.iconst X0.here hx rfl (hb hby at_32) ?_
        refine XS.goto X0.here hx rfl (pc0 := 33) (pc' := 37) rfl (hb hby at_33) (by decide) (by decide) ?_
        have hj1615 : (j0_1 q3) = (2 : Int32) := by unfold j0_1; first | (rw [if_pos hc1614]) | (simp only [if_pos hc1614])
        rw [hj1615] at k
        exact k
      · skip
        show Steps p.tables e below (s₁.setTop (mkF m 29 L_1606 [(.int (lcmpW q3 (0 : Int64))), (.int (j0_0 q2))])) _
        refine XS.ifYes X0.here hx rfl (pc0 := 29) (pc' := 36) rfl (hb hby at_29) rfl ((if0 _ _).trans (flt (mt (own_lt q3 (0 : Int64)).mp hc1614)).2.1) (by decide) (by decide) ?_
        refine XS.iconst X0.here hx rfl (hb hby at_36) ?_
        have hj1616 : (j0_1 q3) = (0 : Int32) := by unfold j0_1; first | (rw [if_neg hc1614]) | (simp only [if_neg hc1614])
        rw [hj1616] at k
        exact k)
    let L_1617 : Array Slot := #[.val (.long q0), .second, .val (.long q1), .second, .val (.long q2), .second, .val (.long q3), .second, .val (.long q4), .second, .val (.long q5), .second, .val (.int (1 : Int32)), .val (.int ((j0_0 q2) + (j0_1 q3))), .unset, .unset, .unset, .unset, .unset, .unset, .unset, .unset, .unset, .unset, .unset, .unset, .unset, .unset, .unset, .unset, .unset, .unset, .unset, .unset, .unset]
    let L_1618 : Array Slot := #[.val (.long q0), .second, .val (.long q1), .second, .val (.long q2), .second, .val (.long q3), .second, .val (.long q4), .second, .val (.long q5), .second, .val (.int (1 : Int32)), .val (.int (own_Nn q2 q3)), .unset, .unset, .unset, .unset, .unset, .unset, .unset, .unset, .unset, .unset, .unset, .unset, .unset, .unset, .unset, .unset, .unset, .unset, .unset, .unset, .unset]
    have pre1619 := fun (t : State) (k : Steps p.tables e below (s₁.setTop (mkF m 44 L_1618 [(.int (lcmpW q4 (0 : Int64)))])) t) => pre1613 t (by
      show Steps p.tables e below (s₁.setTop (mkF m 37 L_1606 [(.int (j0_1 q3)), (.int (j0_0 q2))])) _
      refine XS.iadd X0.here hx rfl (hb hby at_37) rfl ?_
      refine XS.istore X0.here hx rfl (hb hby at_38) rfl (l' := L_1617) rfl ?_
      refine XS.lload X0.here hx rfl (hb hby at_40) rfl ?_
      refine XS.lconst X0.here hx rfl (hb hby at_42) ?_
      refine XS.lcmp X0.here hx rfl (hb hby at_43) rfl ?_
      exact k)
    have pre1620 := fun (t : State) (k : Steps p.tables e below (s₁.setTop (mkF m 52 L_1618 [(.int (j0_2 q4))])) t) => pre1619 t (by
      by_cases hc1621 : q4 < (0 : Int64)
      · skip
        show Steps p.tables e below (s₁.setTop (mkF m 44 L_1618 [(.int (lcmpW q4 (0 : Int64)))])) _
        refine XS.ifNo X0.here hx rfl (hb hby at_44) rfl ((if0 _ _).trans (tlt ((own_lt q4 (0 : Int64)).mpr hc1621)).2.1) ?_
        refine XS.iconst X0.here hx rfl (hb hby at_47) ?_
        refine XS.goto X0.here hx rfl (pc0 := 48) (pc' := 52) rfl (hb hby at_48) (by decide) (by decide) ?_
        have hj1622 : (j0_2 q4) = (1 : Int32) := by unfold j0_2; first | (rw [if_pos hc1621]) | (simp only [if_pos hc1621])
        rw [hj1622] at k
        exact k
      · skip
        show Steps p.tables e below (s₁.setTop (mkF m 44 L_1618 [(.int (lcmpW q4 (0 : Int64)))])) _
        refine XS.ifYes X0.here hx rfl (pc0 := 44) (pc' := 51) rfl (hb hby at_44) rfl ((if0 _ _).trans (flt (mt (own_lt q4 (0 : Int64)).mp hc1621)).2.1) (by decide) (by decide) ?_
        refine XS.iconst X0.here hx rfl (hb hby at_51) ?_
        have hj1623 : (j0_2 q4) = (0 : Int32) := by unfold j0_2; first | (rw [if_neg hc1621]) | (simp only [if_neg hc1621])
        rw [hj1623] at k
        exact k)
    have pre1624 := fun (t : State) (k : Steps p.tables e below (s₁.setTop (mkF m 56 L_1618 [(.int (lcmpW q5 (0 : Int64))), (.int (j0_2 q4))])) t) => pre1620 t (by
      show Steps p.tables e below (s₁.setTop (mkF m 52 L_1618 [(.int (j0_2 q4))])) _
      refine XS.lload X0.here hx rfl (hb hby at_52) rfl ?_
      refine XS.lconst X0.here hx rfl (hb hby at_54) ?_
      refine XS.lcmp X0.here hx rfl (hb hby at_55) rfl ?_
      exact k)
    have pre1625 := fun (t : State) (k : Steps p.tables e below (s₁.setTop (mkF m 64 L_1618 [(.int (j0_3 q5)), (.int (j0_2 q4))])) t) => pre1624 t (by
      by_cases hc1626 : q5 < (0 : Int64)
      · skip
        show Steps p.tables e below (s₁.setTop (mkF m 56 L_1618 [(.int (lcmpW q5 (0 : Int64))), (.int (j0_2 q4))])) _
        refine XS.ifNo X0.here hx rfl (hb hby at_56) rfl ((if0 _ _).trans (tlt ((own_lt q5 (0 : Int64)).mpr hc1626)).2.1) ?_
        refine XS.iconst X0.here hx rfl (hb hby at_59) ?_
        refine XS.goto X0.here hx rfl (pc0 := 60) (pc' := 64) rfl (hb hby at_60) (by decide) (by decide) ?_
        have hj1627 : (j0_3 q5) = (2 : Int32) := by unfold j0_3; first | (rw [if_pos hc1626]) | (simp only [if_pos hc1626])
        rw [hj1627] at k
        exact k
      · skip
        show Steps p.tables e below (s₁.setTop (mkF m 56 L_1618 [(.int (lcmpW q5 (0 : Int64))), (.int (j0_2 q4))])) _
        refine XS.ifYes X0.here hx rfl (pc0 := 56) (pc' := 63) rfl (hb hby at_56) rfl ((if0 _ _).trans (flt (mt (own_lt q5 (0 : Int64)).mp hc1626)).2.1) (by decide) (by decide) ?_
        refine XS.iconst X0.here hx rfl (hb hby at_63) ?_
        have hj1628 : (j0_3 q5) = (0 : Int32) := by unfold j0_3; first | (rw [if_neg hc1626]) | (simp only [if_neg hc1626])
        rw [hj1628] at k
        exact k)
    let L_1629 : Array Slot := #[.val (.long q0), .second, .val (.long q1), .second, .val (.long q2), .second, .val (.long q3), .second, .val (.long q4), .second, .val (.long q5), .second, .val (.int (1 : Int32)), .val (.int (own_Nn q2 q3)), .val (.int ((j0_2 q4) + (j0_3 q5))), .unset, .unset, .unset, .unset, .unset, .unset, .unset, .unset, .unset, .unset, .unset, .unset, .unset, .unset, .unset, .unset, .unset, .unset, .unset, .unset]
    let L_1630 : Array Slot := #[.val (.long q0), .second, .val (.long q1), .second, .val (.long q2), .second, .val (.long q3), .second, .val (.long q4), .second, .val (.long q5), .second, .val (.int (1 : Int32)), .val (.int (own_Nn q2 q3)), .val (.int ((j0_2 q4) + (j0_3 q5))), .val (.int (((j0_2 q4) + (j0_3 q5)) % (4 : Int32))), .unset, .unset, .unset, .unset, .unset, .unset, .unset, .unset, .unset, .unset, .unset, .unset, .unset, .unset, .unset, .unset, .unset, .unset, .unset]
    obtain ⟨_, _, ⟨T1631, L1631, k1631, n1631⟩, -, X1631, ⟨Lc1631, hQ1631, l1631, y1631, z1631⟩, st1631⟩ := Jvm.LawKit.callS X0 hx (y := (⟨"java/lang/Math", "max", "(JJ)J"⟩ : MethodName)) hown (mvT hZ (own_m hw 1 rfl)) (mvT hZ (own_m hw 2 rfl)) (mvT hZ (own_m hw 3 rfl)) (mvT hZ (own_m hw 4 rfl)) (by decide) (backOf (W := 0) (rm1 l Z aw hw [] ((1 : Int64)) ((q0 &&& (9223372036854775807 : Int64))) h0 n0 Z0 ) hZ (own_m hw 4 rfl) (own_m hw 3 rfl) (by decide) (by decide)) (g := (mkF m 82 L_1630 [(.long (q0 &&& (9223372036854775807 : Int64))), (.long (1 : Int64))])) rfl (by rw [hml]; rfl) (argsL := [(.long (1 : Int64)), (.long (q0 &&& (9223372036854775807 : Int64)))]) (rest := []) (lenOf pd_8 rfl) rfl (by show 2 * 0 + _ ≤ _; exact Nat.le_of_eq rfl) (hb hby at_82) (fun _ _ => ⟨rfl, e0, (by decide : 0 + 0 ≤ _), (by decide : 0 + 0 ≤ _)⟩)
    dsimp only [Pt.U, Pt.locs, Pt.cells, Pt.slots] at X1631 l1631 y1631 z1631 st1631 hQ1631
    subst l1631 y1631 z1631
    obtain ⟨rfl, N1631q, e1631⟩ := hQ1631
    have N1631 := Fr.app N0 N1631q
    let L_1632 : Array Slot := #[.val (.long q0), .second, .val (.long q1), .second, .val (.long q2), .second, .val (.long q3), .second, .val (.long q4), .second, .val (.long q5), .second, .val (.int (1 : Int32)), .val (.int (own_Nn q2 q3)), .val (.int ((j0_2 q4) + (j0_3 q5))), .val (.int (((j0_2 q4) + (j0_3 q5)) % (4 : Int32))), .val (.long (j1_0 (1 : Int64) (q0 &&& (9223372036854775807 : Int64)))), .second, .unset, .unset, .unset, .unset, .unset, .unset, .unset, .unset, .unset, .unset, .unset, .unset, .unset, .unset, .unset, .unset, .unset]
    let L_1633 : Array Slot := #[.val (.long q0), .second, .val (.long q1), .second, .val (.long q2), .second, .val (.long q3), .second, .val (.long q4), .second, .val (.long q5), .second, .val (.int (1 : Int32)), .val (.int (own_Nn q2 q3)), .val (.int ((j0_2 q4) + (j0_3 q5))), .val (.int (((j0_2 q4) + (j0_3 q5)) % (4 : Int32))), .val (.long (own_c q0)), .second, .unset, .unset, .unset, .unset, .unset, .unset, .unset, .unset, .unset, .unset, .unset, .unset, .unset, .unset, .unset, .unset, .unset]
    obtain ⟨_, _, ⟨T1634, L1634, k1634, n1634⟩, -, X1634, ⟨Lc1634, hQ1634, l1634, y1634, z1634⟩, st1634⟩ := Jvm.LawKit.callS X1631 hx (y := (⟨"java/lang/Math", "max", "(JJ)J"⟩ : MethodName)) hown (mvT hZ (own_m hw 1 rfl)) (mvT hZ (own_m hw 2 rfl)) (mvT hZ (own_m hw 3 rfl)) (mvT hZ (own_m hw 4 rfl)) (by decide) (backOf (W := 0) (rm1 l Z aw hw [] ((1 : Int64)) ((q1 &&& (9223372036854775807 : Int64))) h0 n0 Z0 ) hZ (own_m hw 4 rfl) (own_m hw 3 rfl) (by decide) (by decide)) (g := (mkF m 93 L_1633 [(.long (q1 &&& (9223372036854775807 : Int64))), (.long (1 : Int64))])) rfl (by rw [hml]; rfl) (argsL := [(.long (1 : Int64)), (.long (q1 &&& (9223372036854775807 : Int64)))]) (rest := []) (lenOf pd_8 rfl) rfl (by show 2 * 0 + _ ≤ _; exact Nat.le_of_eq rfl) (hb hby at_93) (fun _ _ => ⟨rfl, e1631, (by decide : 0 + 0 ≤ _), (by decide : 0 + 0 ≤ _)⟩)
    dsimp only [Pt.U, Pt.locs, Pt.cells, Pt.slots] at X1634 l1634 y1634 z1634 st1634 hQ1634
    subst l1634 y1634 z1634
    obtain ⟨rfl, N1634q, e1634⟩ := hQ1634
    have N1634 := Fr.app N1631 N1634q
    let L_1635 : Array Slot := #[.val (.long q0), .second, .val (.long q1), .second, .val (.long q2), .second, .val (.long q3), .second, .val (.long q4), .second, .val (.long q5), .second, .val (.int (1 : Int32)), .val (.int (own_Nn q2 q3)), .val (.int ((j0_2 q4) + (j0_3 q5))), .val (.int (((j0_2 q4) + (j0_3 q5)) % (4 : Int32))), .val (.long (own_c q0)), .second, .val (.long (j1_0 (1 : Int64) (q1 &&& (9223372036854775807 : Int64)))), .second, .unset, .unset, .unset, .unset, .unset, .unset, .unset, .unset, .unset, .unset, .unset, .unset, .unset, .unset, .unset]
    let L_1636 : Array Slot := #[.val (.long q0), .second, .val (.long q1), .second, .val (.long q2), .second, .val (.long q3), .second, .val (.long q4), .second, .val (.long q5), .second, .val (.int (1 : Int32)), .val (.int (own_Nn q2 q3)), .val (.int ((j0_2 q4) + (j0_3 q5))), .val (.int (((j0_2 q4) + (j0_3 q5)) % (4 : Int32))), .val (.long (own_c q0)), .second, .val (.long (own_c q1)), .second, .unset, .unset, .unset, .unset, .unset, .unset, .unset, .unset, .unset, .unset, .unset, .unset, .unset, .unset, .unset]
    obtain ⟨_, _, ⟨T1637, L1637, k1637, n1637⟩, -, X1637, ⟨Lc1637, hQ1637, l1637, y1637, z1637⟩, st1637⟩ := Jvm.LawKit.callS X1634 hx (y := (⟨"com/example/stowline/stowline/VolumeBoundCopyTotalsPinLaw", "size", "(JJ)J"⟩ : MethodName)) hown (mvT hZ (own_m hw 5 rfl)) (mvT hZ (own_m hw 6 rfl)) (mvT hZ (own_m hw 7 rfl)) (mvT hZ (own_m hw 8 rfl)) (by decide) (backOf (W := 0) (rm2 l Z aw hw [] q2 ((own_c q0)) h0 n0 Z0 (own_p1 _ (own_cp q0))) hZ (own_m hw 8 rfl) (own_m hw 7 rfl) (by decide) (by decide)) (g := (mkF m 102 L_1636 [(.long (own_c q0)), (.long q2)])) rfl (by rw [hml]; rfl) (argsL := [(.long q2), (.long (own_c q0))]) (rest := []) (lenOf pd_8 rfl) rfl (by show 2 * 0 + _ ≤ _; exact Nat.le_of_eq rfl) (hb hby at_102) (fun _ _ => ⟨rfl, e1634, (by decide : 0 + 0 ≤ _), (by decide : 0 + 0 ≤ _)⟩)
    dsimp only [Pt.U, Pt.locs, Pt.cells, Pt.slots] at X1637 l1637 y1637 z1637 st1637 hQ1637
    subst l1637 y1637 z1637
    obtain ⟨rfl, N1637q, e1637⟩ := hQ1637
    have N1637 := Fr.app N1634 N1637q
    let L_1638 : Array Slot := #[.val (.long q0), .second, .val (.long q1), .second, .val (.long q2), .second, .val (.long q3), .second, .val (.long q4), .second, .val (.long q5), .second, .val (.int (1 : Int32)), .val (.int (own_Nn q2 q3)), .val (.int ((j0_2 q4) + (j0_3 q5))), .val (.int (((j0_2 q4) + (j0_3 q5)) % (4 : Int32))), .val (.long (own_c q0)), .second, .val (.long (own_c q1)), .second, .val (.long (v2 q2 (own_c q0))), .second, .unset, .unset, .unset, .unset, .unset, .unset, .unset, .unset, .unset, .unset, .unset, .unset, .unset]
    let L_1639 : Array Slot := #[.val (.long q0), .second, .val (.long q1), .second, .val (.long q2), .second, .val (.long q3), .second, .val (.long q4), .second, .val (.long q5), .second, .val (.int (1 : Int32)), .val (.int (own_Nn q2 q3)), .val (.int ((j0_2 q4) + (j0_3 q5))), .val (.int (((j0_2 q4) + (j0_3 q5)) % (4 : Int32))), .val (.long (own_c q0)), .second, .val (.long (own_c q1)), .second, .val (.long (own_z q2 q0)), .second, .unset, .unset, .unset, .unset, .unset, .unset, .unset, .unset, .unset, .unset, .unset, .unset, .unset]
    obtain ⟨_, _, ⟨T1640, L1640, k1640, n1640⟩, -, X1640, ⟨Lc1640, hQ1640, l1640, y1640, z1640⟩, st1640⟩ := Jvm.LawKit.callS X1637 hx (y := (⟨"com/example/stowline/stowline/VolumeBoundCopyTotalsPinLaw", "size", "(JJ)J"⟩ : MethodName)) hown (mvT hZ (own_m hw 5 rfl)) (mvT hZ (own_m hw 6 rfl)) (mvT hZ (own_m hw 7 rfl)) (mvT hZ (own_m hw 8 rfl)) (by decide) (backOf (W := 0) (rm2 l Z aw hw [] q3 ((own_c q1)) h0 n0 Z0 (own_p1 _ (own_cp q1))) hZ (own_m hw 8 rfl) (own_m hw 7 rfl) (by decide) (by decide)) (g := (mkF m 111 L_1639 [(.long (own_c q1)), (.long q3)])) rfl (by rw [hml]; rfl) (argsL := [(.long q3), (.long (own_c q1))]) (rest := []) (lenOf pd_8 rfl) rfl (by show 2 * 0 + _ ≤ _; exact Nat.le_of_eq rfl) (hb hby at_111) (fun _ _ => ⟨rfl, e1637, (by decide : 0 + 0 ≤ _), (by decide : 0 + 0 ≤ _)⟩)
    dsimp only [Pt.U, Pt.locs, Pt.cells, Pt.slots] at X1640 l1640 y1640 z1640 st1640 hQ1640
    subst l1640 y1640 z1640
    obtain ⟨rfl, N1640q, e1640⟩ := hQ1640
    have N1640 := Fr.app N1637 N1640q
    let L_1641 : Array Slot := #[.val (.long q0), .second, .val (.long q1), .second, .val (.long q2), .second, .val (.long q3), .second, .val (.long q4), .second, .val (.long q5), .second, .val (.int (1 : Int32)), .val (.int (own_Nn q2 q3)), .val (.int ((j0_2 q4) + (j0_3 q5))), .val (.int (((j0_2 q4) + (j0_3 q5)) % (4 : Int32))), .val (.long (own_c q0)), .second, .val (.long (own_c q1)), .second, .val (.long (own_z q2 q0)), .second, .val (.long (v2 q3 (own_c q1))), .second, .unset, .unset, .unset, .unset, .unset, .unset, .unset, .unset, .unset, .unset, .unset]
    let L_1642 : Array Slot := #[.val (.long q0), .second, .val (.long q1), .second, .val (.long q2), .second, .val (.long q3), .second, .val (.long q4), .second, .val (.long q5), .second, .val (.int (1 : Int32)), .val (.int (own_Nn q2 q3)), .val (.int ((j0_2 q4) + (j0_3 q5))), .val (.int (((j0_2 q4) + (j0_3 q5)) % (4 : Int32))), .val (.long (own_c q0)), .second, .val (.long (own_c q1)), .second, .val (.long (own_z q2 q0)), .second, .val (.long (own_z q3 q1)), .second, .unset, .unset, .unset, .unset, .unset, .unset, .unset, .unset, .unset, .unset, .unset]
    obtain ⟨_, _, ⟨T1643, L1643, k1643, n1643⟩, -, X1643, ⟨Lc1643, hQ1643, l1643, y1643, z1643⟩, st1643⟩ := Jvm.LawKit.callS X1640 hx (y := (⟨"com/example/stowline/stowline/VolumeBoundCopyTotalsPinLaw", "size", "(JJ)J"⟩ : MethodName)) hown (mvT hZ (own_m hw 5 rfl)) (mvT hZ (own_m hw 6 rfl)) (mvT hZ (own_m hw 7 rfl)) (mvT hZ (own_m hw 8 rfl)) (by decide) (backOf (W := 0) (rm2 l Z aw hw [] q4 ((own_c q0)) h0 n0 Z0 (own_p1 _ (own_cp q0))) hZ (own_m hw 8 rfl) (own_m hw 7 rfl) (by decide) (by decide)) (g := (mkF m 120 L_1642 [(.long (own_c q0)), (.long q4)])) rfl (by rw [hml]; rfl) (argsL := [(.long q4), (.long (own_c q0))]) (rest := []) (lenOf pd_8 rfl) rfl (by show 2 * 0 + _ ≤ _; exact Nat.le_of_eq rfl) (hb hby at_120) (fun _ _ => ⟨rfl, e1640, (by decide : 0 + 0 ≤ _), (by decide : 0 + 0 ≤ _)⟩)
    dsimp only [Pt.U, Pt.locs, Pt.cells, Pt.slots] at X1643 l1643 y1643 z1643 st1643 hQ1643
    subst l1643 y1643 z1643
    obtain ⟨rfl, N1643q, e1643⟩ := hQ1643
    have N1643 := Fr.app N1640 N1643q
    let L_1644 : Array Slot := #[.val (.long q0), .second, .val (.long q1), .second, .val (.long q2), .second, .val (.long q3), .second, .val (.long q4), .second, .val (.long q5), .second, .val (.int (1 : Int32)), .val (.int (own_Nn q2 q3)), .val (.int ((j0_2 q4) + (j0_3 q5))), .val (.int (((j0_2 q4) + (j0_3 q5)) % (4 : Int32))), .val (.long (own_c q0)), .second, .val (.long (own_c q1)), .second, .val (.long (own_z q2 q0)), .second, .val (.long (own_z q3 q1)), .second, .val (.long (v2 q4 (own_c q0))), .second, .unset, .unset, .unset, .unset, .unset, .unset, .unset, .unset, .unset]
    let L_1645 : Array Slot := #[.val (.long q0), .second, .val (.long q1), .second, .val (.long q2), .second, .val (.long q3), .second, .val (.long q4), .second, .val (.long q5), .second, .val (.int (1 : Int32)), .val (.int (own_Nn q2 q3)), .val (.int ((j0_2 q4) + (j0_3 q5))), .val (.int (((j0_2 q4) + (j0_3 q5)) % (4 : Int32))), .val (.long (own_c q0)), .second, .val (.long (own_c q1)), .second, .val (.long (own_z q2 q0)), .second, .val (.long (own_z q3 q1)), .second, .val (.long (own_z q4 q0)), .second, .unset, .unset, .unset, .unset, .unset, .unset, .unset, .unset, .unset]
    obtain ⟨_, _, ⟨T1646, L1646, k1646, n1646⟩, -, X1646, ⟨Lc1646, hQ1646, l1646, y1646, z1646⟩, st1646⟩ := Jvm.LawKit.callS X1643 hx (y := (⟨"com/example/stowline/stowline/VolumeBoundCopyTotalsPinLaw", "size", "(JJ)J"⟩ : MethodName)) hown (mvT hZ (own_m hw 5 rfl)) (mvT hZ (own_m hw 6 rfl)) (mvT hZ (own_m hw 7 rfl)) (mvT hZ (own_m hw 8 rfl)) (by decide) (backOf (W := 0) (rm2 l Z aw hw [] q5 ((own_c q1)) h0 n0 Z0 (own_p1 _ (own_cp q1))) hZ (own_m hw 8 rfl) (own_m hw 7 rfl) (by decide) (by decide)) (g := (mkF m 129 L_1645 [(.long (own_c q1)), (.long q5)])) rfl (by rw [hml]; rfl) (argsL := [(.long q5), (.long (own_c q1))]) (rest := []) (lenOf pd_8 rfl) rfl (by show 2 * 0 + _ ≤ _; exact Nat.le_of_eq rfl) (hb hby at_129) (fun _ _ => ⟨rfl, e1643, (by decide : 0 + 0 ≤ _), (by decide : 0 + 0 ≤ _)⟩)
    dsimp only [Pt.U, Pt.locs, Pt.cells, Pt.slots] at X1646 l1646 y1646 z1646 st1646 hQ1646
    subst l1646 y1646 z1646
    obtain ⟨rfl, N1646q, e1646⟩ := hQ1646
    have N1646 := Fr.app N1643 N1646q
    let L_1647 : Array Slot := #[.val (.long q0), .second, .val (.long q1), .second, .val (.long q2), .second, .val (.long q3), .second, .val (.long q4), .second, .val (.long q5), .second, .val (.int (1 : Int32)), .val (.int (own_Nn q2 q3)), .val (.int ((j0_2 q4) + (j0_3 q5))), .val (.int (((j0_2 q4) + (j0_3 q5)) % (4 : Int32))), .val (.long (own_c q0)), .second, .val (.long (own_c q1)), .second, .val (.long (own_z q2 q0)), .second, .val (.long (own_z q3 q1)), .second, .val (.long (own_z q4 q0)), .second, .val (.long (v2 q5 (own_c q1))), .second, .unset, .unset, .unset, .unset, .unset, .unset, .unset]
    let L_1648 : Array Slot := #[.val (.long q0), .second, .val (.long q1), .second, .val (.long q2), .second, .val (.long q3), .second, .val (.long q4), .second, .val (.long q5), .second, .val (.int (1 : Int32)), .val (.int (own_Nn q2 q3)), .val (.int ((j0_2 q4) + (j0_3 q5))), .val (.int (((j0_2 q4) + (j0_3 q5)) % (4 : Int32))), .val (.long (own_c q0)), .second, .val (.long (own_c q1)), .second, .val (.long (own_z q2 q0)), .second, .val (.long (own_z q3 q1)), .second, .val (.long (own_z q4 q0)), .second, .val (.long (own_z q5 q1)), .second, .unset, .unset, .unset, .unset, .unset, .unset, .unset]
    obtain ⟨T1649, h1649, k1649, X1649, e1649, E1649, A1649, B1649, st1649⟩ := newPE X1646 hx hZ (own_m hw 9 rfl) e1646 (g := (mkF m 136 L_1648 [(.int (1 : Int32))])) rfl (hb hby at_136) rfl (by decide) (cap := 1) (by decide) (by decide) (by decide) (by decide) (ad := "[J") (by decide)
    obtain ⟨b1649, gg1649⟩ : ∃ z, z = h0.size := ⟨_, rfl⟩
    rw [← gg1649] at A1649 B1649 st1649
    have g_b1649 : n0 ≤ b1649 := Nat.le_trans Z0 (Nat.le_of_eq gg1649.symm)
    have Z1650 := Nat.le_trans Z0 E1649.1
    have hk := Nat.le_trans hk E1649.1
    have V1649 : Arv Z h1649 b1649 k1649 .long (1 : Int32) [(.long (0 : Int64))] (.long (0 : Int64)) := (Arv.new A1649 (by decide)).pad (pad_rep [] (.long (0 : Int64)) 1)
    let L_1651 : Array Slot := #[.val (.long q0), .second, .val (.long q1), .second, .val (.long q2), .second, .val (.long q3), .second, .val (.long q4), .second, .val (.long q5), .second, .val (.int (1 : Int32)), .val (.int (own_Nn q2 q3)), .val (.int ((j0_2 q4) + (j0_3 q5))), .val (.int (((j0_2 q4) + (j0_3 q5)) % (4 : Int32))), .val (.long (own_c q0)), .second, .val (.long (own_c q1)), .second, .val (.long (own_z q2 q0)), .second, .val (.long (own_z q3 q1)), .second, .val (.long (own_z q4 q0)), .second, .val (.long (own_z q5 q1)), .second, .val (.ref b1649), .unset, .unset, .unset, .unset, .unset, .unset]
    obtain ⟨T1652, h1652, k1652, X1652, e1652, E1652, A1652, B1652, st1652⟩ := newPE X1649 hx hZ (own_m hw 9 rfl) e1649 (g := (mkF m 142 L_1651 [(.int (1 : Int32))])) rfl (hb hby at_142) rfl (by decide) (cap := 1) (by decide) (by decide) (by decide) (by decide) (ad := "[J") (by decide)
    obtain ⟨b1652, gg1652⟩ : ∃ z, z = h1649.size := ⟨_, rfl⟩
    rw [← gg1652] at A1652 B1652 st1652
    have f1653 := B1649.ext E1652
    have f1654 := V1649.ext E1652
    have ne1655 : b1649 ≠ b1652 := Nat.ne_of_lt (Nat.lt_of_lt_of_le B1649.lt (Nat.le_of_eq gg1652.symm))
    have g_b1652 : n0 ≤ b1652 := Nat.le_trans Z1650 (Nat.le_of_eq gg1652.symm)
    have Z1656 := Nat.le_trans Z1650 E1652.1
    have hk := Nat.le_trans hk E1652.1
    have V1652 : Arv Z h1652 b1652 k1652 .long (1 : Int32) [(.long (0 : Int64))] (.long (0 : Int64)) := (Arv.new A1652 (by decide)).pad (pad_rep [] (.long (0 : Int64)) 1)
    let L_1657 : Array Slot := #[.val (.long q0), .second, .val (.long q1), .second, .val (.long q2), .second, .val (.long q3), .second, .val (.long q4), .second, .val (.long q5), .second, .val (.int (1 : Int32)), .val (.int (own_Nn q2 q3)), .val (.int ((j0_2 q4) + (j0_3 q5))), .val (.int (((j0_2 q4) + (j0_3 q5)) % (4 : Int32))), .val (.long (own_c q0)), .second, .val (.long (own_c q1)), .second, .val (.long (own_z q2 q0)), .second, .val (.long (own_z q3 q1)), .second, .val (.long (own_z q4 q0)), .second, .val (.long (own_z q5 q1)), .second, .val (.ref b1649), .val (.ref b1652), .unset, .unset, .unset, .unset, .unset]
    obtain ⟨T1658, h1658, k1658, X1658, e1658, E1658, A1658, B1658, st1658⟩ := newPE X1652 hx hZ (own_m hw 9 rfl) e1652 (g := (mkF m 148 L_1657 [(.int (1 : Int32))])) rfl (hb hby at_148) rfl (by decide) (cap := 1) (by decide) (by decide) (by decide) (by decide) (ad := "[J") (by decide)
    obtain ⟨b1658, gg1658⟩ : ∃ z, z = h1652.size := ⟨_, rfl⟩
    rw [← gg1658] at A1658 B1658 st1658
    have f1659 := f1653.ext E1658
    have f1660 := f1654.ext E1658
    have f1661 := B1652.ext E1658
    have f1662 := V1652.ext E1658
    have ne1663 : b1649 ≠ b1658 := Nat.ne_of_lt (Nat.lt_of_lt_of_le f1653.lt (Nat.le_of_eq gg1658.symm))
    have ne1664 : b1652 ≠ b1658 := Nat.ne_of_lt (Nat.lt_of_lt_of_le B1652.lt (Nat.le_of_eq gg1658.symm))
    have g_b1658 : n0 ≤ b1658 := Nat.le_trans Z1656 (Nat.le_of_eq gg1658.symm)
    have Z1665 := Nat.le_trans Z1656 E1658.1
    have hk := Nat.le_trans hk E1658.1
    have V1658 : Arv Z h1658 b1658 k1658 .long (1 : Int32) [(.long (0 : Int64))] (.long (0 : Int64)) := (Arv.new A1658 (by decide)).pad (pad_rep [] (.long (0 : Int64)) 1)
    let L_1666 : Array Slot := #[.val (.long q0), .second, .val (.long q1), .second, .val (.long q2), .second, .val (.long q3), .second, .val (.long q4), .second, .val (.long q5), .second, .val (.int (1 : Int32)), .val (.int (own_Nn q2 q3)), .val (.int ((j0_2 q4) + (j0_3 q5))), .val (.int (((j0_2 q4) + (j0_3 q5)) % (4 : Int32))), .val (.long (own_c q0)), .second, .val (.long (own_c q1)), .second, .val (.long (own_z q2 q0)), .second, .val (.long (own_z q3 q1)), .second, .val (.long (own_z q4 q0)), .second, .val (.long (own_z q5 q1)), .second, .val (.ref b1649), .val (.ref b1652), .val (.ref b1658), .unset, .unset, .unset, .unset]
    obtain ⟨cl1667, Ar1667, q1667, S1667, M1667, H1667, G1667⟩ := id f1660
    have hin1668 : ¬ ((0 : Int32) < 0 ∨ cl1667.slots.size ≤ ((0 : Int32)).toNatClampNeg) := inb_of S1667 ⟨by decide, by decide⟩
    obtain ⟨T1669, h1669, X1669, e1669, W1669, st1669⟩ := stJ X1658 hx hZ e1658 Ar1667 (j := (0 : Int32)) hin1668 (g := (mkF m 157 L_1666 [(.long (own_c q0)), (.int (0 : Int32)), (.ref b1649)])) rfl rfl (hb hby at_157)
    have V1669 : Arv Z h1669 b1649 k1649 .long (1 : Int32) [(.long (own_c q0))] (.long (0 : Int64)) := Arv.set Ar1667 q1667 S1667 M1667 H1667 G1667 rfl W1669 0 rfl (Nat.le_of_ble_eq_true rfl)
    have f1670 := f1659.wr W1669
    have f1672 := f1661.wr W1669
    have f1673 := f1662.other W1669 (Ne.symm ne1655)
    have f1674 := B1658.wr W1669
    have f1675 := V1658.other W1669 (Ne.symm ne1663)
    have Z1676 := Nat.le_trans Z1665 (Keep.of_wr W1669).1
    have hk := Nat.le_trans hk (Keep.of_wr W1669).1
    have N1677 := Fr.snoc X1669 N1646 g_b1649
    obtain ⟨cl1678, Ar1678, q1678, S1678, M1678, H1678, G1678⟩ := id f1673
    have hin1679 : ¬ ((0 : Int32) < 0 ∨ cl1678.slots.size ≤ ((0 : Int32)).toNatClampNeg) := inb_of S1678 ⟨by decide, by decide⟩
    obtain ⟨T1680, h1680, X1680, e1680, W1680, st1680⟩ := stJ X1669 hx hZ e1669 Ar1678 (j := (0 : Int32)) hin1679 (g := (mkF m 163 L_1666 [(.long (own_z q2 q0)), (.int (0 : Int32)), (.ref b1652)])) rfl rfl (hb hby at_163)
    have V1680 : Arv Z h1680 b1652 k1652 .long (1 : Int32) [(.long (own_z q2 q0))] (.long (0 : Int64)) := Arv.set Ar1678 q1678 S1678 M1678 H1678 G1678 rfl W1680 0 rfl (Nat.le_of_ble_eq_true rfl)
    have f1681 := f1670.wr W1680
    have f1682 := V1669.other W1680 ne1655
    have f1683 := f1672.wr W1680
    have f1685 := f1674.wr W1680
    have f1686 := f1675.other W1680 (Ne.symm ne1664)
    have Z1687 := Nat.le_trans Z1676 (Keep.of_wr W1680).1
    have hk := Nat.le_trans hk (Keep.of_wr W1680).1
    have N1688 := Fr.snoc X1680 N1677 g_b1652
    obtain ⟨cl1689, Ar1689, q1689, S1689, M1689, H1689, G1689⟩ := id f1686
    have hin1690 : ¬ ((0 : Int32) < 0 ∨ cl1689.slots.size ≤ ((0 : Int32)).toNatClampNeg) := inb_of S1689 ⟨by decide, by decide⟩
    obtain ⟨T1691, h1691, X1691, e1691, W1691, st1691⟩ := stJ X1680 hx hZ e1680 Ar1689 (j := (0 : Int32)) hin1690 (g := (mkF m 169 L_1666 [(.long (own_z q4 q0)), (.int (0 : Int32)), (.ref b1658)])) rfl rfl (hb hby at_169)
    have V1691 : Arv Z h1691 b1658 k1658 .long (1 : Int32) [(.long (own_z q4 q0))] (.long (0 : Int64)) := Arv.set Ar1689 q1689 S1689 M1689 H1689 G1689 rfl W1691 0 rfl (Nat.le_of_ble_eq_true rfl)
    have f1692 := f1681.wr W1691
    have f1693 := f1682.other W1691 ne1663
    have f1694 := f1683.wr W1691
    have f1695 := V1680.other W1691 ne1664
    have f1696 := f1685.wr W1691
    have Z1698 := Nat.le_trans Z1687 (Keep.of_wr W1691).1
    have hk := Nat.le_trans hk (Keep.of_wr W1691).1
    have N1699 := Fr.snoc X1691 N1688 g_b1658
    obtain ⟨T1700, h1700, k1700, X1700, e1700, E1700, A1700, B1700, st1700⟩ := newPE X1691 hx hZ (own_m hw 9 rfl) e1691 (g := (mkF m 195 L_1666 [(.int (4 : Int32))])) rfl (hb hby at_195) rfl (by decide) (cap := 4) (by decide) (by decide) (by decide) (by decide) (ad := "[J") (by decide)
    obtain ⟨b1700, gg1700⟩ : ∃ z, z = h1691.size := ⟨_, rfl⟩
    rw [← gg1700] at A1700 B1700 st1700
    have f1701 := f1692.ext E1700
    have f1702 := f1693.ext E1700
    have f1703 := f1694.ext E1700
    have f1704 := f1695.ext E1700
    have f1705 := f1696.ext E1700
    have f1706 := V1691.ext E1700
    have ne1707 : b1649 ≠ b1700 := Nat.ne_of_lt (Nat.lt_of_lt_of_le f1692.lt (Nat.le_of_eq gg1700.symm))
    have ne1708 : b1652 ≠ b1700 := Nat.ne_of_lt (Nat.lt_of_lt_of_le f1694.lt (Nat.le_of_eq gg1700.symm))
    have ne1709 : b1658 ≠ b1700 := Nat.ne_of_lt (Nat.lt_of_lt_of_le f1696.lt (Nat.le_of_eq gg1700.symm))
    have g_b1700 : n0 ≤ b1700 := Nat.le_trans Z1698 (Nat.le_of_eq gg1700.symm)
    have Z1710 := Nat.le_trans Z1698 E1700.1
    have hk := Nat.le_trans hk E1700.1
    have V1700 : Arv Z h1700 b1700 k1700 .long (4 : Int32) [(.long (0 : Int64)), (.long (0 : Int64)), (.long (0 : Int64)), (.long (0 : Int64))] (.long (0 : Int64)) := (Arv.new A1700 (by decide)).pad (pad_rep [] (.long (0 : Int64)) 4)
    obtain ⟨cl1711, Ar1711, q1711, S1711, M1711, H1711, G1711⟩ := id V1700
    have hin1712 : ¬ ((0 : Int32) < 0 ∨ cl1711.slots.size ≤ ((0 : Int32)).toNatClampNeg) := inb_of S1711 ⟨by decide, by decide⟩
    obtain ⟨T1713, h1713, X1713, e1713, W1713, st1713⟩ := stJ X1700 hx hZ e1700 Ar1711 (j := (0 : Int32)) hin1712 (g := (mkF m 202 L_1666 [(.long (-1 : Int64)), (.int (0 : Int32)), (.ref b1700), (.ref b1700)])) rfl rfl (hb hby at_202)
    have V1713 : Arv Z h1713 b1700 k1700 .long (4 : Int32) [(.long (-1 : Int64)), (.long (0 : Int64)), (.long (0 : Int64)), (.long (0 : Int64))] (.long (0 : Int64)) := Arv.set Ar1711 q1711 S1711 M1711 H1711 G1711 rfl W1713 0 rfl (Nat.le_of_ble_eq_true rfl)
    have f1714 := f1701.wr W1713
    have f1715 := f1702.other W1713 ne1707
    have f1716 := f1703.wr W1713
    have f1717 := f1704.other W1713 ne1708
    have f1718 := f1705.wr W1713
    have f1719 := f1706.other W1713 ne1709
    have f1720 := B1700.wr W1713
    have Z1722 := Nat.le_trans Z1710 (Keep.of_wr W1713).1
    have hk := Nat.le_trans hk (Keep.of_wr W1713).1
    have N1723 := Fr.snoc X1713 N1699 g_b1700
    obtain ⟨cl1724, Ar1724, q1724, S1724, M1724, H1724, G1724⟩ := id V1713
    have hin1725 : ¬ ((1 : Int32) < 0 ∨ cl1724.slots.size ≤ ((1 : Int32)).toNatClampNeg) := inb_of S1724 ⟨by decide, by decide⟩
    obtain ⟨T1726, h1726, X1726, e1726, W1726, st1726⟩ := stJ X1713 hx hZ e1713 Ar1724 (j := (1 : Int32)) hin1725 (g := (mkF m 208 L_1666 [(.long (-2 : Int64)), (.int (1 : Int32)), (.ref b1700), (.ref b1700)])) rfl rfl (hb hby at_208)
    have V1726 : Arv Z h1726 b1700 k1700 .long (4 : Int32) [(.long (-1 : Int64)), (.long (-2 : Int64)), (.long (0 : Int64)), (.long (0 : Int64))] (.long (0 : Int64)) := Arv.set Ar1724 q1724 S1724 M1724 H1724 G1724 rfl W1726 1 rfl (Nat.le_of_ble_eq_true rfl)
    have f1727 := f1714.wr W1726
    have f1728 := f1715.other W1726 ne1707
    have f1729 := f1716.wr W1726
    have f1730 := f1717.other W1726 ne1708
    have f1731 := f1718.wr W1726
    have f1732 := f1719.other W1726 ne1709
    have f1733 := f1720.wr W1726
    have Z1735 := Nat.le_trans Z1722 (Keep.of_wr W1726).1
    have hk := Nat.le_trans hk (Keep.of_wr W1726).1
    have N1736 := Fr.snoc X1726 N1723 g_b1700
    obtain ⟨cl1737, Ar1737, q1737, S1737, M1737, H1737, G1737⟩ := id V1726
    have hin1738 : ¬ ((2 : Int32) < 0 ∨ cl1737.slots.size ≤ ((2 : Int32)).toNatClampNeg) := inb_of S1737 ⟨by decide, by decide⟩
    obtain ⟨T1739, h1739, X1739, e1739, W1739, st1739⟩ := stJ X1726 hx hZ e1726 Ar1737 (j := (2 : Int32)) hin1738 (g := (mkF m 214 L_1666 [(.long (-3 : Int64)), (.int (2 : Int32)), (.ref b1700), (.ref b1700)])) rfl rfl (hb hby at_214)
    have V1739 : Arv Z h1739 b1700 k1700 .long (4 : Int32) [(.long (-1 : Int64)), (.long (-2 : Int64)), (.long (-3 : Int64)), (.long (0 : Int64))] (.long (0 : Int64)) := Arv.set Ar1737 q1737 S1737 M1737 H1737 G1737 rfl W1739 2 rfl (Nat.le_of_ble_eq_true rfl)
    have f1740 := f1727.wr W1739
    have f1741 := f1728.other W1739 ne1707
    have f1742 := f1729.wr W1739
    have f1743 := f1730.other W1739 ne1708
    have f1744 := f1731.wr W1739
    have f1745 := f1732.other W1739 ne1709
    have f1746 := f1733.wr W1739
    have Z1748 := Nat.le_trans Z1735 (Keep.of_wr W1739).1
    have hk := Nat.le_trans hk (Keep.of_wr W1739).1
    have N1749 := Fr.snoc X1739 N1736 g_b1700
    obtain ⟨cl1750, Ar1750, q1750, S1750, M1750, H1750, G1750⟩ := id V1739
    have hin1751 : ¬ ((3 : Int32) < 0 ∨ cl1750.slots.size ≤ ((3 : Int32)).toNatClampNeg) := inb_of S1750 ⟨by decide, by decide⟩
    obtain ⟨T1752, h1752, X1752, e1752, W1752, st1752⟩ := stJ X1739 hx hZ e1739 Ar1750 (j := (3 : Int32)) hin1751 (g := (mkF m 220 L_1666 [(.long (-4 : Int64)), (.int (3 : Int32)), (.ref b1700), (.ref b1700)])) rfl rfl (hb hby at_220)
    have V1752 : Arv Z h1752 b1700 k1700 .long (4 : Int32) [(.long (-1 : Int64)), (.long (-2 : Int64)), (.long (-3 : Int64)), (.long (-4 : Int64))] (.long (0 : Int64)) := Arv.set Ar1750 q1750 S1750 M1750 H1750 G1750 rfl W1752 3 rfl (Nat.le_of_ble_eq_true rfl)
    have f1753 := f1740.wr W1752
    have f1754 := f1741.other W1752 ne1707
    have f1755 := f1742.wr W1752
    have f1756 := f1743.other W1752 ne1708
    have f1757 := f1744.wr W1752
    have f1758 := f1745.other W1752 ne1709
    have f1759 := f1746.wr W1752
    have Z1761 := Nat.le_trans Z1748 (Keep.of_wr W1752).1
    have hk := Nat.le_trans hk (Keep.of_wr W1752).1
    have N1762 := Fr.snoc X1752 N1749 g_b1700
    let L_1763 : Array Slot := #[.val (.long q0), .second, .val (.long q1), .second, .val (.long q2), .second, .val (.long q3), .second, .val (.long q4), .second, .val (.long q5), .second, .val (.int (1 : Int32)), .val (.int (own_Nn q2 q3)), .val (.int ((j0_2 q4) + (j0_3 q5))), .val (.int (((j0_2 q4) + (j0_3 q5)) % (4 : Int32))), .val (.long (own_c q0)), .second, .val (.long (own_c q1)), .second, .val (.long (own_z q2 q0)), .second, .val (.long (own_z q3 q1)), .second, .val (.long (own_z q4 q0)), .second, .val (.long (own_z q5 q1)), .second, .val (.ref b1649), .val (.ref b1652), .val (.ref b1658), .val (.ref b1700), .unset, .unset, .unset]
    obtain ⟨T1764, h1764, k1764, X1764, e1764, E1764, A1764, B1764, st1764⟩ := newPE X1752 hx hZ (own_m hw 9 rfl) e1752 (g := (mkF m 224 L_1763 [(.int (4 : Int32))])) rfl (hb hby at_224) rfl (by decide) (cap := 4) (by decide) (by decide) (by decide) (by decide) (ad := "[J") (by decide)
    obtain ⟨b1764, gg1764⟩ : ∃ z, z = h1752.size := ⟨_, rfl⟩
    rw [← gg1764] at A1764 B1764 st1764
    have f1765 := f1753.ext E1764
    have f1766 := f1754.ext E1764
    have f1767 := f1755.ext E1764
    have f1768 := f1756.ext E1764
    have f1769 := f1757.ext E1764
    have f1770 := f1758.ext E1764
    have f1771 := f1759.ext E1764
    have f1772 := V1752.ext E1764
    have ne1773 : b1649 ≠ b1764 := Nat.ne_of_lt (Nat.lt_of_lt_of_le f1753.lt (Nat.le_of_eq gg1764.symm))
    have ne1774 : b1652 ≠ b1764 := Nat.ne_of_lt (Nat.lt_of_lt_of_le f1755.lt (Nat.le_of_eq gg1764.symm))
    have ne1775 : b1658 ≠ b1764 := Nat.ne_of_lt (Nat.lt_of_lt_of_le f1757.lt (Nat.le_of_eq gg1764.symm))
    have ne1776 : b1700 ≠ b1764 := Nat.ne_of_lt (Nat.lt_of_lt_of_le f1759.lt (Nat.le_of_eq gg1764.symm))
    have g_b1764 : n0 ≤ b1764 := Nat.le_trans Z1761 (Nat.le_of_eq gg1764.symm)
    have Z1777 := Nat.le_trans Z1761 E1764.1
    have hk := Nat.le_trans hk E1764.1
    have V1764 : Arv Z h1764 b1764 k1764 .long (4 : Int32) [(.long (0 : Int64)), (.long (0 : Int64)), (.long (0 : Int64)), (.long (0 : Int64))] (.long (0 : Int64)) := (Arv.new A1764 (by decide)).pad (pad_rep [] (.long (0 : Int64)) 4)
    obtain ⟨cl1778, Ar1778, q1778, S1778, M1778, H1778, G1778⟩ := id V1764
    have hin1779 : ¬ ((0 : Int32) < 0 ∨ cl1778.slots.size ≤ ((0 : Int32)).toNatClampNeg) := inb_of S1778 ⟨by decide, by decide⟩
    obtain ⟨T1780, h1780, X1780, e1780, W1780, st1780⟩ := stJ X1764 hx hZ e1764 Ar1778 (j := (0 : Int32)) hin1779 (g := (mkF m 231 L_1763 [(.long (-11 : Int64)), (.int (0 : Int32)), (.ref b1764), (.ref b1764)])) rfl rfl (hb hby at_231)
    have V1780 : Arv Z h1780 b1764 k1764 .long (4 : Int32) [(.long (-11 : Int64)), (.long (0 : Int64)), (.long (0 : Int64)), (.long (0 : Int64))] (.long (0 : Int64)) := Arv.set Ar1778 q1778 S1778 M1778 H1778 G1778 rfl W1780 0 rfl (Nat.le_of_ble_eq_true rfl)
    have f1781 := f1765.wr W1780
    have f1782 := f1766.other W1780 ne1773
    have f1783 := f1767.wr W1780
    have f1784 := f1768.other W1780 ne1774
    have f1785 := f1769.wr W1780
    have f1786 := f1770.other W1780 ne1775
    have f1787 := f1771.wr W1780
    have f1788 := f1772.other W1780 ne1776
    have f1789 := B1764.wr W1780
    have Z1791 := Nat.le_trans Z1777 (Keep.of_wr W1780).1
    have hk := Nat.le_trans hk (Keep.of_wr W1780).1
    have N1792 := Fr.snoc X1780 N1762 g_b1764
    obtain ⟨cl1793, Ar1793, q1793, S1793, M1793, H1793, G1793⟩ := id V1780
    have hin1794 : ¬ ((1 : Int32) < 0 ∨ cl1793.slots.size ≤ ((1 : Int32)).toNatClampNeg) := inb_of S1793 ⟨by decide, by decide⟩
    obtain ⟨T1795, h1795, X1795, e1795, W1795, st1795⟩ := stJ X1780 hx hZ e1780 Ar1793 (j := (1 : Int32)) hin1794 (g := (mkF m 237 L_1763 [(.long (-12 : Int64)), (.int (1 : Int32)), (.ref b1764), (.ref b1764)])) rfl rfl (hb hby at_237)
    have V1795 : Arv Z h1795 b1764 k1764 .long (4 : Int32) [(.long (-11 : Int64)), (.long (-12 : Int64)), (.long (0 : Int64)), (.long (0 : Int64))] (.long (0 : Int64)) := Arv.set Ar1793 q1793 S1793 M1793 H1793 G1793 rfl W1795 1 rfl (Nat.le_of_ble_eq_true rfl)
    have f1796 := f1781.wr W1795
    have f1797 := f1782.other W1795 ne1773
    have f1798 := f1783.wr W1795
    have f1799 := f1784.other W1795 ne1774
    have f1800 := f1785.wr W1795
    have f1801 := f1786.other W1795 ne1775
    have f1802 := f1787.wr W1795
    have f1803 := f1788.other W1795 ne1776
    have f1804 := f1789.wr W1795
    have Z1806 := Nat.le_trans Z1791 (Keep.of_wr W1795).1
    have hk := Nat.le_trans hk (Keep.of_wr W1795).1
    have N1807 := Fr.snoc X1795 N1792 g_b1764
    obtain ⟨cl1808, Ar1808, q1808, S1808, M1808, H1808, G1808⟩ := id V1795
    have hin1809 : ¬ ((2 : Int32) < 0 ∨ cl1808.slots.size ≤ ((2 : Int32)).toNatClampNeg) := inb_of S1808 ⟨by decide, by decide⟩
    obtain ⟨T1810, h1810, X1810, e1810, W1810, st1810⟩ := stJ X1795 hx hZ e1795 Ar1808 (j := (2 : Int32)) hin1809 (g := (mkF m 243 L_1763 [(.long (-13 : Int64)), (.int (2 : Int32)), (.ref b1764), (.ref b1764)])) rfl rfl (hb hby at_243)
    have V1810 : Arv Z h1810 b1764 k1764 .long (4 : Int32) [(.long (-11 : Int64)), (.long (-12 : Int64)), (.long (-13 : Int64)), (.long (0 : Int64))] (.long (0 : Int64)) := Arv.set Ar1808 q1808 S1808 M1808 H1808 G1808 rfl W1810 2 rfl (Nat.le_of_ble_eq_true rfl)
    have f1811 := f1796.wr W1810
    have f1812 := f1797.other W1810 ne1773
    have f1813 := f1798.wr W1810
    have f1814 := f1799.other W1810 ne1774
    have f1815 := f1800.wr W1810
    have f1816 := f1801.other W1810 ne1775
    have f1817 := f1802.wr W1810
    have f1818 := f1803.other W1810 ne1776
    have f1819 := f1804.wr W1810
    have Z1821 := Nat.le_trans Z1806 (Keep.of_wr W1810).1
    have hk := Nat.le_trans hk (Keep.of_wr W1810).1
    have N1822 := Fr.snoc X1810 N1807 g_b1764
    obtain ⟨cl1823, Ar1823, q1823, S1823, M1823, H1823, G1823⟩ := id V1810
    have hin1824 : ¬ ((3 : Int32) < 0 ∨ cl1823.slots.size ≤ ((3 : Int32)).toNatClampNeg) := inb_of S1823 ⟨by decide, by decide⟩
    obtain ⟨T1825, h1825, X1825, e1825, W1825, st1825⟩ := stJ X1810 hx hZ e1810 Ar1823 (j := (3 : Int32)) hin1824 (g := (mkF m 249 L_1763 [(.long (-14 : Int64)), (.int (3 : Int32)), (.ref b1764), (.ref b1764)])) rfl rfl (hb hby at_249)
    have V1825 : Arv Z h1825 b1764 k1764 .long (4 : Int32) [(.long (-11 : Int64)), (.long (-12 : Int64)), (.long (-13 : Int64)), (.long (-14 : Int64))] (.long (0 : Int64)) := Arv.set Ar1823 q1823 S1823 M1823 H1823 G1823 rfl W1825 3 rfl (Nat.le_of_ble_eq_true rfl)
    have f1826 := f1811.wr W1825
    have f1827 := f1812.other W1825 ne1773
    have f1828 := f1813.wr W1825
    have f1829 := f1814.other W1825 ne1774
    have f1830 := f1815.wr W1825
    have f1831 := f1816.other W1825 ne1775
    have f1832 := f1817.wr W1825
    have f1833 := f1818.other W1825 ne1776
    have f1834 := f1819.wr W1825
    have Z1836 := Nat.le_trans Z1821 (Keep.of_wr W1825).1
    have hk := Nat.le_trans hk (Keep.of_wr W1825).1
    have N1837 := Fr.snoc X1825 N1822 g_b1764
    let L_1838 : Array Slot := #[.val (.long q0), .second, .val (.long q1), .second, .val (.long q2), .second, .val (.long q3), .second, .val (.long q4), .second, .val (.long q5), .second, .val (.int (1 : Int32)), .val (.int (own_Nn q2 q3)), .val (.int ((j0_2 q4) + (j0_3 q5))), .val (.int (((j0_2 q4) + (j0_3 q5)) % (4 : Int32))), .val (.long (own_c q0)), .second, .val (.long (own_c q1)), .second, .val (.long (own_z q2 q0)), .second, .val (.long (own_z q3 q1)), .second, .val (.long (own_z q4 q0)), .second, .val (.long (own_z q5 q1)), .second, .val (.ref b1649), .val (.ref b1652), .val (.ref b1658), .val (.ref b1700), .val (.ref b1764), .unset, .unset]
    obtain ⟨T1839, h1839, X1839, e1839, E1839, A1839, D1839, -, st1839⟩ := newO X1825 hx hZ hown (own_m hw 18 rfl) (own_m hw 19 rfl) (own_m hw 20 rfl) e1825 (g := (mkF m 252 L_1838 [])) rfl (hb hby at_252) (by decide) (by decide)
    obtain ⟨b1839, gg1839⟩ : ∃ z, z = h1825.size := ⟨_, rfl⟩
    rw [← gg1839] at A1839 D1839 st1839
    have f1840 := f1826.ext E1839
    have f1841 := f1827.ext E1839
    have f1842 := f1828.ext E1839
    have f1843 := f1829.ext E1839
    have f1844 := f1830.ext E1839
    have f1845 := f1831.ext E1839
    have f1846 := f1832.ext E1839
    have f1847 := f1833.ext E1839
    have f1848 := f1834.ext E1839
    have f1849 := V1825.ext E1839
    have ne1850 : b1649 ≠ b1839 := Nat.ne_of_lt (Nat.lt_of_lt_of_le f1826.lt (Nat.le_of_eq gg1839.symm))
    have ne1851 : b1652 ≠ b1839 := Nat.ne_of_lt (Nat.lt_of_lt_of_le f1828.lt (Nat.le_of_eq gg1839.symm))
    have ne1852 : b1658 ≠ b1839 := Nat.ne_of_lt (Nat.lt_of_lt_of_le f1830.lt (Nat.le_of_eq gg1839.symm))
    have ne1853 : b1700 ≠ b1839 := Nat.ne_of_lt (Nat.lt_of_lt_of_le f1832.lt (Nat.le_of_eq gg1839.symm))
    have ne1854 : b1764 ≠ b1839 := Nat.ne_of_lt (Nat.lt_of_lt_of_le f1834.lt (Nat.le_of_eq gg1839.symm))
    have g_b1839 : n0 ≤ b1839 := Nat.le_trans Z1836 (Nat.le_of_eq gg1839.symm)
    have Z1855 := Nat.le_trans Z1836 E1839.1
    have hk := Nat.le_trans hk E1839.1
    have f1856 : Fld Z h1839 b1839 "com/example/stowline/stowline/VolumeBound" "capacities" "[J" .null := D1839 (Or.inr (own_m hw 53 rfl)) (ty := (.array .long)) (by decide)
    have f1857 : Fld Z h1839 b1839 "com/example/stowline/stowline/VolumeBound" "wholeCapacities" "[J" .null := D1839 (Or.inr (own_m hw 55 rfl)) (ty := (.array .long)) (by decide)
    have f1858 : Fld Z h1839 b1839 "com/example/stowline/stowline/VolumeBound" "remainders" "[J" .null := D1839 (Or.inr (own_m hw 57 rfl)) (ty := (.array .long)) (by decide)
    have pre1860 := fun (t : State) (k : Steps p.tables e below (T1839.setTop (mkF m 258 L_1838 [(.ref b1649), (.ref b1839), (.ref b1839)])) t) => pre1625 t (by
      show Steps p.tables e below (s₁.setTop (mkF m 64 L_1618 [(.int (j0_3 q5)), (.int (j0_2 q4))])) _
      refine XS.iadd X0.here hx rfl (hb hby at_64) rfl ?_
      refine XS.istore X0.here hx rfl (hb hby at_65) rfl (l' := L_1629) rfl ?_
      refine XS.iload X0.here hx rfl (hb hby at_67) rfl ?_
      refine XS.iconst X0.here hx rfl (hb hby at_69) ?_
      refine XS.iload X0.here hx rfl (hb hby at_70) rfl ?_
      refine XS.isub X0.here hx rfl (hb hby at_72) rfl ?_
      show Steps p.tables e below (s₁.setTop (mkF m 73 L_1629 [(.int (4 : Int32)), (.int ((j0_2 q4) + (j0_3 q5)))])) _
      refine iremM X0 hx rfl (hb hby at_73) rfl (by decide) ?_
      refine XS.istore X0.here hx rfl (hb hby at_74) rfl (l' := L_1630) rfl ?_
      refine XS.lconst X0.here hx rfl (hb hby at_76) ?_
      refine XS.lloadN X0.here hx rfl (hb hby at_77) rfl ?_
      show Steps p.tables e below (s₁.setTop (mkF m 78 L_1630 [(.long q0), (.long (1 : Int64))])) _
      refine X0.ldc2Long hx hown (mvT hZ (own_m hw 0 rfl)) (g := (mkF m 78 L_1630 [(.long q0), (.long (1 : Int64))])) rfl (hb hby at_78) _ ?_
      refine XS.land X0.here hx rfl (hb hby at_81) rfl ?_
      show Steps p.tables e below (s₁.setTop (mkF m 82 L_1630 [(.long (q0 &&& (9223372036854775807 : Int64))), (.long (1 : Int64))])) _
      refine st1631 _ ?_
      refine XS.lstore X1631.here hx rfl (hb hby at_85) rfl (l' := L_1632) rfl ?_
      refine XS.lconst X1631.here hx rfl (hb hby at_87) ?_
      refine XS.lloadN X1631.here hx rfl (hb hby at_88) rfl ?_
      show Steps p.tables e below (T1631.setTop (mkF m 89 L_1633 [(.long q1), (.long (1 : Int64))])) _
      refine X1631.ldc2Long hx hown (mvT hZ (own_m hw 0 rfl)) (g := (mkF m 89 L_1633 [(.long q1), (.long (1 : Int64))])) rfl (hb hby at_89) _ ?_
      refine XS.land X1631.here hx rfl (hb hby at_92) rfl ?_
      show Steps p.tables e below (T1631.setTop (mkF m 93 L_1633 [(.long (q1 &&& (9223372036854775807 : Int64))), (.long (1 : Int64))])) _
      refine st1634 _ ?_
      refine XS.lstore X1634.here hx rfl (hb hby at_96) rfl (l' := L_1635) rfl ?_
      refine XS.lload X1634.here hx rfl (hb hby at_98) rfl ?_
      refine XS.lload X1634.here hx rfl (hb hby at_100) rfl ?_
      show Steps p.tables e below (T1634.setTop (mkF m 102 L_1636 [(.long (own_c q0)), (.long q2)])) _
      refine st1637 _ ?_
      refine XS.lstore X1637.here hx rfl (hb hby at_105) rfl (l' := L_1638) rfl ?_
      refine XS.lload X1637.here hx rfl (hb hby at_107) rfl ?_
      refine XS.lload X1637.here hx rfl (hb hby at_109) rfl ?_
      show Steps p.tables e below (T1637.setTop (mkF m 111 L_1639 [(.long (own_c q1)), (.long q3)])) _
      refine st1640 _ ?_
      refine XS.lstore X1640.here hx rfl (hb hby at_114) rfl (l' := L_1641) rfl ?_
      refine XS.lload X1640.here hx rfl (hb hby at_116) rfl ?_
      refine XS.lload X1640.here hx rfl (hb hby at_118) rfl ?_
      show Steps p.tables e below (T1640.setTop (mkF m 120 L_1642 [(.long (own_c q0)), (.long q4)])) _
      refine st1643 _ ?_
      refine XS.lstore X1643.here hx rfl (hb hby at_123) rfl (l' := L_1644) rfl ?_
      refine XS.lload X1643.here hx rfl (hb hby at_125) rfl ?_
      refine XS.lload X1643.here hx rfl (hb hby at_127) rfl ?_
      show Steps p.tables e below (T1643.setTop (mkF m 129 L_1645 [(.long (own_c q1)), (.long q5)])) _
      refine st1646 _ ?_
      refine XS.lstore X1646.here hx rfl (hb hby at_132) rfl (l' := L_1647) rfl ?_
      refine XS.iload X1646.here hx rfl (hb hby at_134) rfl ?_
      show Steps p.tables e below (T1646.setTop (mkF m 136 L_1648 [(.int (1 : Int32))])) _
      refine st1649 _ ?_
      refine XS.astore X1649.here hx rfl (hb hby at_138) rfl rfl (l' := L_1651) rfl ?_
      refine XS.iload X1649.here hx rfl (hb hby at_140) rfl ?_
      show Steps p.tables e below (T1649.setTop (mkF m 142 L_1651 [(.int (1 : Int32))])) _
      refine st1652 _ ?_
      refine XS.astore X1652.here hx rfl (hb hby at_144) rfl rfl (l' := L_1657) rfl ?_
      refine XS.iload X1652.here hx rfl (hb hby at_146) rfl ?_
      show Steps p.tables e below (T1652.setTop (mkF m 148 L_1657 [(.int (1 : Int32))])) _
      refine st1658 _ ?_
      refine XS.astore X1658.here hx rfl (hb hby at_150) rfl rfl (l' := L_1666) rfl ?_
      refine XS.aload X1658.here hx rfl (hb hby at_152) rfl rfl ?_
      refine XS.iconst X1658.here hx rfl (hb hby at_154) ?_
      refine XS.lload X1658.here hx rfl (hb hby at_155) rfl ?_
      show Steps p.tables e below (T1658.setTop (mkF m 157 L_1666 [(.long (own_c q0)), (.int (0 : Int32)), (.ref b1649)])) _
      refine st1669 _ ?_
      refine XS.aload X1669.here hx rfl (hb hby at_158) rfl rfl ?_
      refine XS.iconst X1669.here hx rfl (hb hby at_160) ?_
      refine XS.lload X1669.here hx rfl (hb hby at_161) rfl ?_
      show Steps p.tables e below (T1669.setTop (mkF m 163 L_1666 [(.long (own_z q2 q0)), (.int (0 : Int32)), (.ref b1652)])) _
      refine st1680 _ ?_
      refine XS.aload X1680.here hx rfl (hb hby at_164) rfl rfl ?_
      refine XS.iconst X1680.here hx rfl (hb hby at_166) ?_
      refine XS.lload X1680.here hx rfl (hb hby at_167) rfl ?_
      show Steps p.tables e below (T1680.setTop (mkF m 169 L_1666 [(.long (own_z q4 q0)), (.int (0 : Int32)), (.ref b1658)])) _
      refine st1691 _ ?_
      refine XS.iload X1691.here hx rfl (hb hby at_170) rfl ?_
      refine XS.iconst X1691.here hx rfl (hb hby at_172) ?_
      refine XS.icmpYes X1691.here hx rfl (pc0 := 173) (pc' := 194) rfl (hb hby at_173) rfl (feq (by decide : ¬ ((1 : Int32) = (2 : Int32)))).2 (by decide) (by decide) ?_
      refine XS.iconst X1691.here hx rfl (hb hby at_194) ?_
      show Steps p.tables e below (T1691.setTop (mkF m 195 L_1666 [(.int (4 : Int32))])) _
      refine st1700 _ ?_
      refine XS.dup X1700.here hx rfl (hb hby at_197) rfl rfl ?_
      refine XS.iconst X1700.here hx rfl (hb hby at_198) ?_
      show Steps p.tables e below (T1700.setTop (mkF m 199 L_1666 [(.int (0 : Int32)), (.ref b1700), (.ref b1700)])) _
      refine X1700.ldc2Long hx hown (mvT hZ (own_m hw 10 rfl)) (g := (mkF m 199 L_1666 [(.int (0 : Int32)), (.ref b1700), (.ref b1700)])) rfl (hb hby at_199) _ ?_
      show Steps p.tables e below (T1700.setTop (mkF m 202 L_1666 [(.long (-1 : Int64)), (.int (0 : Int32)), (.ref b1700), (.ref b1700)])) _
      refine st1713 _ ?_
      refine XS.dup X1713.here hx rfl (hb hby at_203) rfl rfl ?_
      refine XS.iconst X1713.here hx rfl (hb hby at_204) ?_
      show Steps p.tables e below (T1713.setTop (mkF m 205 L_1666 [(.int (1 : Int32)), (.ref b1700), (.ref b1700)])) _
      refine X1713.ldc2Long hx hown (mvT hZ (own_m hw 11 rfl)) (g := (mkF m 205 L_1666 [(.int (1 : Int32)), (.ref b1700), (.ref b1700)])) rfl (hb hby at_205) _ ?_
      show Steps p.tables e below (T1713.setTop (mkF m 208 L_1666 [(.long (-2 : Int64)), (.int (1 : Int32)), (.ref b1700), (.ref b1700)])) _
      refine st1726 _ ?_
      refine XS.dup X1726.here hx rfl (hb hby at_209) rfl rfl ?_
      refine XS.iconst X1726.here hx rfl (hb hby at_210) ?_
      show Steps p.tables e below (T1726.setTop (mkF m 211 L_1666 [(.int (2 : Int32)), (.ref b1700), (.ref b1700)])) _
      refine X1726.ldc2Long hx hown (mvT hZ (own_m hw 12 rfl)) (g := (mkF m 211 L_1666 [(.int (2 : Int32)), (.ref b1700), (.ref b1700)])) rfl (hb hby at_211) _ ?_
      show Steps p.tables e below (T1726.setTop (mkF m 214 L_1666 [(.long (-3 : Int64)), (.int (2 : Int32)), (.ref b1700), (.ref b1700)])) _
      refine st1739 _ ?_
      refine XS.dup X1739.here hx rfl (hb hby at_215) rfl rfl ?_
      refine XS.iconst X1739.here hx rfl (hb hby at_216) ?_
      show Steps p.tables e below (T1739.setTop (mkF m 217 L_1666 [(.int (3 : Int32)), (.ref b1700), (.ref b1700)])) _
      refine X1739.ldc2Long hx hown (mvT hZ (own_m hw 13 rfl)) (g := (mkF m 217 L_1666 [(.int (3 : Int32)), (.ref b1700), (.ref b1700)])) rfl (hb hby at_217) _ ?_
      show Steps p.tables e below (T1739.setTop (mkF m 220 L_1666 [(.long (-4 : Int64)), (.int (3 : Int32)), (.ref b1700), (.ref b1700)])) _
      refine st1752 _ ?_
      refine XS.astore X1752.here hx rfl (hb hby at_221) rfl rfl (l' := L_1763) rfl ?_
      refine XS.iconst X1752.here hx rfl (hb hby at_223) ?_
      show Steps p.tables e below (T1752.setTop (mkF m 224 L_1763 [(.int (4 : Int32))])) _
      refine st1764 _ ?_
      refine XS.dup X1764.here hx rfl (hb hby at_226) rfl rfl ?_
      refine XS.iconst X1764.here hx rfl (hb hby at_227) ?_
      show Steps p.tables e below (T1764.setTop (mkF m 228 L_1763 [(.int (0 : Int32)), (.ref b1764), (.ref b1764)])) _
      refine X1764.ldc2Long hx hown (mvT hZ (own_m hw 14 rfl)) (g := (mkF m 228 L_1763 [(.int (0 : Int32)), (.ref b1764), (.ref b1764)])) rfl (hb hby at_228) _ ?_
      show Steps p.tables e below (T1764.setTop (mkF m 231 L_1763 [(.long (-11 : Int64)), (.int (0 : Int32)), (.ref b1764), (.ref b1764)])) _
      refine st1780 _ ?_
      refine XS.dup X1780.here hx rfl (hb hby at_232) rfl rfl ?_
      refine XS.iconst X1780.here hx rfl (hb hby at_233) ?_
      show Steps p.tables e below (T1780.setTop (mkF m 234 L_1763 [(.int (1 : Int32)), (.ref b1764), (.ref b1764)])) _
      refine X1780.ldc2Long hx hown (mvT hZ (own_m hw 15 rfl)) (g := (mkF m 234 L_1763 [(.int (1 : Int32)), (.ref b1764), (.ref b1764)])) rfl (hb hby at_234) _ ?_
      show Steps p.tables e below (T1780.setTop (mkF m 237 L_1763 [(.long (-12 : Int64)), (.int (1 : Int32)), (.ref b1764), (.ref b1764)])) _
      refine st1795 _ ?_
      refine XS.dup X1795.here hx rfl (hb hby at_238) rfl rfl ?_
      refine XS.iconst X1795.here hx rfl (hb hby at_239) ?_
      show Steps p.tables e below (T1795.setTop (mkF m 240 L_1763 [(.int (2 : Int32)), (.ref b1764), (.ref b1764)])) _
      refine X1795.ldc2Long hx hown (mvT hZ (own_m hw 16 rfl)) (g := (mkF m 240 L_1763 [(.int (2 : Int32)), (.ref b1764), (.ref b1764)])) rfl (hb hby at_240) _ ?_
      show Steps p.tables e below (T1795.setTop (mkF m 243 L_1763 [(.long (-13 : Int64)), (.int (2 : Int32)), (.ref b1764), (.ref b1764)])) _
      refine st1810 _ ?_
      refine XS.dup X1810.here hx rfl (hb hby at_244) rfl rfl ?_
      refine XS.iconst X1810.here hx rfl (hb hby at_245) ?_
      show Steps p.tables e below (T1810.setTop (mkF m 246 L_1763 [(.int (3 : Int32)), (.ref b1764), (.ref b1764)])) _
      refine X1810.ldc2Long hx hown (mvT hZ (own_m hw 17 rfl)) (g := (mkF m 246 L_1763 [(.int (3 : Int32)), (.ref b1764), (.ref b1764)])) rfl (hb hby at_246) _ ?_
      show Steps p.tables e below (T1810.setTop (mkF m 249 L_1763 [(.long (-14 : Int64)), (.int (3 : Int32)), (.ref b1764), (.ref b1764)])) _
      refine st1825 _ ?_
      refine XS.astore X1825.here hx rfl (hb hby at_250) rfl rfl (l' := L_1838) rfl ?_
      show Steps p.tables e below (T1825.setTop (mkF m 252 L_1838 [])) _
      refine st1839 _ ?_
      refine XS.dup X1839.here hx rfl (hb hby at_255) rfl rfl ?_
      refine XS.aload X1839.here hx rfl (hb hby at_256) rfl rfl ?_
      exact k)
    obtain ⟨_, _, ⟨T1859, L1859, k1859, n1859⟩, -, X1859, hSi1859, hgr1859, ⟨Lc1859, hQ1859, l1859, y1859, z1859⟩, st1859⟩ := X1839.specialBackS hx (y := (⟨"com/example/stowline/stowline/VolumeBound", "<init>", "([J)V"⟩ : MethodName)) rfl hown (mvT hZ (own_m hw 21 rfl)) (mvT hZ (own_m hw 22 rfl)) (mvT hZ (own_m hw 23 rfl)) (by decide) (backOfS (W := 1) (rm3_1 l Z aw hw [] b1839 b1649 ((own_c q0)) k1649 h1839 n0 Z1855 A1839 f1856 f1857 f1858 f1841 f1840 g_b1839 (Ne.symm ne1850) (own_p1 _ (own_cp q0))) hZ (own_m hw 23 rfl) (own_m hw 20 rfl) (by decide) (by decide)) (g := (mkF m 258 L_1838 [(.ref b1649), (.ref b1839), (.ref b1839)])) rfl (by rw [hml]; rfl) (Steps.refl _) (a := b1839) (argsL := [(.ref b1649)]) (rest := [(.ref b1839)]) (lenOf pd_6 rfl) rfl (by show 2 * 0 + _ ≤ _; exact Nat.le_of_eq rfl) (hb hby at_258) (fun _ _ => ⟨rfl, e1839, (by decide : 6 + 5 ≤ _), (by decide : 14 + 47 ≤ _)⟩)
    dsimp only [Pt.U, Pt.locs, Pt.cells, Pt.slots] at X1859 l1859 y1859 z1859 st1859 hQ1859 hSi1859 hgr1859
    subst l1859 y1859 z1859
    obtain ⟨X1859, hS, hZ, hown⟩ := rebS hS (show _ ≤ T1839.heap.size from own_hk hk e1839) X1859 hSi1859 hgr1859 hZ hown
    obtain ⟨h1859, e1859⟩ : ∃ z, T1859.heap = z := ⟨_, rfl⟩
    rw [e1859] at hQ1859
    obtain ⟨cx01859, cx11859, cx21859, cy01859, cy11859, cy21859, rfl, N1859q, K1859q, g_cx01859, zz_cx01859, g_cx11859, zz_cx11859, g_cx21859, zz_cx21859, nx_cx01859_cx11859, nx_cx01859_cx21859, nx_cx11859_cx21859, f1861, f1862, f1863, f1864, f1865, f1866, f1867⟩ := hQ1859
    have f1868 := f1840.keep K1859q
    have f1869 := f1841.keep K1859q (ninS ne1850 nin0)
    have f1870 := f1842.keep K1859q
    have f1871 := f1843.keep K1859q (ninS ne1851 nin0)
    have f1872 := f1844.keep K1859q
    have f1873 := f1845.keep K1859q (ninS ne1852 nin0)
    have f1874 := f1846.keep K1859q
    have f1875 := f1847.keep K1859q (ninS ne1853 nin0)
    have f1876 := f1848.keep K1859q
    have f1877 := f1849.keep K1859q (ninS ne1854 nin0)
    have f1878 := A1839.keep K1859q
    have ne1882 : b1649 ≠ cx01859 := Nat.ne_of_lt (Nat.lt_of_lt_of_le f1840.lt zz_cx01859)
    have ne1883 : b1652 ≠ cx01859 := Nat.ne_of_lt (Nat.lt_of_lt_of_le f1842.lt zz_cx01859)
    have ne1884 : b1658 ≠ cx01859 := Nat.ne_of_lt (Nat.lt_of_lt_of_le f1844.lt zz_cx01859)
    have ne1885 : b1700 ≠ cx01859 := Nat.ne_of_lt (Nat.lt_of_lt_of_le f1846.lt zz_cx01859)
    have ne1886 : b1764 ≠ cx01859 := Nat.ne_of_lt (Nat.lt_of_lt_of_le f1848.lt zz_cx01859)
    have ne1887 : b1839 ≠ cx01859 := Nat.ne_of_lt (Nat.lt_of_lt_of_le A1839.lt zz_cx01859)
    have ne1888 : b1649 ≠ cx11859 := Nat.ne_of_lt (Nat.lt_of_lt_of_le f1840.lt zz_cx11859)
    have ne1889 : b1652 ≠ cx11859 := Nat.ne_of_lt (Nat.lt_of_lt_of_le f1842.lt zz_cx11859)
    have ne1890 : b1658 ≠ cx11859 := Nat.ne_of_lt (Nat.lt_of_lt_of_le f1844.lt zz_cx11859)
    have ne1891 : b1700 ≠ cx11859 := Nat.ne_of_lt (Nat.lt_of_lt_of_le f1846.lt zz_cx11859)
    have ne1892 : b1764 ≠ cx11859 := Nat.ne_of_lt (Nat.lt_of_lt_of_le f1848.lt zz_cx11859)
    have ne1893 : b1839 ≠ cx11859 := Nat.ne_of_lt (Nat.lt_of_lt_of_le A1839.lt zz_cx11859)
    have ne1894 : b1649 ≠ cx21859 := Nat.ne_of_lt (Nat.lt_of_lt_of_le f1840.lt zz_cx21859)
    have ne1895 : b1652 ≠ cx21859 := Nat.ne_of_lt (Nat.lt_of_lt_of_le f1842.lt zz_cx21859)
    have ne1896 : b1658 ≠ cx21859 := Nat.ne_of_lt (Nat.lt_of_lt_of_le f1844.lt zz_cx21859)
    have ne1897 : b1700 ≠ cx21859 := Nat.ne_of_lt (Nat.lt_of_lt_of_le f1846.lt zz_cx21859)
    have ne1898 : b1764 ≠ cx21859 := Nat.ne_of_lt (Nat.lt_of_lt_of_le f1848.lt zz_cx21859)
    have ne1899 : b1839 ≠ cx21859 := Nat.ne_of_lt (Nat.lt_of_lt_of_le A1839.lt zz_cx21859)
    have Z1859 := Nat.le_trans Z1855 K1859q.1
    have hk : T1859.heap.size ≤ h1859.size := by rw [e1859]; exact Nat.le_refl _
    have N1859 := Fr.app N1837 N1859q
    let L_1900 : Array Slot := #[.val (.long q0), .second, .val (.long q1), .second, .val (.long q2), .second, .val (.long q3), .second, .val (.long q4), .second, .val (.long q5), .second, .val (.int (1 : Int32)), .val (.int (own_Nn q2 q3)), .val (.int ((j0_2 q4) + (j0_3 q5))), .val (.int (((j0_2 q4) + (j0_3 q5)) % (4 : Int32))), .val (.long (own_c q0)), .second, .val (.long (own_c q1)), .second, .val (.long (own_z q2 q0)), .second, .val (.long (own_z q3 q1)), .second, .val (.long (own_z q4 q0)), .second, .val (.long (own_z q5 q1)), .second, .val (.ref b1649), .val (.ref b1652), .val (.ref b1658), .val (.ref b1700), .val (.ref b1764), .val (.ref b1839), .unset]
    have pre1922 := fun (t : State) (k : Steps p.tables e below (T1859.setTop (mkF m 266 L_1900 [(.int (1 : Int32)), (.int (own_Nn q2 q3))])) t) => pre1860 t (by
      show Steps p.tables e below (T1839.setTop (mkF m 258 L_1838 [(.ref b1649), (.ref b1839), (.ref b1839)])) _
      refine st1859.trans ?_
      refine XS.astore X1859.here hx rfl (hb hby at_261) rfl rfl (l' := L_1900) rfl ?_
      refine XS.iload X1859.here hx rfl (hb hby at_263) rfl ?_
      refine XS.iconst X1859.here hx rfl (hb hby at_265) ?_
      exact k)
    obtain ⟨T1923, h1923, L1923, vm1923, kk1923, X1923, e1923, N1923, Z1923, hS, hk, hZ, hown, f1923_0, f1923_1, f1923_2, f1923_3, f1923_4, f1923_5, f1923_6, f1923_7, f1923_8, f1923_9, f1923_10, f1923_11, f1923_12, f1923_13, f1923_14, f1923_15, f1923_16, pre1923⟩ : ∃ (T1923 : State) (h1923 : Heap) (L1923 : List Loc) (vm1923 : Vm) (kk1923 : Nat), Stand p l e room_1 (s.setVm vm1923) m #[(.long q0), (.long q1), (.long q2), (.long q3), (.long q4), (.long q5)] below meth c T1923 L1923 13 85 ∧ T1923.heap = h1923 ∧ Fr n0 L1923 ∧ n0 ≤ h1923.size ∧ s.Since vm1923 kk1923 ∧ kk1923 ≤ h1923.size ∧ Z.Warmed39 (s.setVm vm1923).vm ∧ (s.setVm vm1923).vm.findClass "com/example/stowline/stowline/VolumeBoundCopyTotalsPinLaw" = some m.cls ∧ Exa Z h1923 b1649 "[J" ∧ Arv Z h1923 b1649 k1649 .long (1 : Int32) [(.long (own_c q0))] (.long (0 : Int64)) ∧ Exa Z h1923 b1652 "[J" ∧ Arv Z h1923 b1652 k1652 .long (1 : Int32) [(.long (own_z q2 q0))] (.long (0 : Int64)) ∧ Exa Z h1923 b1658 "[J" ∧ Arv Z h1923 b1658 k1658 .long (1 : Int32) [(.long (own_z q4 q0))] (.long (0 : Int64)) ∧ Exa Z h1923 b1700 "[J" ∧ Arv Z h1923 b1700 k1700 .long (4 : Int32) [(.long (-1 : Int64)), (.long (-2 : Int64)), (.long (-3 : Int64)), (.long (-4 : Int64))] (.long (0 : Int64)) ∧ Exa Z h1923 b1764 "[J" ∧ Arv Z h1923 b1764 k1764 .long (4 : Int32) [(.long (-11 : Int64)), (.long (-12 : Int64)), (.long (-13 : Int64)), (.long (-14 : Int64))] (.long (0 : Int64)) ∧ Exa Z h1923 b1839 "com/example/stowline/stowline/VolumeBound" ∧ Fld Z h1923 b1839 "com/example/stowline/stowline/VolumeBound" "capacities" "[J" (.ref cx01859) ∧ Fld Z h1923 b1839 "com/example/stowline/stowline/VolumeBound" "wholeCapacities" "[J" (.ref cx11859) ∧ Fld Z h1923 b1839 "com/example/stowline/stowline/VolumeBound" "remainders" "[J" (.ref cx21859) ∧ Arv Z h1923 cx01859 cy01859 .long (1 : Int32) [(.long (own_c q0))] (.long (0 : Int64)) ∧ Arv Z h1923 cx11859 cy11859 .long (1 : Int32) [(.long (j0_4 q0 q2 q3))] (.long (0 : Int64)) ∧ Arv Z h1923 cx21859 cy21859 .long (1 : Int32) [(.long (j0_5 q0 q2 q3))] (.long (0 : Int64)) ∧ ∀ t, Steps p.tables e below (T1923.setTop (mkF m 276 L_1900 [])) t → Steps p.tables e below (s₁.setTop (entryFrame m #[(.long q0), (.long q1), (.long q2), (.long q3), (.long q4), (.long q5)] maxLocals)) t := by
      by_cases hc1924 : (own_Nn q2 q3) < (1 : Int32)
      · skip
        have pre1925 := fun (t : State) (k : Steps p.tables e below (T1859.setTop (mkF m 276 L_1900 [])) t) => pre1922 t (by
          show Steps p.tables e below (T1859.setTop (mkF m 266 L_1900 [(.int (1 : Int32)), (.int (own_Nn q2 q3))])) _
          refine XS.icmpYes X1859.here hx rfl (pc0 := 266) (pc' := 276) rfl (hb hby at_266) rfl (tlt hc1924).1 (by decide) (by decide) ?_
          exact k)
        have hj1926 : (j0_4 q0 q2 q3) = (0 : Int64) := by unfold j0_4; first | (rw [if_pos hc1924]) | (simp only [if_pos hc1924])
        have hj1927 : (j0_5 q0 q2 q3) = (0 : Int64) := by unfold j0_5; first | (rw [if_pos hc1924]) | (simp only [if_pos hc1924])
        exact ⟨T1859, h1859, _, _, _, (X1859.more (by decide) (by decide)), e1859, N1859, Z1859, hS, hk, hZ, hown, f1868, f1869, f1870, f1871, f1872, f1873, f1874, f1875, f1876, f1877, f1861, f1862, f1863, f1864, f1865, (by rw [hj1926]; exact f1866), (by rw [hj1927]; exact f1867), fun t k => pre1925 t (by exact k)⟩
      · skip
        have pre1929 := fun (t : State) (k : Steps p.tables e below (T1859.setTop (mkF m 273 L_1900 [(.ref b1652), (.ref b1839)])) t) => pre1922 t (by
          show Steps p.tables e below (T1859.setTop (mkF m 266 L_1900 [(.int (1 : Int32)), (.int (own_Nn q2 q3))])) _
          refine XS.icmpNo X1859.here hx rfl (hb hby at_266) rfl (flt hc1924).1 ?_
          refine XS.aload X1859.here hx rfl (hb hby at_269) rfl rfl ?_
          refine XS.aload X1859.here hx rfl (hb hby at_271) rfl rfl ?_
          exact k)
        obtain ⟨cq1928, kq1928, q1928a, q1928b, q1928c⟩ := isOf hZ e1859 f1861
        obtain ⟨_, _, ⟨T1928, L1928, k1928, n1928⟩, -, X1928, hSi1928, hgr1928, ⟨Lc1928, hQ1928, l1928, y1928, z1928⟩, st1928⟩ := X1859.virtualBackS hx (y := (⟨"com/example/stowline/stowline/VolumeBound", "add", "([J)V"⟩ : MethodName)) (z := (⟨"com/example/stowline/stowline/VolumeBound", "add", "([J)V"⟩ : MethodName)) hown (mvT hZ (own_m hw 58 rfl)) (mvT hZ (own_m hw 59 rfl)) (notFace_of_selects (args := #[]) (mvT hZ (own_m hw 61 rfl))) (mvT hZ (own_m hw 61 rfl)) (mvT hZ (own_m hw 60 rfl)) (by decide) (backOfS (W := 0) (rm7_1 l Z aw hw [] b1839 b1652 cx01859 cx11859 cx21859 ((own_c q0)) ((0 : Int64)) ((0 : Int64)) ((own_z q2 q0)) cy01859 cy11859 cy21859 k1652 h1859 n0 Z1859 f1861 f1862 f1863 f1864 f1865 f1866 f1867 f1871 g_cx11859 g_cx21859 ne1893 ne1899 nx_cx01859_cx11859 nx_cx01859_cx21859 nx_cx11859_cx21859 ne1889 ne1895 (own_p0 _ (own_zb q2 q0).1) (own_pc _ _ (own_zb q2 q0).2)) hZ (own_m hw 62 rfl) (own_m hw 20 rfl) (by decide) (by decide)) q1928a q1928c (g := (mkF m 273 L_1900 [(.ref b1652), (.ref b1839)])) rfl (by rw [hml]; rfl) (Steps.refl _) (argsL := [(.ref b1652)]) (rest := []) (lenOf pd_6 rfl) rfl (by show 2 * 0 + _ ≤ _; exact Nat.le_of_eq rfl) (hb hby at_273) (fun _ _ => ⟨rfl, e1859, (by decide : 11 + 2 ≤ _), (by decide : 61 + 24 ≤ _)⟩)
        dsimp only [Pt.U, Pt.locs, Pt.cells, Pt.slots] at X1928 l1928 y1928 z1928 st1928 hQ1928 hSi1928 hgr1928
        subst l1928 y1928 z1928
        obtain ⟨X1928, hS, hZ, hown⟩ := rebS hS (show _ ≤ T1859.heap.size from own_hk hk e1859) X1928 hSi1928 hgr1928 hZ hown
        obtain ⟨h1928, e1928⟩ : ∃ z, T1928.heap = z := ⟨_, rfl⟩
        rw [e1928] at hQ1928
        obtain ⟨rfl, N1928q, K1928q, f1930, f1931⟩ := hQ1928
        have f1932 := f1868.keep K1928q
        have f1933 := f1869.keep K1928q (ninS ne1888 (ninS ne1894 nin0))
        have f1934 := f1870.keep K1928q
        have f1935 := f1871.keep K1928q (ninS ne1889 (ninS ne1895 nin0))
        have f1936 := f1872.keep K1928q
        have f1937 := f1873.keep K1928q (ninS ne1890 (ninS ne1896 nin0))
        have f1938 := f1874.keep K1928q
        have f1939 := f1875.keep K1928q (ninS ne1891 (ninS ne1897 nin0))
        have f1940 := f1876.keep K1928q
        have f1941 := f1877.keep K1928q (ninS ne1892 (ninS ne1898 nin0))
        have f1942 := f1861.keep K1928q
        have f1943 := f1862.keep K1928q (ninS ne1893 (ninS ne1899 nin0))
        have f1944 := f1863.keep K1928q (ninS ne1893 (ninS ne1899 nin0))
        have f1945 := f1864.keep K1928q (ninS ne1893 (ninS ne1899 nin0))
        have f1946 := f1865.keep K1928q (ninS nx_cx01859_cx11859 (ninS nx_cx01859_cx21859 nin0))
        have Z1928 := Nat.le_trans Z1859 K1928q.1
        have hk : T1928.heap.size ≤ h1928.size := by rw [e1928]; exact Nat.le_refl _
        have N1928 := Fr.app N1859 N1928q
        have pre1949 := fun (t : State) (k : Steps p.tables e below (T1928.setTop (mkF m 276 L_1900 [])) t) => pre1929 t (by
          show Steps p.tables e below (T1859.setTop (mkF m 273 L_1900 [(.ref b1652), (.ref b1839)])) _
          refine st1928.trans ?_
          exact k)
        have hj1950 : (j0_4 q0 q2 q3) = (j7_1_0 (own_c q0) (0 : Int64) (0 : Int64) (own_z q2 q0)) := by unfold j0_4; first | (rw [if_neg hc1924]) | (simp only [if_neg hc1924])
        have hj1951 : (j0_5 q0 q2 q3) = (j7_1_1 (own_c q0) (0 : Int64) (own_z q2 q0)) := by unfold j0_5; first | (rw [if_neg hc1924]) | (simp only [if_neg hc1924])
        exact ⟨T1928, h1928, _, _, _, X1928, e1928, N1928, Z1928, hS, hk, hZ, hown, f1932, f1933, f1934, f1935, f1936, f1937, f1938, f1939, f1940, f1941, f1942, f1943, f1944, f1945, f1946, (by rw [hj1950]; exact f1930), (by rw [hj1951]; exact f1931), fun t k => pre1949 t (by exact k)⟩
    have pre1973 := fun (t : State) (k : Steps p.tables e below (T1923.setTop (mkF m 279 L_1900 [(.int (2 : Int32)), (.int (own_Nn q2 q3))])) t) => pre1923 t (by
      show Steps p.tables e below (T1923.setTop (mkF m 276 L_1900 [])) _
      refine XS.iload X1923.here hx rfl (hb hby at_276) rfl ?_
      refine XS.iconst X1923.here hx rfl (hb hby at_278) ?_
      exact k)
    obtain ⟨T1974, h1974, L1974, vm1974, kk1974, X1974, e1974, N1974, Z1974, hS, hk, hZ, hown, f1974_0, f1974_1, f1974_2, f1974_3, f1974_4, f1974_5, f1974_6, f1974_7, f1974_8, f1974_9, f1974_10, f1974_11, f1974_12, f1974_13, f1974_14, f1974_15, f1974_16, pre1974⟩ : ∃ (T1974 : State) (h1974 : Heap) (L1974 : List Loc) (vm1974 : Vm) (kk1974 : Nat), Stand p l e room_1 (s.setVm vm1974) m #[(.long q0), (.long q1), (.long q2), (.long q3), (.long q4), (.long q5)] below meth c T1974 L1974 15 109 ∧ T1974.heap = h1974 ∧ Fr n0 L1974 ∧ n0 ≤ h1974.size ∧ s.Since vm1974 kk1974 ∧ kk1974 ≤ h1974.size ∧ Z.Warmed39 (s.setVm vm1974).vm ∧ (s.setVm vm1974).vm.findClass "com/example/stowline/stowline/VolumeBoundCopyTotalsPinLaw" = some m.cls ∧ Exa Z h1974 b1649 "[J" ∧ Arv Z h1974 b1649 k1649 .long (1 : Int32) [(.long (own_c q0))] (.long (0 : Int64)) ∧ Exa Z h1974 b1652 "[J" ∧ Arv Z h1974 b1652 k1652 .long (1 : Int32) [(.long (own_z q2 q0))] (.long (0 : Int64)) ∧ Exa Z h1974 b1658 "[J" ∧ Arv Z h1974 b1658 k1658 .long (1 : Int32) [(.long (own_z q4 q0))] (.long (0 : Int64)) ∧ Exa Z h1974 b1700 "[J" ∧ Arv Z h1974 b1700 k1700 .long (4 : Int32) [(.long (-1 : Int64)), (.long (-2 : Int64)), (.long (-3 : Int64)), (.long (-4 : Int64))] (.long (0 : Int64)) ∧ Exa Z h1974 b1764 "[J" ∧ Arv Z h1974 b1764 k1764 .long (4 : Int32) [(.long (-11 : Int64)), (.long (-12 : Int64)), (.long (-13 : Int64)), (.long (-14 : Int64))] (.long (0 : Int64)) ∧ Exa Z h1974 b1839 "com/example/stowline/stowline/VolumeBound" ∧ Fld Z h1974 b1839 "com/example/stowline/stowline/VolumeBound" "capacities" "[J" (.ref cx01859) ∧ Fld Z h1974 b1839 "com/example/stowline/stowline/VolumeBound" "wholeCapacities" "[J" (.ref cx11859) ∧ Fld Z h1974 b1839 "com/example/stowline/stowline/VolumeBound" "remainders" "[J" (.ref cx21859) ∧ Arv Z h1974 cx01859 cy01859 .long (1 : Int32) [(.long (own_c q0))] (.long (0 : Int64)) ∧ Arv Z h1974 cx11859 cy11859 .long (1 : Int32) [(.long (j0_6 q0 q2 q3 q4))] (.long (0 : Int64)) ∧ Arv Z h1974 cx21859 cy21859 .long (1 : Int32) [(.long (j0_7 q0 q2 q3 q4))] (.long (0 : Int64)) ∧ ∀ t, Steps p.tables e below (T1974.setTop (mkF m 289 L_1900 [])) t → Steps p.tables e below (s₁.setTop (entryFrame m #[(.long q0), (.long q1), (.long q2), (.long q3), (.long q4), (.long q5)] maxLocals)) t := by
      by_cases hc1975 : (own_Nn q2 q3) < (2 : Int32)
      · skip
        have pre1976 := fun (t : State) (k : Steps p.tables e below (T1923.setTop (mkF m 289 L_1900 [])) t) => pre1973 t (by
          show Steps p.tables e below (T1923.setTop (mkF m 279 L_1900 [(.int (2 : Int32)), (.int (own_Nn q2 q3))])) _
          refine XS.icmpYes X1923.here hx rfl (pc0 := 279) (pc' := 289) rfl (hb hby at_279) rfl (tlt hc1975).1 (by decide) (by decide) ?_
          exact k)
        have hj1977 : (j0_6 q0 q2 q3 q4) = (j0_4 q0 q2 q3) := by unfold j0_6; first | (rw [if_pos hc1975]) | (simp only [if_pos hc1975])
        have hj1978 : (j0_7 q0 q2 q3 q4) = (j0_5 q0 q2 q3) := by unfold j0_7; first | (rw [if_pos hc1975]) | (simp only [if_pos hc1975])
        exact ⟨T1923, h1923, _, _, _, (X1923.more (by decide) (by decide)), e1923, N1923, Z1923, hS, hk, hZ, hown, f1923_0, f1923_1, f1923_2, f1923_3, f1923_4, f1923_5, f1923_6, f1923_7, f1923_8, f1923_9, f1923_10, f1923_11, f1923_12, f1923_13, f1923_14, (by rw [hj1977]; exact f1923_15), (by rw [hj1978]; exact f1923_16), fun t k => pre1976 t (by exact k)⟩
      · skip
        have pre1980 := fun (t : State) (k : Steps p.tables e below (T1923.setTop (mkF m 286 L_1900 [(.ref b1658), (.ref b1839)])) t) => pre1973 t (by
          show Steps p.tables e below (T1923.setTop (mkF m 279 L_1900 [(.int (2 : Int32)), (.int (own_Nn q2 q3))])) _
          refine XS.icmpNo X1923.here hx rfl (hb hby at_279) rfl (flt hc1975).1 ?_
          refine XS.aload X1923.here hx rfl (hb hby at_282) rfl rfl ?_
          refine XS.aload X1923.here hx rfl (hb hby at_284) rfl rfl ?_
          exact k)
        obtain ⟨cq1979, kq1979, q1979a, q1979b, q1979c⟩ := isOf hZ e1923 f1923_10
        obtain ⟨_, _, ⟨T1979, L1979, k1979, n1979⟩, -, X1979, hSi1979, hgr1979, ⟨Lc1979, hQ1979, l1979, y1979, z1979⟩, st1979⟩ := X1923.virtualBackS hx (y := (⟨"com/example/stowline/stowline/VolumeBound", "add", "([J)V"⟩ : MethodName)) (z := (⟨"com/example/stowline/stowline/VolumeBound", "add", "([J)V"⟩ : MethodName)) hown (mvT hZ (own_m hw 58 rfl)) (mvT hZ (own_m hw 59 rfl)) (notFace_of_selects (args := #[]) (mvT hZ (own_m hw 61 rfl))) (mvT hZ (own_m hw 61 rfl)) (mvT hZ (own_m hw 60 rfl)) (by decide) (backOfS (W := 0) (rm7_1 l Z aw hw [] b1839 b1658 cx01859 cx11859 cx21859 ((own_c q0)) ((j0_4 q0 q2 q3)) ((j0_5 q0 q2 q3)) ((own_z q4 q0)) cy01859 cy11859 cy21859 k1658 h1923 n0 Z1923 f1923_10 f1923_11 f1923_12 f1923_13 f1923_14 f1923_15 f1923_16 f1923_5 g_cx11859 g_cx21859 ne1893 ne1899 nx_cx01859_cx11859 nx_cx01859_cx21859 nx_cx11859_cx21859 ne1890 ne1896 (own_p0 _ (own_zb q4 q0).1) (own_pc _ _ (own_zb q4 q0).2)) hZ (own_m hw 62 rfl) (own_m hw 20 rfl) (by decide) (by decide)) q1979a q1979c (g := (mkF m 286 L_1900 [(.ref b1658), (.ref b1839)])) rfl (by rw [hml]; rfl) (Steps.refl _) (argsL := [(.ref b1658)]) (rest := []) (lenOf pd_6 rfl) rfl (by show 2 * 0 + _ ≤ _; exact Nat.le_of_eq rfl) (hb hby at_286) (fun _ _ => ⟨rfl, e1923, (by decide : 13 + 2 ≤ _), (by decide : 85 + 24 ≤ _)⟩)
        dsimp only [Pt.U, Pt.locs, Pt.cells, Pt.slots] at X1979 l1979 y1979 z1979 st1979 hQ1979 hSi1979 hgr1979
        subst l1979 y1979 z1979
        obtain ⟨X1979, hS, hZ, hown⟩ := rebS hS (show _ ≤ T1923.heap.size from own_hk hk e1923) X1979 hSi1979 hgr1979 hZ hown
        obtain ⟨h1979, e1979⟩ : ∃ z, T1979.heap = z := ⟨_, rfl⟩
        rw [e1979] at hQ1979
        obtain ⟨rfl, N1979q, K1979q, f1981, f1982⟩ := hQ1979
        have f1983 := f1923_0.keep K1979q
        have f1984 := f1923_1.keep K1979q (ninS ne1888 (ninS ne1894 nin0))
        have f1985 := f1923_2.keep K1979q
        have f1986 := f1923_3.keep K1979q (ninS ne1889 (ninS ne1895 nin0))
        have f1987 := f1923_4.keep K1979q
        have f1988 := f1923_5.keep K1979q (ninS ne1890 (ninS ne1896 nin0))
        have f1989 := f1923_6.keep K1979q
        have f1990 := f1923_7.keep K1979q (ninS ne1891 (ninS ne1897 nin0))
        have f1991 := f1923_8.keep K1979q
        have f1992 := f1923_9.keep K1979q (ninS ne1892 (ninS ne1898 nin0))
        have f1993 := f1923_10.keep K1979q
        have f1994 := f1923_11.keep K1979q (ninS ne1893 (ninS ne1899 nin0))
        have f1995 := f1923_12.keep K1979q (ninS ne1893 (ninS ne1899 nin0))
        have f1996 := f1923_13.keep K1979q (ninS ne1893 (ninS ne1899 nin0))
        have f1997 := f1923_14.keep K1979q (ninS nx_cx01859_cx11859 (ninS nx_cx01859_cx21859 nin0))
        have Z1979 := Nat.le_trans Z1923 K1979q.1
        have hk : T1979.heap.size ≤ h1979.size := by rw [e1979]; exact Nat.le_refl _
        have N1979 := Fr.app N1923 N1979q
        have pre2000 := fun (t : State) (k : Steps p.tables e below (T1979.setTop (mkF m 289 L_1900 [])) t) => pre1980 t (by
          show Steps p.tables e below (T1923.setTop (mkF m 286 L_1900 [(.ref b1658), (.ref b1839)])) _
          refine st1979.trans ?_
          exact k)
        have hj2001 : (j0_6 q0 q2 q3 q4) = (j7_1_0 (own_c q0) (j0_4 q0 q2 q3) (j0_5 q0 q2 q3) (own_z q4 q0)) := by unfold j0_6; first | (rw [if_neg hc1975]) | (simp only [if_neg hc1975])
        have hj2002 : (j0_7 q0 q2 q3 q4) = (j7_1_1 (own_c q0) (j0_5 q0 q2 q3) (own_z q4 q0)) := by unfold j0_7; first | (rw [if_neg hc1975]) | (simp only [if_neg hc1975])
        exact ⟨T1979, h1979, _, _, _, X1979, e1979, N1979, Z1979, hS, hk, hZ, hown, f1983, f1984, f1985, f1986, f1987, f1988, f1989, f1990, f1991, f1992, f1993, f1994, f1995, f1996, f1997, (by rw [hj2001]; exact f1981), (by rw [hj2002]; exact f1982), fun t k => pre2000 t (by exact k)⟩
    have pre2024 := fun (t : State) (k : Steps p.tables e below (T1974.setTop (mkF m 292 L_1900 [(.int (3 : Int32)), (.int (own_Nn q2 q3))])) t) => pre1974 t (by
      show Steps p.tables e below (T1974.setTop (mkF m 289 L_1900 [])) _
      refine XS.iload X1974.here hx rfl (hb hby at_289) rfl ?_
      refine XS.iconst X1974.here hx rfl (hb hby at_291) ?_
      exact k)
    obtain ⟨T2025, h2025, L2025, vm2025, kk2025, X2025, e2025, N2025, Z2025, hS, hk, hZ, hown, f2025_0, f2025_1, f2025_2, f2025_3, f2025_4, f2025_5, f2025_6, f2025_7, f2025_8, f2025_9, f2025_10, f2025_11, f2025_12, f2025_13, f2025_14, f2025_15, f2025_16, pre2025⟩ : ∃ (T2025 : State) (h2025 : Heap) (L2025 : List Loc) (vm2025 : Vm) (kk2025 : Nat), Stand p l e room_1 (s.setVm vm2025) m #[(.long q0), (.long q1), (.long q2), (.long q3), (.long q4), (.long q5)] below meth c T2025 L2025 17 133 ∧ T2025.heap = h2025 ∧ Fr n0 L2025 ∧ n0 ≤ h2025.size ∧ s.Since vm2025 kk2025 ∧ kk2025 ≤ h2025.size ∧ Z.Warmed39 (s.setVm vm2025).vm ∧ (s.setVm vm2025).vm.findClass "com/example/stowline/stowline/VolumeBoundCopyTotalsPinLaw" = some m.cls ∧ Exa Z h2025 b1649 "[J" ∧ Arv Z h2025 b1649 k1649 .long (1 : Int32) [(.long (own_c q0))] (.long (0 : Int64)) ∧ Exa Z h2025 b1652 "[J" ∧ Arv Z h2025 b1652 k1652 .long (1 : Int32) [(.long (own_z q2 q0))] (.long (0 : Int64)) ∧ Exa Z h2025 b1658 "[J" ∧ Arv Z h2025 b1658 k1658 .long (1 : Int32) [(.long (own_z q4 q0))] (.long (0 : Int64)) ∧ Exa Z h2025 b1700 "[J" ∧ Arv Z h2025 b1700 k1700 .long (4 : Int32) [(.long (-1 : Int64)), (.long (-2 : Int64)), (.long (-3 : Int64)), (.long (-4 : Int64))] (.long (0 : Int64)) ∧ Exa Z h2025 b1764 "[J" ∧ Arv Z h2025 b1764 k1764 .long (4 : Int32) [(.long (-11 : Int64)), (.long (-12 : Int64)), (.long (-13 : Int64)), (.long (-14 : Int64))] (.long (0 : Int64)) ∧ Exa Z h2025 b1839 "com/example/stowline/stowline/VolumeBound" ∧ Fld Z h2025 b1839 "com/example/stowline/stowline/VolumeBound" "capacities" "[J" (.ref cx01859) ∧ Fld Z h2025 b1839 "com/example/stowline/stowline/VolumeBound" "wholeCapacities" "[J" (.ref cx11859) ∧ Fld Z h2025 b1839 "com/example/stowline/stowline/VolumeBound" "remainders" "[J" (.ref cx21859) ∧ Arv Z h2025 cx01859 cy01859 .long (1 : Int32) [(.long (own_c q0))] (.long (0 : Int64)) ∧ Arv Z h2025 cx11859 cy11859 .long (1 : Int32) [(.long (j0_8 q0 q2 q3 q4))] (.long (0 : Int64)) ∧ Arv Z h2025 cx21859 cy21859 .long (1 : Int32) [(.long (j0_9 q0 q2 q3 q4))] (.long (0 : Int64)) ∧ ∀ t, Steps p.tables e below (T2025.setTop (mkF m 302 L_1900 [])) t → Steps p.tables e below (s₁.setTop (entryFrame m #[(.long q0), (.long q1), (.long q2), (.long q3), (.long q4), (.long q5)] maxLocals)) t := by
      by_cases hc2026 : (own_Nn q2 q3) = (3 : Int32)
      · skip
        have pre2028 := fun (t : State) (k : Steps p.tables e below (T1974.setTop (mkF m 299 L_1900 [(.ref b1652), (.ref b1839)])) t) => pre2024 t (by
          show Steps p.tables e below (T1974.setTop (mkF m 292 L_1900 [(.int (3 : Int32)), (.int (own_Nn q2 q3))])) _
          refine XS.icmpNo X1974.here hx rfl (hb hby at_292) rfl (teq hc2026).2 ?_
          refine XS.aload X1974.here hx rfl (hb hby at_295) rfl rfl ?_
          refine XS.aload X1974.here hx rfl (hb hby at_297) rfl rfl ?_
          exact k)
        obtain ⟨cq2027, kq2027, q2027a, q2027b, q2027c⟩ := isOf hZ e1974 f1974_10
        obtain ⟨_, _, ⟨T2027, L2027, k2027, n2027⟩, -, X2027, hSi2027, hgr2027, ⟨Lc2027, hQ2027, l2027, y2027, z2027⟩, st2027⟩ := X1974.virtualBackS hx (y := (⟨"com/example/stowline/stowline/VolumeBound", "remove", "([J)V"⟩ : MethodName)) (z := (⟨"com/example/stowline/stowline/VolumeBound", "remove", "([J)V"⟩ : MethodName)) hown (mvT hZ (own_m hw 87 rfl)) (mvT hZ (own_m hw 88 rfl)) (notFace_of_selects (args := #[]) (mvT hZ (own_m hw 90 rfl))) (mvT hZ (own_m hw 90 rfl)) (mvT hZ (own_m hw 89 rfl)) (by decide) (backOfS (W := 0) (rm13_1 l Z aw hw [] b1839 b1652 cx01859 cx11859 cx21859 ((own_c q0)) ((j0_6 q0 q2 q3 q4)) ((j0_7 q0 q2 q3 q4)) ((own_z q2 q0)) cy01859 cy11859 cy21859 k1652 h1974 n0 Z1974 f1974_10 f1974_11 f1974_12 f1974_13 f1974_14 f1974_15 f1974_16 f1974_3 g_cx11859 g_cx21859 ne1893 ne1899 nx_cx01859_cx11859 nx_cx01859_cx21859 nx_cx11859_cx21859 ne1889 ne1895 (own_p0 _ (own_zb q2 q0).1) (own_pc _ _ (own_zb q2 q0).2) (own_rmN (own_c q0) (own_z q2 q0) (own_z q4 q0) _ hc2026 (own_cp q0) (own_zb q2 q0).1 (own_zb q2 q0).2 (own_zb q4 q0).1 (own_zb q4 q0).2)) hZ (own_m hw 91 rfl) (own_m hw 20 rfl) (by decide) (by decide)) q2027a q2027c (g := (mkF m 299 L_1900 [(.ref b1652), (.ref b1839)])) rfl (by rw [hml]; rfl) (Steps.refl _) (argsL := [(.ref b1652)]) (rest := []) (lenOf pd_6 rfl) rfl (by show 2 * 0 + _ ≤ _; exact Nat.le_of_eq rfl) (hb hby at_299) (fun _ _ => ⟨rfl, e1974, (by decide : 15 + 2 ≤ _), (by decide : 109 + 24 ≤ _)⟩)
        dsimp only [Pt.U, Pt.locs, Pt.cells, Pt.slots] at X2027 l2027 y2027 z2027 st2027 hQ2027 hSi2027 hgr2027
        subst l2027 y2027 z2027
        obtain ⟨X2027, hS, hZ, hown⟩ := rebS hS (show _ ≤ T1974.heap.size from own_hk hk e1974) X2027 hSi2027 hgr2027 hZ hown
        obtain ⟨h2027, e2027⟩ : ∃ z, T2027.heap = z := ⟨_, rfl⟩
        rw [e2027] at hQ2027
        obtain ⟨rfl, N2027q, K2027q, f2029, f2030⟩ := hQ2027
        have f2031 := f1974_0.keep K2027q
        have f2032 := f1974_1.keep K2027q (ninS ne1888 (ninS ne1894 nin0))
        have f2033 := f1974_2.keep K2027q
        have f2034 := f1974_3.keep K2027q (ninS ne1889 (ninS ne1895 nin0))
        have f2035 := f1974_4.keep K2027q
        have f2036 := f1974_5.keep K2027q (ninS ne1890 (ninS ne1896 nin0))
        have f2037 := f1974_6.keep K2027q
        have f2038 := f1974_7.keep K2027q (ninS ne1891 (ninS ne1897 nin0))
        have f2039 := f1974_8.keep K2027q
        have f2040 := f1974_9.keep K2027q (ninS ne1892 (ninS ne1898 nin0))
        have f2041 := f1974_10.keep K2027q
        have f2042 := f1974_11.keep K2027q (ninS ne1893 (ninS ne1899 nin0))
        have f2043 := f1974_12.keep K2027q (ninS ne1893 (ninS ne1899 nin0))
        have f2044 := f1974_13.keep K2027q (ninS ne1893 (ninS ne1899 nin0))
        have f2045 := f1974_14.keep K2027q (ninS nx_cx01859_cx11859 (ninS nx_cx01859_cx21859 nin0))
        have Z2027 := Nat.le_trans Z1974 K2027q.1
        have hk : T2027.heap.size ≤ h2027.size := by rw [e2027]; exact Nat.le_refl _
        have N2027 := Fr.app N1974 N2027q
        have pre2048 := fun (t : State) (k : Steps p.tables e below (T2027.setTop (mkF m 302 L_1900 [])) t) => pre2028 t (by
          show Steps p.tables e below (T1974.setTop (mkF m 299 L_1900 [(.ref b1652), (.ref b1839)])) _
          refine st2027.trans ?_
          exact k)
        have hj2049 : (j0_8 q0 q2 q3 q4) = (j13_1_0 (j0_6 q0 q2 q3 q4) (j0_7 q0 q2 q3 q4) (own_z q2 q0)) := by unfold j0_8; first | (rw [if_pos hc2026]) | (simp only [if_pos hc2026])
        have hj2050 : (j0_9 q0 q2 q3 q4) = (j13_1_1 (own_c q0) (j0_7 q0 q2 q3 q4) (own_z q2 q0)) := by unfold j0_9; first | (rw [if_pos hc2026]) | (simp only [if_pos hc2026])
        exact ⟨T2027, h2027, _, _, _, X2027, e2027, N2027, Z2027, hS, hk, hZ, hown, f2031, f2032, f2033, f2034, f2035, f2036, f2037, f2038, f2039, f2040, f2041, f2042, f2043, f2044, f2045, (by rw [hj2049]; exact f2029), (by rw [hj2050]; exact f2030), fun t k => pre2048 t (by exact k)⟩
      · skip
        have pre2051 := fun (t : State) (k : Steps p.tables e below (T1974.setTop (mkF m 302 L_1900 [])) t) => pre2024 t (by
          show Steps p.tables e below (T1974.setTop (mkF m 292 L_1900 [(.int (3 : Int32)), (.int (own_Nn q2 q3))])) _
          refine XS.icmpYes X1974.here hx rfl (pc0 := 292) (pc' := 302) rfl (hb hby at_292) rfl (feq hc2026).2 (by decide) (by decide) ?_
          exact k)
        have hj2052 : (j0_8 q0 q2 q3 q4) = (j0_6 q0 q2 q3 q4) := by unfold j0_8; first | (rw [if_neg hc2026]) | (simp only [if_neg hc2026])
        have hj2053 : (j0_9 q0 q2 q3 q4) = (j0_7 q0 q2 q3 q4) := by unfold j0_9; first | (rw [if_neg hc2026]) | (simp only [if_neg hc2026])
        exact ⟨T1974, h1974, _, _, _, (X1974.more (by decide) (by decide)), e1974, N1974, Z1974, hS, hk, hZ, hown, f1974_0, f1974_1, f1974_2, f1974_3, f1974_4, f1974_5, f1974_6, f1974_7, f1974_8, f1974_9, f1974_10, f1974_11, f1974_12, f1974_13, f1974_14, (by rw [hj2052]; exact f1974_15), (by rw [hj2053]; exact f1974_16), fun t k => pre2051 t (by exact k)⟩
    by_cases hs2054 : (((j0_2 q4) + (j0_3 q5)) % (4 : Int32)) = (0 : Int32)
    · skip
      let L_2056 : Array Slot := #[.val (.long q0), .second, .val (.long q1), .second, .val (.long q2), .second, .val (.long q3), .second, .val (.long q4), .second, .val (.long q5), .second, .val (.int (1 : Int32)), .val (.int (own_Nn q2 q3)), .val (.int ((j0_2 q4) + (j0_3 q5))), .val (.int (0 : Int32)), .val (.long (own_c q0)), .second, .val (.long (own_c q1)), .second, .val (.long (own_z q2 q0)), .second, .val (.long (own_z q3 q1)), .second, .val (.long (own_z q4 q0)), .second, .val (.long (own_z q5 q1)), .second, .val (.ref b1649), .val (.ref b1652), .val (.ref b1658), .val (.ref b1700), .val (.ref b1764), .val (.ref b1839), .unset]
      have pre2055 := fun (t : State) (k : Steps p.tables e below (T2025.setTop (mkF m 302 L_2056 [])) t) => pre2025 t (by show Steps p.tables e below (T2025.setTop (mkF m 302 #[.val (.long q0), .second, .val (.long q1), .second, .val (.long q2), .second, .val (.long q3), .second, .val (.long q4), .second, .val (.long q5), .second, .val (.int (1 : Int32)), .val (.int (own_Nn q2 q3)), .val (.int ((j0_2 q4) + (j0_3 q5))), .val (.int (((j0_2 q4) + (j0_3 q5)) % (4 : Int32))), .val (.long (own_c q0)), .second, .val (.long (own_c q1)), .second, .val (.long (own_z q2 q0)), .second, .val (.long (own_z q3 q1)), .second, .val (.long (own_z q4 q0)), .second, .val (.long (own_z q5 q1)), .second, .val (.ref b1649), .val (.ref b1652), .val (.ref b1658), .val (.ref b1700), .val (.ref b1764), .val (.ref b1839), .unset] [])) t; rw [hs2054]; exact k)
      obtain ⟨cq2057, kq2057, q2057a, q2057b, q2057c⟩ := isOf hZ e2025 f2025_10
      obtain ⟨_, _, ⟨T2057, L2057, k2057, n2057⟩, -, X2057, ⟨Lc2057, hQ2057, l2057, y2057, z2057⟩, st2057⟩ := X2025.virtualBack hx (y := (⟨"com/example/stowline/stowline/VolumeBound", "copyTotals", "([J[JI)V"⟩ : MethodName)) (z := (⟨"com/example/stowline/stowline/VolumeBound", "copyTotals", "([J[JI)V"⟩ : MethodName)) hown (mvT hZ (own_m hw 72 rfl)) (mvT hZ (own_m hw 73 rfl)) (notFace_of_selects (args := #[]) (mvT hZ (own_m hw 75 rfl))) (mvT hZ (own_m hw 75 rfl)) (mvT hZ (own_m hw 74 rfl)) (by decide) (backOf (W := 0) (rm10_1_0 l Z aw hw [] b1839 b1700 b1764 cx11859 cx21859 ((j0_8 q0 q2 q3 q4)) ((j0_9 q0 q2 q3 q4)) ((-1 : Int64)) ((-2 : Int64)) ((-3 : Int64)) ((-4 : Int64)) ((-11 : Int64)) ((-12 : Int64)) ((-13 : Int64)) ((-14 : Int64)) cy11859 cy21859 k1700 k1764 h2025 n0 Z2025 f2025_10 f2025_12 f2025_13 f2025_15 f2025_16 f2025_7 f2025_9 g_b1700 g_b1764 (Ne.symm ne1853) (Ne.symm ne1854) (Ne.symm ne1891) (Ne.symm ne1892) (Ne.symm ne1897) (Ne.symm ne1898) ne1776) hZ (own_m hw 76 rfl) (own_m hw 20 rfl) (by decide) (by decide)) q2057a q2057c (g := (mkF m 310 L_2056 [(.int (0 : Int32)), (.ref b1764), (.ref b1700), (.ref b1839)])) rfl (by rw [hml]; rfl) (Steps.refl _) (argsL := [(.ref b1700), (.ref b1764), (.int (0 : Int32))]) (rest := []) (lenOf pd_9 rfl) rfl (by show 2 * 0 + _ ≤ _; exact Nat.le_of_eq rfl) (hb hby at_310) (fun _ _ => ⟨rfl, e2025, (by decide : 17 + 0 ≤ _), (by decide : 133 + 0 ≤ _)⟩)
      dsimp only [Pt.U, Pt.locs, Pt.cells, Pt.slots] at X2057 l2057 y2057 z2057 st2057 hQ2057
      subst l2057 y2057 z2057
      obtain ⟨h2057, e2057⟩ : ∃ z, T2057.heap = z := ⟨_, rfl⟩
      rw [e2057] at hQ2057
      obtain ⟨rfl, N2057q, K2057q, f2058, f2059⟩ := hQ2057
      have f2060 := f2025_0.keep K2057q
      have f2061 := f2025_1.keep K2057q (ninS ne1707 (ninS ne1773 nin0))
      have f2062 := f2025_2.keep K2057q
      have f2063 := f2025_3.keep K2057q (ninS ne1708 (ninS ne1774 nin0))
      have f2064 := f2025_4.keep K2057q
      have f2065 := f2025_5.keep K2057q (ninS ne1709 (ninS ne1775 nin0))
      have f2066 := f2025_6.keep K2057q
      have f2068 := f2025_8.keep K2057q
      have f2070 := f2025_10.keep K2057q
      have f2071 := f2025_11.keep K2057q (ninS (Ne.symm ne1853) (ninS (Ne.symm ne1854) nin0))
      have f2072 := f2025_12.keep K2057q (ninS (Ne.symm ne1853) (ninS (Ne.symm ne1854) nin0))
      have f2073 := f2025_13.keep K2057q (ninS (Ne.symm ne1853) (ninS (Ne.symm ne1854) nin0))
      have f2074 := f2025_14.keep K2057q (ninS (Ne.symm ne1885) (ninS (Ne.symm ne1886) nin0))
      have f2075 := f2025_15.keep K2057q (ninS (Ne.symm ne1891) (ninS (Ne.symm ne1892) nin0))
      have f2076 := f2025_16.keep K2057q (ninS (Ne.symm ne1897) (ninS (Ne.symm ne1898) nin0))
      have Z2057 := Nat.le_trans Z2025 K2057q.1
      have hk := Nat.le_trans hk K2057q.1
      have N2057 := Fr.app N2025 N2057q
      obtain ⟨cl2077, Ar2077, q2077, S2077, M2077, H2077, G2077⟩ := id f2058
      have hin2078 : ¬ ((0 : Int32) < 0 ∨ cl2077.slots.size ≤ ((0 : Int32)).toNatClampNeg) := inb_of S2077 ⟨by decide, by decide⟩
      have hat2079 : cl2077.slots[((0 : Int32)).toNatClampNeg]? = some (.long (j0_8 q0 q2 q3 q4)) := H2077.at hin2078 rfl
      obtain ⟨cl2080, Ar2080, q2080, S2080, M2080, H2080, G2080⟩ := id f2059
      have hin2081 : ¬ ((0 : Int32) < 0 ∨ cl2080.slots.size ≤ ((0 : Int32)).toNatClampNeg) := inb_of S2080 ⟨by decide, by decide⟩
      have hat2082 : cl2080.slots[((0 : Int32)).toNatClampNeg]? = some (.long (j0_9 q0 q2 q3 q4)) := H2080.at hin2081 rfl
      obtain ⟨_, _, ⟨T2083, L2083, k2083, n2083⟩, -, X2083, ⟨Lc2083, hQ2083, l2083, y2083, z2083⟩, st2083⟩ := Jvm.LawKit.callS X2057 hx (y := (⟨"com/example/stowline/stowline/VolumeBoundCopyTotalsPinLaw", "check", "(JJJIJJ)Z"⟩ : MethodName)) hown (mvT hZ (own_m hw 81 rfl)) (mvT hZ (own_m hw 82 rfl)) (mvT hZ (own_m hw 7 rfl)) (mvT hZ (own_m hw 83 rfl)) (by decide) (backOf (W := 0) (rm11 l Z aw hw [] ((own_c q0)) ((own_z q2 q0)) ((own_z q4 q0)) ((own_Nn q2 q3)) ((j0_8 q0 q2 q3 q4)) ((j0_9 q0 q2 q3 q4)) h2057 n0 Z2057 ) hZ (own_m hw 83 rfl) (own_m hw 7 rfl) (by decide) (by decide)) (g := (mkF m 331 L_2056 [(.long (j0_9 q0 q2 q3 q4)), (.long (j0_8 q0 q2 q3 q4)), (.int (own_Nn q2 q3)), (.long (own_z q4 q0)), (.long (own_z q2 q0)), (.long (own_c q0))])) rfl (by rw [hml]; rfl) (argsL := [(.long (own_c q0)), (.long (own_z q2 q0)), (.long (own_z q4 q0)), (.int (own_Nn q2 q3)), (.long (j0_8 q0 q2 q3 q4)), (.long (j0_9 q0 q2 q3 q4))]) (rest := []) (lenOf pd_10 rfl) rfl (by show 2 * 0 + _ ≤ _; exact Nat.le_of_eq rfl) (hb hby at_331) (fun _ _ => ⟨rfl, e2057, (by decide : 17 + 0 ≤ _), (by decide : 133 + 0 ≤ _)⟩)
      dsimp only [Pt.U, Pt.locs, Pt.cells, Pt.slots] at X2083 l2083 y2083 z2083 st2083 hQ2083
      subst l2083 y2083 z2083
      obtain ⟨rfl, N2083q, e2083⟩ := hQ2083
      have N2083 := Fr.app N2057 N2083q
      let L_2084 : Array Slot := #[.val (.long q0), .second, .val (.long q1), .second, .val (.long q2), .second, .val (.long q3), .second, .val (.long q4), .second, .val (.long q5), .second, .val (.int (1 : Int32)), .val (.int (own_Nn q2 q3)), .val (.int ((j0_2 q4) + (j0_3 q5))), .val (.int (0 : Int32)), .val (.long (own_c q0)), .second, .val (.long (own_c q1)), .second, .val (.long (own_z q2 q0)), .second, .val (.long (own_z q3 q1)), .second, .val (.long (own_z q4 q0)), .second, .val (.long (own_z q5 q1)), .second, .val (.ref b1649), .val (.ref b1652), .val (.ref b1658), .val (.ref b1700), .val (.ref b1764), .val (.ref b1839), .val (.int (v11 (own_c q0) (own_z q2 q0) (own_z q4 q0) (own_Nn q2 q3) (j0_8 q0 q2 q3 q4) (j0_9 q0 q2 q3 q4)))]
      have pre2086 := fun (t : State) (k : Steps p.tables e below (T2083.setTop (mkF m 384 L_2084 [(.int (v11 (own_c q0) (own_z q2 q0) (own_z q4 q0) (own_Nn q2 q3) (j0_8 q0 q2 q3 q4) (j0_9 q0 q2 q3 q4)))])) t) => pre2055 t (by
        show Steps p.tables e below (T2025.setTop (mkF m 302 L_2056 [])) _
        refine XS.aload X2025.here hx rfl (hb hby at_302) rfl rfl ?_
        refine XS.aload X2025.here hx rfl (hb hby at_304) rfl rfl ?_
        refine XS.aload X2025.here hx rfl (hb hby at_306) rfl rfl ?_
        refine XS.iload X2025.here hx rfl (hb hby at_308) rfl ?_
        show Steps p.tables e below (T2025.setTop (mkF m 310 L_2056 [(.int (0 : Int32)), (.ref b1764), (.ref b1700), (.ref b1839)])) _
        refine st2057.trans ?_
        refine XS.lload X2057.here hx rfl (hb hby at_313) rfl ?_
        refine XS.lload X2057.here hx rfl (hb hby at_315) rfl ?_
        refine XS.lload X2057.here hx rfl (hb hby at_317) rfl ?_
        refine XS.iload X2057.here hx rfl (hb hby at_319) rfl ?_
        refine XS.aload X2057.here hx rfl (hb hby at_321) rfl rfl ?_
        show Steps p.tables e below (T2057.setTop (mkF m 323 L_2056 [(.ref b1700), (.int (own_Nn q2 q3)), (.long (own_z q4 q0)), (.long (own_z q2 q0)), (.long (own_c q0))])) _
        refine XS.iload X2057.here hx rfl (hb hby at_323) rfl ?_
        show Steps p.tables e below (T2057.setTop (mkF m 325 L_2056 [(.int (0 : Int32)), (.ref b1700), (.int (own_Nn q2 q3)), (.long (own_z q4 q0)), (.long (own_z q2 q0)), (.long (own_c q0))])) _
        refine X2057.laload hx (j := (0 : Int32)) (v := (.long (j0_8 q0 q2 q3 q4))) (by rw [e2057]; exact Ar2077.1) (State.isArrayOf_alike hZ.alike Ar2077.2.1) Ar2077.2.2 hin2078 hat2079 (g := (mkF m 325 L_2056 [(.int (0 : Int32)), (.ref b1700), (.int (own_Nn q2 q3)), (.long (own_z q4 q0)), (.long (own_z q2 q0)), (.long (own_c q0))])) rfl rfl (hb hby at_325) _ ?_
        refine XS.aload X2057.here hx rfl (hb hby at_326) rfl rfl ?_
        refine XS.iload X2057.here hx rfl (hb hby at_328) rfl ?_
        show Steps p.tables e below (T2057.setTop (mkF m 330 L_2056 [(.int (0 : Int32)), (.ref b1764), (.long (j0_8 q0 q2 q3 q4)), (.int (own_Nn q2 q3)), (.long (own_z q4 q0)), (.long (own_z q2 q0)), (.long (own_c q0))])) _
        refine X2057.laload hx (j := (0 : Int32)) (v := (.long (j0_9 q0 q2 q3 q4))) (by rw [e2057]; exact Ar2080.1) (State.isArrayOf_alike hZ.alike Ar2080.2.1) Ar2080.2.2 hin2081 hat2082 (g := (mkF m 330 L_2056 [(.int (0 : Int32)), (.ref b1764), (.long (j0_8 q0 q2 q3 q4)), (.int (own_Nn q2 q3)), (.long (own_z q4 q0)), (.long (own_z q2 q0)), (.long (own_c q0))])) rfl rfl (hb hby at_330) _ ?_
        show Steps p.tables e below (T2057.setTop (mkF m 331 L_2056 [(.long (j0_9 q0 q2 q3 q4)), (.long (j0_8 q0 q2 q3 q4)), (.int (own_Nn q2 q3)), (.long (own_z q4 q0)), (.long (own_z q2 q0)), (.long (own_c q0))])) _
        refine st2083 _ ?_
        refine XS.istore X2083.here hx rfl (hb hby at_334) rfl (l' := L_2084) rfl ?_
        refine XS.iload X2083.here hx rfl (hb hby at_336) rfl ?_
        refine XS.iconst X2083.here hx rfl (hb hby at_338) ?_
        refine XS.icmpYes X2083.here hx rfl (pc0 := 339) (pc' := 382) rfl (hb hby at_339) rfl (feq (by decide : ¬ ((1 : Int32) = (2 : Int32)))).2 (by decide) (by decide) ?_
        refine XS.iload X2083.here hx rfl (hb hby at_382) rfl ?_
        exact k)
      obtain ⟨T2087, L2087, X2087, e2087, N2087, pre2087⟩ : ∃ (T2087 : State) (L2087 : List Loc), Stand p l e room_1 (s.setVm vm2025) m #[(.long q0), (.long q1), (.long q2), (.long q3), (.long q4), (.long q5)] below meth c T2087 L2087 17 133 ∧ T2087.heap = h2057 ∧ Fr n0 L2087 ∧ ∀ t, Steps p.tables e below (T2087.setTop (mkF m 407 L_2084 [(.int (j0_10 q0 q2 q3 q4))])) t → Steps p.tables e below (s₁.setTop (entryFrame m #[(.long q0), (.long q1), (.long q2), (.long q3), (.long q4), (.long q5)] maxLocals)) t := by
        by_cases hc2088 : (v11 (own_c q0) (own_z q2 q0) (own_z q4 q0) (own_Nn q2 q3) (j0_8 q0 q2 q3 q4) (j0_9 q0 q2 q3 q4)) = (0 : Int32)
        · skip
          have pre2089 := fun (t : State) (k : Steps p.tables e below (T2083.setTop (mkF m 407 L_2084 [(.int (0 : Int32))])) t) => pre2086 t (by
            show Steps p.tables e below (T2083.setTop (mkF m 384 L_2084 [(.int (v11 (own_c q0) (own_z q2 q0) (own_z q4 q0) (own_Nn q2 q3) (j0_8 q0 q2 q3 q4) (j0_9 q0 q2 q3 q4)))])) _
            refine XS.ifYes X2083.here hx rfl (pc0 := 384) (pc' := 406) rfl (hb hby at_384) rfl ((if0 _ _).trans (teq hc2088).1) (by decide) (by decide) ?_
            refine XS.iconst X2083.here hx rfl (hb hby at_406) ?_
            exact k)
          have hj2090 : (j0_10 q0 q2 q3 q4) = (0 : Int32) := by unfold j0_10; first | (rw [if_pos hc2088]) | (simp only [if_pos hc2088])
          exact ⟨T2083, _, X2083, e2083, N2083, fun t k => pre2089 t (by rw [hj2090] at k; exact k)⟩
        · skip
          obtain ⟨_, _, ⟨T2091, L2091, k2091, n2091⟩, -, X2091, ⟨Lc2091, hQ2091, l2091, y2091, z2091⟩, st2091⟩ := Jvm.LawKit.callS X2083 hx (y := (⟨"com/example/stowline/stowline/VolumeBoundCopyTotalsPinLaw", "untouched", "([J[JIII)Z"⟩ : MethodName)) hown (mvT hZ (own_m hw 84 rfl)) (mvT hZ (own_m hw 85 rfl)) (mvT hZ (own_m hw 7 rfl)) (mvT hZ (own_m hw 86 rfl)) (by decide) (backOf (W := 0) (rm12_in l Z aw hw [] b1700 b1764 ((0 : Int32)) ((0 : Int32)) ((1 : Int32)) h2057 n0 Z2057 (by decide) (by decide)) hZ (own_m hw 86 rfl) (own_m hw 7 rfl) (by decide) (by decide)) (g := (mkF m 396 L_2084 [(.int (1 : Int32)), (.int (0 : Int32)), (.int (0 : Int32)), (.ref b1764), (.ref b1700)])) rfl (by rw [hml]; rfl) (argsL := [(.ref b1700), (.ref b1764), (.int (0 : Int32)), (.int (0 : Int32)), (.int (1 : Int32))]) (rest := []) (lenOf pd_11 rfl) rfl (by show 2 * 0 + _ ≤ _; exact Nat.le_of_eq rfl) (hb hby at_396) (fun _ _ => ⟨rfl, e2083, (by decide : 17 + 0 ≤ _), (by decide : 133 + 0 ≤ _)⟩)
          dsimp only [Pt.U, Pt.locs, Pt.cells, Pt.slots] at X2091 l2091 y2091 z2091 st2091 hQ2091
          subst l2091 y2091 z2091
          obtain ⟨rfl, N2091q, e2091⟩ := hQ2091
          have N2091 := Fr.app N2083 N2091q
          have pre2092 := fun (t : State) (k : Steps p.tables e below (T2091.setTop (mkF m 407 L_2084 [(.int (1 : Int32))])) t) => pre2086 t (by
            show Steps p.tables e below (T2083.setTop (mkF m 384 L_2084 [(.int (v11 (own_c q0) (own_z q2 q0) (own_z q4 q0) (own_Nn q2 q3) (j0_8 q0 q2 q3 q4) (j0_9 q0 q2 q3 q4)))])) _
            refine XS.ifNo X2083.here hx rfl (hb hby at_384) rfl ((if0 _ _).trans (feq hc2088).1) ?_
            refine XS.aload X2083.here hx rfl (hb hby at_387) rfl rfl ?_
            refine XS.aload X2083.here hx rfl (hb hby at_389) rfl rfl ?_
            refine XS.iconst X2083.here hx rfl (hb hby at_391) ?_
            refine XS.iload X2083.here hx rfl (hb hby at_392) rfl ?_
            refine XS.iload X2083.here hx rfl (hb hby at_394) rfl ?_
            show Steps p.tables e below (T2083.setTop (mkF m 396 L_2084 [(.int (1 : Int32)), (.int (0 : Int32)), (.int (0 : Int32)), (.ref b1764), (.ref b1700)])) _
            refine st2091 _ ?_
            refine XS.ifNo X2091.here hx rfl (hb hby at_399) rfl ((if0 _ _).trans (feq (by decide : ¬ ((1 : Int32) = (0 : Int32)))).1) ?_
            refine XS.iconst X2091.here hx rfl (hb hby at_402) ?_
            refine XS.goto X2091.here hx rfl (pc0 := 403) (pc' := 407) rfl (hb hby at_403) (by decide) (by decide) ?_
            exact k)
          have hj2093 : (j0_10 q0 q2 q3 q4) = (1 : Int32) := by unfold j0_10; first | (rw [if_neg hc2088]) | (simp only [if_neg hc2088])
          exact ⟨T2091, _, X2091, e2091, N2091, fun t k => pre2092 t (by rw [hj2093] at k; exact k)⟩
      let L_2094 : Array Slot := #[.val (.long q0), .second, .val (.long q1), .second, .val (.long q2), .second, .val (.long q3), .second, .val (.long q4), .second, .val (.long q5), .second, .val (.int (1 : Int32)), .val (.int (own_Nn q2 q3)), .val (.int ((j0_2 q4) + (j0_3 q5))), .val (.int (0 : Int32)), .val (.long (own_c q0)), .second, .val (.long (own_c q1)), .second, .val (.long (own_z q2 q0)), .second, .val (.long (own_z q3 q1)), .second, .val (.long (own_z q4 q0)), .second, .val (.long (own_z q5 q1)), .second, .val (.ref b1649), .val (.ref b1652), .val (.ref b1658), .val (.ref b1700), .val (.ref b1764), .val (.ref b1839), .val (.int (j0_10 q0 q2 q3 q4))]
      have pre2096 := fun (t : State) (k : Steps p.tables e below (T2087.setTop (mkF m 411 L_2094 [(.int (j0_10 q0 q2 q3 q4))])) t) => pre2087 t (by
        show Steps p.tables e below (T2087.setTop (mkF m 407 L_2084 [(.int (j0_10 q0 q2 q3 q4))])) _
        refine XS.istore X2087.here hx rfl (hb hby at_407) rfl (l' := L_2094) rfl ?_
        refine XS.iload X2087.here hx rfl (hb hby at_409) rfl ?_
        exact k)
      obtain ⟨T2097, L2097, X2097, e2097, N2097, pre2097⟩ : ∃ (T2097 : State) (L2097 : List Loc), Stand p l e room_1 (s.setVm vm2025) m #[(.long q0), (.long q1), (.long q2), (.long q3), (.long q4), (.long q5)] below meth c T2097 L2097 17 133 ∧ T2097.heap = h2057 ∧ Fr n0 L2097 ∧ ∀ t, Steps p.tables e below (T2097.setTop (mkF m 434 L_2094 [(.int (j0_11 q0 q2 q3 q4))])) t → Steps p.tables e below (s₁.setTop (entryFrame m #[(.long q0), (.long q1), (.long q2), (.long q3), (.long q4), (.long q5)] maxLocals)) t := by
        by_cases hc2098 : (j0_10 q0 q2 q3 q4) = (0 : Int32)
        · skip
          have pre2099 := fun (t : State) (k : Steps p.tables e below (T2087.setTop (mkF m 434 L_2094 [(.int (0 : Int32))])) t) => pre2096 t (by
            show Steps p.tables e below (T2087.setTop (mkF m 411 L_2094 [(.int (j0_10 q0 q2 q3 q4))])) _
            refine XS.ifYes X2087.here hx rfl (pc0 := 411) (pc' := 433) rfl (hb hby at_411) rfl ((if0 _ _).trans (teq hc2098).1) (by decide) (by decide) ?_
            refine XS.iconst X2087.here hx rfl (hb hby at_433) ?_
            exact k)
          have hj2100 : (j0_11 q0 q2 q3 q4) = (0 : Int32) := by unfold j0_11; first | (rw [if_pos hc2098]) | (simp only [if_pos hc2098])
          exact ⟨T2087, _, X2087, e2087, N2087, fun t k => pre2099 t (by rw [hj2100] at k; exact k)⟩
        · skip
          obtain ⟨_, _, ⟨T2101, L2101, k2101, n2101⟩, -, X2101, ⟨Lc2101, hQ2101, l2101, y2101, z2101⟩, st2101⟩ := Jvm.LawKit.callS X2087 hx (y := (⟨"com/example/stowline/stowline/VolumeBoundCopyTotalsPinLaw", "untouched", "([J[JIII)Z"⟩ : MethodName)) hown (mvT hZ (own_m hw 84 rfl)) (mvT hZ (own_m hw 85 rfl)) (mvT hZ (own_m hw 7 rfl)) (mvT hZ (own_m hw 86 rfl)) (by decide) (backOf (W := 0) (rm12_hi1 l Z aw hw [] b1700 b1764 ((0 : Int32)) ((1 : Int32)) ((j0_8 q0 q2 q3 q4)) ((-3 : Int64)) ((-4 : Int64)) ((j0_9 q0 q2 q3 q4)) ((-13 : Int64)) ((-14 : Int64)) k1700 k1764 h2057 n0 Z2057 f2058 f2059 (by decide) (by decide)) hZ (own_m hw 86 rfl) (own_m hw 7 rfl) (by decide) (by decide)) (g := (mkF m 423 L_2094 [(.int (1 : Int32)), (.int (0 : Int32)), (.int (1 : Int32)), (.ref b1764), (.ref b1700)])) rfl (by rw [hml]; rfl) (argsL := [(.ref b1700), (.ref b1764), (.int (1 : Int32)), (.int (0 : Int32)), (.int (1 : Int32))]) (rest := []) (lenOf pd_11 rfl) rfl (by show 2 * 0 + _ ≤ _; exact Nat.le_of_eq rfl) (hb hby at_423) (fun _ _ => ⟨rfl, e2087, (by decide : 17 + 0 ≤ _), (by decide : 133 + 0 ≤ _)⟩)
          dsimp only [Pt.U, Pt.locs, Pt.cells, Pt.slots] at X2101 l2101 y2101 z2101 st2101 hQ2101
          subst l2101 y2101 z2101
          obtain ⟨rfl, N2101q, e2101⟩ := hQ2101
          have N2101 := Fr.app N2087 N2101q
          have pre2102 := fun (t : State) (k : Steps p.tables e below (T2101.setTop (mkF m 434 L_2094 [(.int (1 : Int32))])) t) => pre2096 t (by
            show Steps p.tables e below (T2087.setTop (mkF m 411 L_2094 [(.int (j0_10 q0 q2 q3 q4))])) _
            refine XS.ifNo X2087.here hx rfl (hb hby at_411) rfl ((if0 _ _).trans (feq hc2098).1) ?_
            refine XS.aload X2087.here hx rfl (hb hby at_414) rfl rfl ?_
            refine XS.aload X2087.here hx rfl (hb hby at_416) rfl rfl ?_
            refine XS.iconst X2087.here hx rfl (hb hby at_418) ?_
            refine XS.iload X2087.here hx rfl (hb hby at_419) rfl ?_
            refine XS.iload X2087.here hx rfl (hb hby at_421) rfl ?_
            show Steps p.tables e below (T2087.setTop (mkF m 423 L_2094 [(.int (1 : Int32)), (.int (0 : Int32)), (.int (1 : Int32)), (.ref b1764), (.ref b1700)])) _
            refine st2101 _ ?_
            refine XS.ifNo X2101.here hx rfl (hb hby at_426) rfl ((if0 _ _).trans (feq (by decide : ¬ ((1 : Int32) = (0 : Int32)))).1) ?_
            refine XS.iconst X2101.here hx rfl (hb hby at_429) ?_
            refine XS.goto X2101.here hx rfl (pc0 := 430) (pc' := 434) rfl (hb hby at_430) (by decide) (by decide) ?_
            exact k)
          have hj2103 : (j0_11 q0 q2 q3 q4) = (1 : Int32) := by unfold j0_11; first | (rw [if_neg hc2098]) | (simp only [if_neg hc2098])
          exact ⟨T2101, _, X2101, e2101, N2101, fun t k => pre2102 t (by rw [hj2103] at k; exact k)⟩
      let L_2104 : Array Slot := #[.val (.long q0), .second, .val (.long q1), .second, .val (.long q2), .second, .val (.long q3), .second, .val (.long q4), .second, .val (.long q5), .second, .val (.int (1 : Int32)), .val (.int (own_Nn q2 q3)), .val (.int ((j0_2 q4) + (j0_3 q5))), .val (.int (0 : Int32)), .val (.long (own_c q0)), .second, .val (.long (own_c q1)), .second, .val (.long (own_z q2 q0)), .second, .val (.long (own_z q3 q1)), .second, .val (.long (own_z q4 q0)), .second, .val (.long (own_z q5 q1)), .second, .val (.ref b1649), .val (.ref b1652), .val (.ref b1658), .val (.ref b1700), .val (.ref b1764), .val (.ref b1839), .val (.int (j0_11 q0 q2 q3 q4))]
      have pre2106 := fun (t : State) (k : Steps p.tables e below (T2097.setTop (mkF m 438 L_2104 [(.int (j0_11 q0 q2 q3 q4))])) t) => pre2097 t (by
        show Steps p.tables e below (T2097.setTop (mkF m 434 L_2094 [(.int (j0_11 q0 q2 q3 q4))])) _
        refine XS.istore X2097.here hx rfl (hb hby at_434) rfl (l' := L_2104) rfl ?_
        refine XS.iload X2097.here hx rfl (hb hby at_436) rfl ?_
        exact k)
      obtain ⟨T2107, L2107, X2107, e2107, N2107, pre2107⟩ : ∃ (T2107 : State) (L2107 : List Loc), Stand p l e room_1 (s.setVm vm2025) m #[(.long q0), (.long q1), (.long q2), (.long q3), (.long q4), (.long q5)] below meth c T2107 L2107 17 133 ∧ T2107.heap = h2057 ∧ Fr n0 L2107 ∧ ∀ t, Steps p.tables e below (T2107.setTop (mkF m 461 L_2104 [(.int (j0_12 q0 q2 q3 q4))])) t → Steps p.tables e below (s₁.setTop (entryFrame m #[(.long q0), (.long q1), (.long q2), (.long q3), (.long q4), (.long q5)] maxLocals)) t := by
        by_cases hc2108 : (j0_11 q0 q2 q3 q4) = (0 : Int32)
        · skip
          have pre2109 := fun (t : State) (k : Steps p.tables e below (T2097.setTop (mkF m 461 L_2104 [(.int (0 : Int32))])) t) => pre2106 t (by
            show Steps p.tables e below (T2097.setTop (mkF m 438 L_2104 [(.int (j0_11 q0 q2 q3 q4))])) _
            refine XS.ifYes X2097.here hx rfl (pc0 := 438) (pc' := 460) rfl (hb hby at_438) rfl ((if0 _ _).trans (teq hc2108).1) (by decide) (by decide) ?_
            refine XS.iconst X2097.here hx rfl (hb hby at_460) ?_
            exact k)
          have hj2110 : (j0_12 q0 q2 q3 q4) = (0 : Int32) := by unfold j0_12; first | (rw [if_pos hc2108]) | (simp only [if_pos hc2108])
          exact ⟨T2097, _, X2097, e2097, N2097, fun t k => pre2109 t (by rw [hj2110] at k; exact k)⟩
        · skip
          obtain ⟨_, _, ⟨T2111, L2111, k2111, n2111⟩, -, X2111, ⟨Lc2111, hQ2111, l2111, y2111, z2111⟩, st2111⟩ := Jvm.LawKit.callS X2097 hx (y := (⟨"com/example/stowline/stowline/VolumeBoundCopyTotalsPinLaw", "untouched", "([J[JIII)Z"⟩ : MethodName)) hown (mvT hZ (own_m hw 84 rfl)) (mvT hZ (own_m hw 85 rfl)) (mvT hZ (own_m hw 7 rfl)) (mvT hZ (own_m hw 86 rfl)) (by decide) (backOf (W := 0) (rm12_hi2 l Z aw hw [] b1700 b1764 ((0 : Int32)) ((1 : Int32)) ((j0_8 q0 q2 q3 q4)) ((-2 : Int64)) ((-4 : Int64)) ((j0_9 q0 q2 q3 q4)) ((-12 : Int64)) ((-14 : Int64)) k1700 k1764 h2057 n0 Z2057 f2058 f2059 (by decide) (by decide)) hZ (own_m hw 86 rfl) (own_m hw 7 rfl) (by decide) (by decide)) (g := (mkF m 450 L_2104 [(.int (1 : Int32)), (.int (0 : Int32)), (.int (2 : Int32)), (.ref b1764), (.ref b1700)])) rfl (by rw [hml]; rfl) (argsL := [(.ref b1700), (.ref b1764), (.int (2 : Int32)), (.int (0 : Int32)), (.int (1 : Int32))]) (rest := []) (lenOf pd_11 rfl) rfl (by show 2 * 0 + _ ≤ _; exact Nat.le_of_eq rfl) (hb hby at_450) (fun _ _ => ⟨rfl, e2097, (by decide : 17 + 0 ≤ _), (by decide : 133 + 0 ≤ _)⟩)
          dsimp only [Pt.U, Pt.locs, Pt.cells, Pt.slots] at X2111 l2111 y2111 z2111 st2111 hQ2111
          subst l2111 y2111 z2111
          obtain ⟨rfl, N2111q, e2111⟩ := hQ2111
          have N2111 := Fr.app N2097 N2111q
          have pre2112 := fun (t : State) (k : Steps p.tables e below (T2111.setTop (mkF m 461 L_2104 [(.int (1 : Int32))])) t) => pre2106 t (by
            show Steps p.tables e below (T2097.setTop (mkF m 438 L_2104 [(.int (j0_11 q0 q2 q3 q4))])) _
            refine XS.ifNo X2097.here hx rfl (hb hby at_438) rfl ((if0 _ _).trans (feq hc2108).1) ?_
            refine XS.aload X2097.here hx rfl (hb hby at_441) rfl rfl ?_
            refine XS.aload X2097.here hx rfl (hb hby at_443) rfl rfl ?_
            refine XS.iconst X2097.here hx rfl (hb hby at_445) ?_
            refine XS.iload X2097.here hx rfl (hb hby at_446) rfl ?_
            refine XS.iload X2097.here hx rfl (hb hby at_448) rfl ?_
            show Steps p.tables e below (T2097.setTop (mkF m 450 L_2104 [(.int (1 : Int32)), (.int (0 : Int32)), (.int (2 : Int32)), (.ref b1764), (.ref b1700)])) _
            refine st2111 _ ?_
            refine XS.ifNo X2111.here hx rfl (hb hby at_453) rfl ((if0 _ _).trans (feq (by decide : ¬ ((1 : Int32) = (0 : Int32)))).1) ?_
            refine XS.iconst X2111.here hx rfl (hb hby at_456) ?_
            refine XS.goto X2111.here hx rfl (pc0 := 457) (pc' := 461) rfl (hb hby at_457) (by decide) (by decide) ?_
            exact k)
          have hj2113 : (j0_12 q0 q2 q3 q4) = (1 : Int32) := by unfold j0_12; first | (rw [if_neg hc2108]) | (simp only [if_neg hc2108])
          exact ⟨T2111, _, X2111, e2111, N2111, fun t k => pre2112 t (by rw [hj2113] at k; exact k)⟩
      let L_2114 : Array Slot := #[.val (.long q0), .second, .val (.long q1), .second, .val (.long q2), .second, .val (.long q3), .second, .val (.long q4), .second, .val (.long q5), .second, .val (.int (1 : Int32)), .val (.int (own_Nn q2 q3)), .val (.int ((j0_2 q4) + (j0_3 q5))), .val (.int (0 : Int32)), .val (.long (own_c q0)), .second, .val (.long (own_c q1)), .second, .val (.long (own_z q2 q0)), .second, .val (.long (own_z q3 q1)), .second, .val (.long (own_z q4 q0)), .second, .val (.long (own_z q5 q1)), .second, .val (.ref b1649), .val (.ref b1652), .val (.ref b1658), .val (.ref b1700), .val (.ref b1764), .val (.ref b1839), .val (.int (j0_12 q0 q2 q3 q4))]
      have pre2116 := fun (t : State) (k : Steps p.tables e below (T2107.setTop (mkF m 465 L_2114 [(.int (j0_12 q0 q2 q3 q4))])) t) => pre2107 t (by
        show Steps p.tables e below (T2107.setTop (mkF m 461 L_2104 [(.int (j0_12 q0 q2 q3 q4))])) _
        refine XS.istore X2107.here hx rfl (hb hby at_461) rfl (l' := L_2114) rfl ?_
        refine XS.iload X2107.here hx rfl (hb hby at_463) rfl ?_
        exact k)
      obtain ⟨T2117, L2117, X2117, e2117, N2117, pre2117⟩ : ∃ (T2117 : State) (L2117 : List Loc), Stand p l e room_1 (s.setVm vm2025) m #[(.long q0), (.long q1), (.long q2), (.long q3), (.long q4), (.long q5)] below meth c T2117 L2117 17 133 ∧ T2117.heap = h2057 ∧ Fr n0 L2117 ∧ ∀ t, Steps p.tables e below (T2117.setTop (mkF m 488 L_2114 [(.int (j0_13 q0 q2 q3 q4))])) t → Steps p.tables e below (s₁.setTop (entryFrame m #[(.long q0), (.long q1), (.long q2), (.long q3), (.long q4), (.long q5)] maxLocals)) t := by
        by_cases hc2118 : (j0_12 q0 q2 q3 q4) = (0 : Int32)
        · skip
          have pre2119 := fun (t : State) (k : Steps p.tables e below (T2107.setTop (mkF m 488 L_2114 [(.int (0 : Int32))])) t) => pre2116 t (by
            show Steps p.tables e below (T2107.setTop (mkF m 465 L_2114 [(.int (j0_12 q0 q2 q3 q4))])) _
            refine XS.ifYes X2107.here hx rfl (pc0 := 465) (pc' := 487) rfl (hb hby at_465) rfl ((if0 _ _).trans (teq hc2118).1) (by decide) (by decide) ?_
            refine XS.iconst X2107.here hx rfl (hb hby at_487) ?_
            exact k)
          have hj2120 : (j0_13 q0 q2 q3 q4) = (0 : Int32) := by unfold j0_13; first | (rw [if_pos hc2118]) | (simp only [if_pos hc2118])
          exact ⟨T2107, _, X2107, e2107, N2107, fun t k => pre2119 t (by rw [hj2120] at k; exact k)⟩
        · skip
          obtain ⟨_, _, ⟨T2121, L2121, k2121, n2121⟩, -, X2121, ⟨Lc2121, hQ2121, l2121, y2121, z2121⟩, st2121⟩ := Jvm.LawKit.callS X2107 hx (y := (⟨"com/example/stowline/stowline/VolumeBoundCopyTotalsPinLaw", "untouched", "([J[JIII)Z"⟩ : MethodName)) hown (mvT hZ (own_m hw 84 rfl)) (mvT hZ (own_m hw 85 rfl)) (mvT hZ (own_m hw 7 rfl)) (mvT hZ (own_m hw 86 rfl)) (by decide) (backOf (W := 0) (rm12_hi3 l Z aw hw [] b1700 b1764 ((0 : Int32)) ((1 : Int32)) ((j0_8 q0 q2 q3 q4)) ((-2 : Int64)) ((-3 : Int64)) ((j0_9 q0 q2 q3 q4)) ((-12 : Int64)) ((-13 : Int64)) k1700 k1764 h2057 n0 Z2057 f2058 f2059 (by decide) (by decide)) hZ (own_m hw 86 rfl) (own_m hw 7 rfl) (by decide) (by decide)) (g := (mkF m 477 L_2114 [(.int (1 : Int32)), (.int (0 : Int32)), (.int (3 : Int32)), (.ref b1764), (.ref b1700)])) rfl (by rw [hml]; rfl) (argsL := [(.ref b1700), (.ref b1764), (.int (3 : Int32)), (.int (0 : Int32)), (.int (1 : Int32))]) (rest := []) (lenOf pd_11 rfl) rfl (by show 2 * 0 + _ ≤ _; exact Nat.le_of_eq rfl) (hb hby at_477) (fun _ _ => ⟨rfl, e2107, (by decide : 17 + 0 ≤ _), (by decide : 133 + 0 ≤ _)⟩)
          dsimp only [Pt.U, Pt.locs, Pt.cells, Pt.slots] at X2121 l2121 y2121 z2121 st2121 hQ2121
          subst l2121 y2121 z2121
          obtain ⟨rfl, N2121q, e2121⟩ := hQ2121
          have N2121 := Fr.app N2107 N2121q
          have pre2122 := fun (t : State) (k : Steps p.tables e below (T2121.setTop (mkF m 488 L_2114 [(.int (1 : Int32))])) t) => pre2116 t (by
            show Steps p.tables e below (T2107.setTop (mkF m 465 L_2114 [(.int (j0_12 q0 q2 q3 q4))])) _
            refine XS.ifNo X2107.here hx rfl (hb hby at_465) rfl ((if0 _ _).trans (feq hc2118).1) ?_
            refine XS.aload X2107.here hx rfl (hb hby at_468) rfl rfl ?_
            refine XS.aload X2107.here hx rfl (hb hby at_470) rfl rfl ?_
            refine XS.iconst X2107.here hx rfl (hb hby at_472) ?_
            refine XS.iload X2107.here hx rfl (hb hby at_473) rfl ?_
            refine XS.iload X2107.here hx rfl (hb hby at_475) rfl ?_
            show Steps p.tables e below (T2107.setTop (mkF m 477 L_2114 [(.int (1 : Int32)), (.int (0 : Int32)), (.int (3 : Int32)), (.ref b1764), (.ref b1700)])) _
            refine st2121 _ ?_
            refine XS.ifNo X2121.here hx rfl (hb hby at_480) rfl ((if0 _ _).trans (feq (by decide : ¬ ((1 : Int32) = (0 : Int32)))).1) ?_
            refine XS.iconst X2121.here hx rfl (hb hby at_483) ?_
            refine XS.goto X2121.here hx rfl (pc0 := 484) (pc' := 488) rfl (hb hby at_484) (by decide) (by decide) ?_
            exact k)
          have hj2123 : (j0_13 q0 q2 q3 q4) = (1 : Int32) := by unfold j0_13; first | (rw [if_neg hc2118]) | (simp only [if_neg hc2118])
          exact ⟨T2121, _, X2121, e2121, N2121, fun t k => pre2122 t (by rw [hj2123] at k; exact k)⟩
      let L_2124 : Array Slot := #[.val (.long q0), .second, .val (.long q1), .second, .val (.long q2), .second, .val (.long q3), .second, .val (.long q4), .second, .val (.long q5), .second, .val (.int (1 : Int32)), .val (.int (own_Nn q2 q3)), .val (.int ((j0_2 q4) + (j0_3 q5))), .val (.int (0 : Int32)), .val (.long (own_c q0)), .second, .val (.long (own_c q1)), .second, .val (.long (own_z q2 q0)), .second, .val (.long (own_z q3 q1)), .second, .val (.long (own_z q4 q0)), .second, .val (.long (own_z q5 q1)), .second, .val (.ref b1649), .val (.ref b1652), .val (.ref b1658), .val (.ref b1700), .val (.ref b1764), .val (.ref b1839), .val (.int (j0_13 q0 q2 q3 q4))]
      obtain ⟨fs, hr, hrun, hended, hRW⟩ := X2117.leaveW hS (own_hk hk e2117) (v := some (.int (nar .boolean (j0_13 q0 q2 q3 q4)))) (fun h => by rw [Bd.returns] at h; cases h)
      refine ⟨_, _, pre2117 _ ?_, hrun, hended, _, _, rfl, ?_, hRW.1, hRW.2.1, hRW.2.2.1, hRW.2.2.2.mono (by decide) (by decide)⟩
      · skip
        show Steps p.tables e below (T2117.setTop (mkF m 488 L_2114 [(.int (j0_13 q0 q2 q3 q4))])) _
        refine XS.istore X2117.here hx rfl (hb hby at_488) rfl (l' := L_2124) rfl ?_
        refine XS.iload X2117.here hx rfl (hb hby at_490) rfl ?_
        show Steps p.tables e below (T2117.setTop (mkF m 492 L_2124 [(.int (j0_13 q0 q2 q3 q4))])) _
        exact retN X2117 hx (t := .boolean) Bd.returns (by simp) (hb hby at_492) hr
      · show Q0 Z q0 q1 q2 q3 q4 q5 h0 n0 _ T2117.heap _
        rw [e2117]
        have hv : (nar .boolean (j0_13 q0 q2 q3 q4)) = (v0 q0 q1 q2 q3 q4 q5) := by unfold v0; first | (rw [if_pos hc1604, if_pos hs2054]) | (simp only [if_pos hc1604, if_pos hs2054])
        exact ⟨(by rw [← hv]), N2117⟩
    · skip
      by_cases hs2125 : (((j0_2 q4) + (j0_3 q5)) % (4 : Int32)) = (1 : Int32)
      · skip
        let L_2127 : Array Slot := #[.val (.long q0), .second, .val (.long q1), .second, .val (.long q2), .second, .val (.long q3), .second, .val (.long q4), .second, .val (.long q5), .second, .val (.int (1 : Int32)), .val (.int (own_Nn q2 q3)), .val (.int ((j0_2 q4) + (j0_3 q5))), .val (.int (1 : Int32)), .val (.long (own_c q0)), .second, .val (.long (own_c q1)), .second, .val (.long (own_z q2 q0)), .second, .val (.long (own_z q3 q1)), .second, .val (.long (own_z q4 q0)), .second, .val (.long (own_z q5 q1)), .second, .val (.ref b1649), .val (.ref b1652), .val (.ref b1658), .val (.ref b1700), .val (.ref b1764), .val (.ref b1839), .unset]
        have pre2126 := fun (t : State) (k : Steps p.tables e below (T2025.setTop (mkF m 302 L_2127 [])) t) => pre2025 t (by show Steps p.tables e below (T2025.setTop (mkF m 302 #[.val (.long q0), .second, .val (.long q1), .second, .val (.long q2), .second, .val (.long q3), .second, .val (.long q4), .second, .val (.long q5), .second, .val (.int (1 : Int32)), .val (.int (own_Nn q2 q3)), .val (.int ((j0_2 q4) + (j0_3 q5))), .val (.int (((j0_2 q4) + (j0_3 q5)) % (4 : Int32))), .val (.long (own_c q0)), .second, .val (.long (own_c q1)), .second, .val (.long (own_z q2 q0)), .second, .val (.long (own_z q3 q1)), .second, .val (.long (own_z q4 q0)), .second, .val (.long (own_z q5 q1)), .second, .val (.ref b1649), .val (.ref b1652), .val (.ref b1658), .val (.ref b1700), .val (.ref b1764), .val (.ref b1839), .unset] [])) t; rw [hs2125]; exact k)
        obtain ⟨cq2128, kq2128, q2128a, q2128b, q2128c⟩ := isOf hZ e2025 f2025_10
        obtain ⟨_, _, ⟨T2128, L2128, k2128, n2128⟩, -, X2128, ⟨Lc2128, hQ2128, l2128, y2128, z2128⟩, st2128⟩ := X2025.virtualBack hx (y := (⟨"com/example/stowline/stowline/VolumeBound", "copyTotals", "([J[JI)V"⟩ : MethodName)) (z := (⟨"com/example/stowline/stowline/VolumeBound", "copyTotals", "([J[JI)V"⟩ : MethodName)) hown (mvT hZ (own_m hw 72 rfl)) (mvT hZ (own_m hw 73 rfl)) (notFace_of_selects (args := #[]) (mvT hZ (own_m hw 75 rfl))) (mvT hZ (own_m hw 75 rfl)) (mvT hZ (own_m hw 74 rfl)) (by decide) (backOf (W := 0) (rm10_1_1 l Z aw hw [] b1839 b1700 b1764 cx11859 cx21859 ((j0_8 q0 q2 q3 q4)) ((j0_9 q0 q2 q3 q4)) ((-1 : Int64)) ((-2 : Int64)) ((-3 : Int64)) ((-4 : Int64)) ((-11 : Int64)) ((-12 : Int64)) ((-13 : Int64)) ((-14 : Int64)) cy11859 cy21859 k1700 k1764 h2025 n0 Z2025 f2025_10 f2025_12 f2025_13 f2025_15 f2025_16 f2025_7 f2025_9 g_b1700 g_b1764 (Ne.symm ne1853) (Ne.symm ne1854) (Ne.symm ne1891) (Ne.symm ne1892) (Ne.symm ne1897) (Ne.symm ne1898) ne1776) hZ (own_m hw 76 rfl) (own_m hw 20 rfl) (by decide) (by decide)) q2128a q2128c (g := (mkF m 310 L_2127 [(.int (1 : Int32)), (.ref b1764), (.ref b1700), (.ref b1839)])) rfl (by rw [hml]; rfl) (Steps.refl _) (argsL := [(.ref b1700), (.ref b1764), (.int (1 : Int32))]) (rest := []) (lenOf pd_9 rfl) rfl (by show 2 * 0 + _ ≤ _; exact Nat.le_of_eq rfl) (hb hby at_310) (fun _ _ => ⟨rfl, e2025, (by decide : 17 + 0 ≤ _), (by decide : 133 + 0 ≤ _)⟩)
        dsimp only [Pt.U, Pt.locs, Pt.cells, Pt.slots] at X2128 l2128 y2128 z2128 st2128 hQ2128
        subst l2128 y2128 z2128
        obtain ⟨h2128, e2128⟩ : ∃ z, T2128.heap = z := ⟨_, rfl⟩
        rw [e2128] at hQ2128
        obtain ⟨rfl, N2128q, K2128q, f2129, f2130⟩ := hQ2128
        have f2131 := f2025_0.keep K2128q
        have f2132 := f2025_1.keep K2128q (ninS ne1707 (ninS ne1773 nin0))
        have f2133 := f2025_2.keep K2128q
        have f2134 := f2025_3.keep K2128q (ninS ne1708 (ninS ne1774 nin0))
        have f2135 := f2025_4.keep K2128q
        have f2136 := f2025_5.keep K2128q (ninS ne1709 (ninS ne1775 nin0))
        have f2137 := f2025_6.keep K2128q
        have f2139 := f2025_8.keep K2128q
        have f2141 := f2025_10.keep K2128q
        have f2142 := f2025_11.keep K2128q (ninS (Ne.symm ne1853) (ninS (Ne.symm ne1854) nin0))
        have f2143 := f2025_12.keep K2128q (ninS (Ne.symm ne1853) (ninS (Ne.symm ne1854) nin0))
        have f2144 := f2025_13.keep K2128q (ninS (Ne.symm ne1853) (ninS (Ne.symm ne1854) nin0))
        have f2145 := f2025_14.keep K2128q (ninS (Ne.symm ne1885) (ninS (Ne.symm ne1886) nin0))
        have f2146 := f2025_15.keep K2128q (ninS (Ne.symm ne1891) (ninS (Ne.symm ne1892) nin0))
        have f2147 := f2025_16.keep K2128q (ninS (Ne.symm ne1897) (ninS (Ne.symm ne1898) nin0))
        have Z2128 := Nat.le_trans Z2025 K2128q.1
        have hk := Nat.le_trans hk K2128q.1
        have N2128 := Fr.app N2025 N2128q
        obtain ⟨cl2148, Ar2148, q2148, S2148, M2148, H2148, G2148⟩ := id f2129
        have hin2149 : ¬ ((1 : Int32) < 0 ∨ cl2148.slots.size ≤ ((1 : Int32)).toNatClampNeg) := inb_of S2148 ⟨by decide, by decide⟩
        have hat2150 : cl2148.slots[((1 : Int32)).toNatClampNeg]? = some (.long (j0_8 q0 q2 q3 q4)) := H2148.at hin2149 rfl
        obtain ⟨cl2151, Ar2151, q2151, S2151, M2151, H2151, G2151⟩ := id f2130
        have hin2152 : ¬ ((1 : Int32) < 0 ∨ cl2151.slots.size ≤ ((1 : Int32)).toNatClampNeg) := inb_of S2151 ⟨by decide, by decide⟩
        have hat2153 : cl2151.slots[((1 : Int32)).toNatClampNeg]? = some (.long (j0_9 q0 q2 q3 q4)) := H2151.at hin2152 rfl
        obtain ⟨_, _, ⟨T2154, L2154, k2154, n2154⟩, -, X2154, ⟨Lc2154, hQ2154, l2154, y2154, z2154⟩, st2154⟩ := Jvm.LawKit.callS X2128 hx (y := (⟨"com/example/stowline/stowline/VolumeBoundCopyTotalsPinLaw", "check", "(JJJIJJ)Z"⟩ : MethodName)) hown (mvT hZ (own_m hw 81 rfl)) (mvT hZ (own_m hw 82 rfl)) (mvT hZ (own_m hw 7 rfl)) (mvT hZ (own_m hw 83 rfl)) (by decide) (backOf (W := 0) (rm11 l Z aw hw [] ((own_c q0)) ((own_z q2 q0)) ((own_z q4 q0)) ((own_Nn q2 q3)) ((j0_8 q0 q2 q3 q4)) ((j0_9 q0 q2 q3 q4)) h2128 n0 Z2128 ) hZ (own_m hw 83 rfl) (own_m hw 7 rfl) (by decide) (by decide)) (g := (mkF m 331 L_2127 [(.long (j0_9 q0 q2 q3 q4)), (.long (j0_8 q0 q2 q3 q4)), (.int (own_Nn q2 q3)), (.long (own_z q4 q0)), (.long (own_z q2 q0)), (.long (own_c q0))])) rfl (by rw [hml]; rfl) (argsL := [(.long (own_c q0)), (.long (own_z q2 q0)), (.long (own_z q4 q0)), (.int (own_Nn q2 q3)), (.long (j0_8 q0 q2 q3 q4)), (.long (j0_9 q0 q2 q3 q4))]) (rest := []) (lenOf pd_10 rfl) rfl (by show 2 * 0 + _ ≤ _; exact Nat.le_of_eq rfl) (hb hby at_331) (fun _ _ => ⟨rfl, e2128, (by decide : 17 + 0 ≤ _), (by decide : 133 + 0 ≤ _)⟩)
        dsimp only [Pt.U, Pt.locs, Pt.cells, Pt.slots] at X2154 l2154 y2154 z2154 st2154 hQ2154
        subst l2154 y2154 z2154
        obtain ⟨rfl, N2154q, e2154⟩ := hQ2154
        have N2154 := Fr.app N2128 N2154q
        let L_2155 : Array Slot := #[.val (.long q0), .second, .val (.long q1), .second, .val (.long q2), .second, .val (.long q3), .second, .val (.long q4), .second, .val (.long q5), .second, .val (.int (1 : Int32)), .val (.int (own_Nn q2 q3)), .val (.int ((j0_2 q4) + (j0_3 q5))), .val (.int (1 : Int32)), .val (.long (own_c q0)), .second, .val (.long (own_c q1)), .second, .val (.long (own_z q2 q0)), .second, .val (.long (own_z q3 q1)), .second, .val (.long (own_z q4 q0)), .second, .val (.long (own_z q5 q1)), .second, .val (.ref b1649), .val (.ref b1652), .val (.ref b1658), .val (.ref b1700), .val (.ref b1764), .val (.ref b1839), .val (.int (v11 (own_c q0) (own_z q2 q0) (own_z q4 q0) (own_Nn q2 q3) (j0_8 q0 q2 q3 q4) (j0_9 q0 q2 q3 q4)))]
        have pre2157 := fun (t : State) (k : Steps p.tables e below (T2154.setTop (mkF m 384 L_2155 [(.int (v11 (own_c q0) (own_z q2 q0) (own_z q4 q0) (own_Nn q2 q3) (j0_8 q0 q2 q3 q4) (j0_9 q0 q2 q3 q4)))])) t) => pre2126 t (by
          show Steps p.tables e below (T2025.setTop (mkF m 302 L_2127 [])) _
          refine XS.aload X2025.here hx rfl (hb hby at_302) rfl rfl ?_
          refine XS.aload X2025.here hx rfl (hb hby at_304) rfl rfl ?_
          refine XS.aload X2025.here hx rfl (hb hby at_306) rfl rfl ?_
          refine XS.iload X2025.here hx rfl (hb hby at_308) rfl ?_
          show Steps p.tables e below (T2025.setTop (mkF m 310 L_2127 [(.int (1 : Int32)), (.ref b1764), (.ref b1700), (.ref b1839)])) _
          refine st2128.trans ?_
          refine XS.lload X2128.here hx rfl (hb hby at_313) rfl ?_
          refine XS.lload X2128.here hx rfl (hb hby at_315) rfl ?_
          refine XS.lload X2128.here hx rfl (hb hby at_317) rfl ?_
          refine XS.iload X2128.here hx rfl (hb hby at_319) rfl ?_
          refine XS.aload X2128.here hx rfl (hb hby at_321) rfl rfl ?_
          show Steps p.tables e below (T2128.setTop (mkF m 323 L_2127 [(.ref b1700), (.int (own_Nn q2 q3)), (.long (own_z q4 q0)), (.long (own_z q2 q0)), (.long (own_c q0))])) _
          refine XS.iload X2128.here hx rfl (hb hby at_323) rfl ?_
          show Steps p.tables e below (T2128.setTop (mkF m 325 L_2127 [(.int (1 : Int32)), (.ref b1700), (.int (own_Nn q2 q3)), (.long (own_z q4 q0)), (.long (own_z q2 q0)), (.long (own_c q0))])) _
          refine X2128.laload hx (j := (1 : Int32)) (v := (.long (j0_8 q0 q2 q3 q4))) (by rw [e2128]; exact Ar2148.1) (State.isArrayOf_alike hZ.alike Ar2148.2.1) Ar2148.2.2 hin2149 hat2150 (g := (mkF m 325 L_2127 [(.int (1 : Int32)), (.ref b1700), (.int (own_Nn q2 q3)), (.long (own_z q4 q0)), (.long (own_z q2 q0)), (.long (own_c q0))])) rfl rfl (hb hby at_325) _ ?_
          refine XS.aload X2128.here hx rfl (hb hby at_326) rfl rfl ?_
          refine XS.iload X2128.here hx rfl (hb hby at_328) rfl ?_
          show Steps p.tables e below (T2128.setTop (mkF m 330 L_2127 [(.int (1 : Int32)), (.ref b1764), (.long (j0_8 q0 q2 q3 q4)), (.int (own_Nn q2 q3)), (.long (own_z q4 q0)), (.long (own_z q2 q0)), (.long (own_c q0))])) _
          refine X2128.laload hx (j := (1 : Int32)) (v := (.long (j0_9 q0 q2 q3 q4))) (by rw [e2128]; exact Ar2151.1) (State.isArrayOf_alike hZ.alike Ar2151.2.1) Ar2151.2.2 hin2152 hat2153 (g := (mkF m 330 L_2127 [(.int (1 : Int32)), (.ref b1764), (.long (j0_8 q0 q2 q3 q4)), (.int (own_Nn q2 q3)), (.long (own_z q4 q0)), (.long (own_z q2 q0)), (.long (own_c q0))])) rfl rfl (hb hby at_330) _ ?_
          show Steps p.tables e below (T2128.setTop (mkF m 331 L_2127 [(.long (j0_9 q0 q2 q3 q4)), (.long (j0_8 q0 q2 q3 q4)), (.int (own_Nn q2 q3)), (.long (own_z q4 q0)), (.long (own_z q2 q0)), (.long (own_c q0))])) _
          refine st2154 _ ?_
          refine XS.istore X2154.here hx rfl (hb hby at_334) rfl (l' := L_2155) rfl ?_
          refine XS.iload X2154.here hx rfl (hb hby at_336) rfl ?_
          refine XS.iconst X2154.here hx rfl (hb hby at_338) ?_
          refine XS.icmpYes X2154.here hx rfl (pc0 := 339) (pc' := 382) rfl (hb hby at_339) rfl (feq (by decide : ¬ ((1 : Int32) = (2 : Int32)))).2 (by decide) (by decide) ?_
          refine XS.iload X2154.here hx rfl (hb hby at_382) rfl ?_
          exact k)
        obtain ⟨T2158, L2158, X2158, e2158, N2158, pre2158⟩ : ∃ (T2158 : State) (L2158 : List Loc), Stand p l e room_1 (s.setVm vm2025) m #[(.long q0), (.long q1), (.long q2), (.long q3), (.long q4), (.long q5)] below meth c T2158 L2158 17 133 ∧ T2158.heap = h2128 ∧ Fr n0 L2158 ∧ ∀ t, Steps p.tables e below (T2158.setTop (mkF m 407 L_2155 [(.int (j0_10 q0 q2 q3 q4))])) t → Steps p.tables e below (s₁.setTop (entryFrame m #[(.long q0), (.long q1), (.long q2), (.long q3), (.long q4), (.long q5)] maxLocals)) t := by
          by_cases hc2159 : (v11 (own_c q0) (own_z q2 q0) (own_z q4 q0) (own_Nn q2 q3) (j0_8 q0 q2 q3 q4) (j0_9 q0 q2 q3 q4)) = (0 : Int32)
          · skip
            have pre2160 := fun (t : State) (k : Steps p.tables e below (T2154.setTop (mkF m 407 L_2155 [(.int (0 : Int32))])) t) => pre2157 t (by
              show Steps p.tables e below (T2154.setTop (mkF m 384 L_2155 [(.int (v11 (own_c q0) (own_z q2 q0) (own_z q4 q0) (own_Nn q2 q3) (j0_8 q0 q2 q3 q4) (j0_9 q0 q2 q3 q4)))])) _
              refine XS.ifYes X2154.here hx rfl (pc0 := 384) (pc' := 406) rfl (hb hby at_384) rfl ((if0 _ _).trans (teq hc2159).1) (by decide) (by decide) ?_
              refine XS.iconst X2154.here hx rfl (hb hby at_406) ?_
              exact k)
            have hj2161 : (j0_10 q0 q2 q3 q4) = (0 : Int32) := by unfold j0_10; first | (rw [if_pos hc2159]) | (simp only [if_pos hc2159])
            exact ⟨T2154, _, X2154, e2154, N2154, fun t k => pre2160 t (by rw [hj2161] at k; exact k)⟩
          · skip
            obtain ⟨_, _, ⟨T2162, L2162, k2162, n2162⟩, -, X2162, ⟨Lc2162, hQ2162, l2162, y2162, z2162⟩, st2162⟩ := Jvm.LawKit.callS X2154 hx (y := (⟨"com/example/stowline/stowline/VolumeBoundCopyTotalsPinLaw", "untouched", "([J[JIII)Z"⟩ : MethodName)) hown (mvT hZ (own_m hw 84 rfl)) (mvT hZ (own_m hw 85 rfl)) (mvT hZ (own_m hw 7 rfl)) (mvT hZ (own_m hw 86 rfl)) (by decide) (backOf (W := 0) (rm12_lo0 l Z aw hw [] b1700 b1764 ((1 : Int32)) ((1 : Int32)) ((j0_8 q0 q2 q3 q4)) ((-3 : Int64)) ((-4 : Int64)) ((j0_9 q0 q2 q3 q4)) ((-13 : Int64)) ((-14 : Int64)) k1700 k1764 h2128 n0 Z2128 f2129 f2130 (by decide)) hZ (own_m hw 86 rfl) (own_m hw 7 rfl) (by decide) (by decide)) (g := (mkF m 396 L_2155 [(.int (1 : Int32)), (.int (1 : Int32)), (.int (0 : Int32)), (.ref b1764), (.ref b1700)])) rfl (by rw [hml]; rfl) (argsL := [(.ref b1700), (.ref b1764), (.int (0 : Int32)), (.int (1 : Int32)), (.int (1 : Int32))]) (rest := []) (lenOf pd_11 rfl) rfl (by show 2 * 0 + _ ≤ _; exact Nat.le_of_eq rfl) (hb hby at_396) (fun _ _ => ⟨rfl, e2154, (by decide : 17 + 0 ≤ _), (by decide : 133 + 0 ≤ _)⟩)
            dsimp only [Pt.U, Pt.locs, Pt.cells, Pt.slots] at X2162 l2162 y2162 z2162 st2162 hQ2162
            subst l2162 y2162 z2162
            obtain ⟨rfl, N2162q, e2162⟩ := hQ2162
            have N2162 := Fr.app N2154 N2162q
            have pre2163 := fun (t : State) (k : Steps p.tables e below (T2162.setTop (mkF m 407 L_2155 [(.int (1 : Int32))])) t) => pre2157 t (by
              show Steps p.tables e below (T2154.setTop (mkF m 384 L_2155 [(.int (v11 (own_c q0) (own_z q2 q0) (own_z q4 q0) (own_Nn q2 q3) (j0_8 q0 q2 q3 q4) (j0_9 q0 q2 q3 q4)))])) _
              refine XS.ifNo X2154.here hx rfl (hb hby at_384) rfl ((if0 _ _).trans (feq hc2159).1) ?_
              refine XS.aload X2154.here hx rfl (hb hby at_387) rfl rfl ?_
              refine XS.aload X2154.here hx rfl (hb hby at_389) rfl rfl ?_
              refine XS.iconst X2154.here hx rfl (hb hby at_391) ?_
              refine XS.iload X2154.here hx rfl (hb hby at_392) rfl ?_
              refine XS.iload X2154.here hx rfl (hb hby at_394) rfl ?_
              show Steps p.tables e below (T2154.setTop (mkF m 396 L_2155 [(.int (1 : Int32)), (.int (1 : Int32)), (.int (0 : Int32)), (.ref b1764), (.ref b1700)])) _
              refine st2162 _ ?_
              refine XS.ifNo X2162.here hx rfl (hb hby at_399) rfl ((if0 _ _).trans (feq (by decide : ¬ ((1 : Int32) = (0 : Int32)))).1) ?_
              refine XS.iconst X2162.here hx rfl (hb hby at_402) ?_
              refine XS.goto X2162.here hx rfl (pc0 := 403) (pc' := 407) rfl (hb hby at_403) (by decide) (by decide) ?_
              exact k)
            have hj2164 : (j0_10 q0 q2 q3 q4) = (1 : Int32) := by unfold j0_10; first | (rw [if_neg hc2159]) | (simp only [if_neg hc2159])
            exact ⟨T2162, _, X2162, e2162, N2162, fun t k => pre2163 t (by rw [hj2164] at k; exact k)⟩
        let L_2165 : Array Slot := #[.val (.long q0), .second, .val (.long q1), .second, .val (.long q2), .second, .val (.long q3), .second, .val (.long q4), .second, .val (.long q5), .second, .val (.int (1 : Int32)), .val (.int (own_Nn q2 q3)), .val (.int ((j0_2 q4) + (j0_3 q5))), .val (.int (1 : Int32)), .val (.long (own_c q0)), .second, .val (.long (own_c q1)), .second, .val (.long (own_z q2 q0)), .second, .val (.long (own_z q3 q1)), .second, .val (.long (own_z q4 q0)), .second, .val (.long (own_z q5 q1)), .second, .val (.ref b1649), .val (.ref b1652), .val (.ref b1658), .val (.ref b1700), .val (.ref b1764), .val (.ref b1839), .val (.int (j0_10 q0 q2 q3 q4))]
        have pre2167 := fun (t : State) (k : Steps p.tables e below (T2158.setTop (mkF m 411 L_2165 [(.int (j0_10 q0 q2 q3 q4))])) t) => pre2158 t (by
          show Steps p.tables e below (T2158.setTop (mkF m 407 L_2155 [(.int (j0_10 q0 q2 q3 q4))])) _
          refine XS.istore X2158.here hx rfl (hb hby at_407) rfl (l' := L_2165) rfl ?_
          refine XS.iload X2158.here hx rfl (hb hby at_409) rfl ?_
          exact k)
        obtain ⟨T2168, L2168, X2168, e2168, N2168, pre2168⟩ : ∃ (T2168 : State) (L2168 : List Loc), Stand p l e room_1 (s.setVm vm2025) m #[(.long q0), (.long q1), (.long q2), (.long q3), (.long q4), (.long q5)] below meth c T2168 L2168 17 133 ∧ T2168.heap = h2128 ∧ Fr n0 L2168 ∧ ∀ t, Steps p.tables e below (T2168.setTop (mkF m 434 L_2165 [(.int (j0_11 q0 q2 q3 q4))])) t → Steps p.tables e below (s₁.setTop (entryFrame m #[(.long q0), (.long q1), (.long q2), (.long q3), (.long q4), (.long q5)] maxLocals)) t := by
          by_cases hc2169 : (j0_10 q0 q2 q3 q4) = (0 : Int32)
          · skip
            have pre2170 := fun (t : State) (k : Steps p.tables e below (T2158.setTop (mkF m 434 L_2165 [(.int (0 : Int32))])) t) => pre2167 t (by
              show Steps p.tables e below (T2158.setTop (mkF m 411 L_2165 [(.int (j0_10 q0 q2 q3 q4))])) _
              refine XS.ifYes X2158.here hx rfl (pc0 := 411) (pc' := 433) rfl (hb hby at_411) rfl ((if0 _ _).trans (teq hc2169).1) (by decide) (by decide) ?_
              refine XS.iconst X2158.here hx rfl (hb hby at_433) ?_
              exact k)
            have hj2171 : (j0_11 q0 q2 q3 q4) = (0 : Int32) := by unfold j0_11; first | (rw [if_pos hc2169]) | (simp only [if_pos hc2169])
            exact ⟨T2158, _, X2158, e2158, N2158, fun t k => pre2170 t (by rw [hj2171] at k; exact k)⟩
          · skip
            obtain ⟨_, _, ⟨T2172, L2172, k2172, n2172⟩, -, X2172, ⟨Lc2172, hQ2172, l2172, y2172, z2172⟩, st2172⟩ := Jvm.LawKit.callS X2158 hx (y := (⟨"com/example/stowline/stowline/VolumeBoundCopyTotalsPinLaw", "untouched", "([J[JIII)Z"⟩ : MethodName)) hown (mvT hZ (own_m hw 84 rfl)) (mvT hZ (own_m hw 85 rfl)) (mvT hZ (own_m hw 7 rfl)) (mvT hZ (own_m hw 86 rfl)) (by decide) (backOf (W := 0) (rm12_in l Z aw hw [] b1700 b1764 ((1 : Int32)) ((1 : Int32)) ((1 : Int32)) h2128 n0 Z2128 (by decide) (by decide)) hZ (own_m hw 86 rfl) (own_m hw 7 rfl) (by decide) (by decide)) (g := (mkF m 423 L_2165 [(.int (1 : Int32)), (.int (1 : Int32)), (.int (1 : Int32)), (.ref b1764), (.ref b1700)])) rfl (by rw [hml]; rfl) (argsL := [(.ref b1700), (.ref b1764), (.int (1 : Int32)), (.int (1 : Int32)), (.int (1 : Int32))]) (rest := []) (lenOf pd_11 rfl) rfl (by show 2 * 0 + _ ≤ _; exact Nat.le_of_eq rfl) (hb hby at_423) (fun _ _ => ⟨rfl, e2158, (by decide : 17 + 0 ≤ _), (by decide : 133 + 0 ≤ _)⟩)
            dsimp only [Pt.U, Pt.locs, Pt.cells, Pt.slots] at X2172 l2172 y2172 z2172 st2172 hQ2172
            subst l2172 y2172 z2172
            obtain ⟨rfl, N2172q, e2172⟩ := hQ2172
            have N2172 := Fr.app N2158 N2172q
            have pre2173 := fun (t : State) (k : Steps p.tables e below (T2172.setTop (mkF m 434 L_2165 [(.int (1 : Int32))])) t) => pre2167 t (by
              show Steps p.tables e below (T2158.setTop (mkF m 411 L_2165 [(.int (j0_10 q0 q2 q3 q4))])) _
              refine XS.ifNo X2158.here hx rfl (hb hby at_411) rfl ((if0 _ _).trans (feq hc2169).1) ?_
              refine XS.aload X2158.here hx rfl (hb hby at_414) rfl rfl ?_
              refine XS.aload X2158.here hx rfl (hb hby at_416) rfl rfl ?_
              refine XS.iconst X2158.here hx rfl (hb hby at_418) ?_
              refine XS.iload X2158.here hx rfl (hb hby at_419) rfl ?_
              refine XS.iload X2158.here hx rfl (hb hby at_421) rfl ?_
              show Steps p.tables e below (T2158.setTop (mkF m 423 L_2165 [(.int (1 : Int32)), (.int (1 : Int32)), (.int (1 : Int32)), (.ref b1764), (.ref b1700)])) _
              refine st2172 _ ?_
              refine XS.ifNo X2172.here hx rfl (hb hby at_426) rfl ((if0 _ _).trans (feq (by decide : ¬ ((1 : Int32) = (0 : Int32)))).1) ?_
              refine XS.iconst X2172.here hx rfl (hb hby at_429) ?_
              refine XS.goto X2172.here hx rfl (pc0 := 430) (pc' := 434) rfl (hb hby at_430) (by decide) (by decide) ?_
              exact k)
            have hj2174 : (j0_11 q0 q2 q3 q4) = (1 : Int32) := by unfold j0_11; first | (rw [if_neg hc2169]) | (simp only [if_neg hc2169])
            exact ⟨T2172, _, X2172, e2172, N2172, fun t k => pre2173 t (by rw [hj2174] at k; exact k)⟩
        let L_2175 : Array Slot := #[.val (.long q0), .second, .val (.long q1), .second, .val (.long q2), .second, .val (.long q3), .second, .val (.long q4), .second, .val (.long q5), .second, .val (.int (1 : Int32)), .val (.int (own_Nn q2 q3)), .val (.int ((j0_2 q4) + (j0_3 q5))), .val (.int (1 : Int32)), .val (.long (own_c q0)), .second, .val (.long (own_c q1)), .second, .val (.long (own_z q2 q0)), .second, .val (.long (own_z q3 q1)), .second, .val (.long (own_z q4 q0)), .second, .val (.long (own_z q5 q1)), .second, .val (.ref b1649), .val (.ref b1652), .val (.ref b1658), .val (.ref b1700), .val (.ref b1764), .val (.ref b1839), .val (.int (j0_11 q0 q2 q3 q4))]
        have pre2177 := fun (t : State) (k : Steps p.tables e below (T2168.setTop (mkF m 438 L_2175 [(.int (j0_11 q0 q2 q3 q4))])) t) => pre2168 t (by
          show Steps p.tables e below (T2168.setTop (mkF m 434 L_2165 [(.int (j0_11 q0 q2 q3 q4))])) _
          refine XS.istore X2168.here hx rfl (hb hby at_434) rfl (l' := L_2175) rfl ?_
          refine XS.iload X2168.here hx rfl (hb hby at_436) rfl ?_
          exact k)
        obtain ⟨T2178, L2178, X2178, e2178, N2178, pre2178⟩ : ∃ (T2178 : State) (L2178 : List Loc), Stand p l e room_1 (s.setVm vm2025) m #[(.long q0), (.long q1), (.long q2), (.long q3), (.long q4), (.long q5)] below meth c T2178 L2178 17 133 ∧ T2178.heap = h2128 ∧ Fr n0 L2178 ∧ ∀ t, Steps p.tables e below (T2178.setTop (mkF m 461 L_2175 [(.int (j0_12 q0 q2 q3 q4))])) t → Steps p.tables e below (s₁.setTop (entryFrame m #[(.long q0), (.long q1), (.long q2), (.long q3), (.long q4), (.long q5)] maxLocals)) t := by
          by_cases hc2179 : (j0_11 q0 q2 q3 q4) = (0 : Int32)
          · skip
            have pre2180 := fun (t : State) (k : Steps p.tables e below (T2168.setTop (mkF m 461 L_2175 [(.int (0 : Int32))])) t) => pre2177 t (by
              show Steps p.tables e below (T2168.setTop (mkF m 438 L_2175 [(.int (j0_11 q0 q2 q3 q4))])) _
              refine XS.ifYes X2168.here hx rfl (pc0 := 438) (pc' := 460) rfl (hb hby at_438) rfl ((if0 _ _).trans (teq hc2179).1) (by decide) (by decide) ?_
              refine XS.iconst X2168.here hx rfl (hb hby at_460) ?_
              exact k)
            have hj2181 : (j0_12 q0 q2 q3 q4) = (0 : Int32) := by unfold j0_12; first | (rw [if_pos hc2179]) | (simp only [if_pos hc2179])
            exact ⟨T2168, _, X2168, e2168, N2168, fun t k => pre2180 t (by rw [hj2181] at k; exact k)⟩
          · skip
            obtain ⟨_, _, ⟨T2182, L2182, k2182, n2182⟩, -, X2182, ⟨Lc2182, hQ2182, l2182, y2182, z2182⟩, st2182⟩ := Jvm.LawKit.callS X2168 hx (y := (⟨"com/example/stowline/stowline/VolumeBoundCopyTotalsPinLaw", "untouched", "([J[JIII)Z"⟩ : MethodName)) hown (mvT hZ (own_m hw 84 rfl)) (mvT hZ (own_m hw 85 rfl)) (mvT hZ (own_m hw 7 rfl)) (mvT hZ (own_m hw 86 rfl)) (by decide) (backOf (W := 0) (rm12_hi2 l Z aw hw [] b1700 b1764 ((1 : Int32)) ((1 : Int32)) ((-1 : Int64)) ((j0_8 q0 q2 q3 q4)) ((-4 : Int64)) ((-11 : Int64)) ((j0_9 q0 q2 q3 q4)) ((-14 : Int64)) k1700 k1764 h2128 n0 Z2128 f2129 f2130 (by decide) (by decide)) hZ (own_m hw 86 rfl) (own_m hw 7 rfl) (by decide) (by decide)) (g := (mkF m 450 L_2175 [(.int (1 : Int32)), (.int (1 : Int32)), (.int (2 : Int32)), (.ref b1764), (.ref b1700)])) rfl (by rw [hml]; rfl) (argsL := [(.ref b1700), (.ref b1764), (.int (2 : Int32)), (.int (1 : Int32)), (.int (1 : Int32))]) (rest := []) (lenOf pd_11 rfl) rfl (by show 2 * 0 + _ ≤ _; exact Nat.le_of_eq rfl) (hb hby at_450) (fun _ _ => ⟨rfl, e2168, (by decide : 17 + 0 ≤ _), (by decide : 133 + 0 ≤ _)⟩)
            dsimp only [Pt.U, Pt.locs, Pt.cells, Pt.slots] at X2182 l2182 y2182 z2182 st2182 hQ2182
            subst l2182 y2182 z2182
            obtain ⟨rfl, N2182q, e2182⟩ := hQ2182
            have N2182 := Fr.app N2168 N2182q
            have pre2183 := fun (t : State) (k : Steps p.tables e below (T2182.setTop (mkF m 461 L_2175 [(.int (1 : Int32))])) t) => pre2177 t (by
              show Steps p.tables e below (T2168.setTop (mkF m 438 L_2175 [(.int (j0_11 q0 q2 q3 q4))])) _
              refine XS.ifNo X2168.here hx rfl (hb hby at_438) rfl ((if0 _ _).trans (feq hc2179).1) ?_
              refine XS.aload X2168.here hx rfl (hb hby at_441) rfl rfl ?_
              refine XS.aload X2168.here hx rfl (hb hby at_443) rfl rfl ?_
              refine XS.iconst X2168.here hx rfl (hb hby at_445) ?_
              refine XS.iload X2168.here hx rfl (hb hby at_446) rfl ?_
              refine XS.iload X2168.here hx rfl (hb hby at_448) rfl ?_
              show Steps p.tables e below (T2168.setTop (mkF m 450 L_2175 [(.int (1 : Int32)), (.int (1 : Int32)), (.int (2 : Int32)), (.ref b1764), (.ref b1700)])) _
              refine st2182 _ ?_
              refine XS.ifNo X2182.here hx rfl (hb hby at_453) rfl ((if0 _ _).trans (feq (by decide : ¬ ((1 : Int32) = (0 : Int32)))).1) ?_
              refine XS.iconst X2182.here hx rfl (hb hby at_456) ?_
              refine XS.goto X2182.here hx rfl (pc0 := 457) (pc' := 461) rfl (hb hby at_457) (by decide) (by decide) ?_
              exact k)
            have hj2184 : (j0_12 q0 q2 q3 q4) = (1 : Int32) := by unfold j0_12; first | (rw [if_neg hc2179]) | (simp only [if_neg hc2179])
            exact ⟨T2182, _, X2182, e2182, N2182, fun t k => pre2183 t (by rw [hj2184] at k; exact k)⟩
        let L_2185 : Array Slot := #[.val (.long q0), .second, .val (.long q1), .second, .val (.long q2), .second, .val (.long q3), .second, .val (.long q4), .second, .val (.long q5), .second, .val (.int (1 : Int32)), .val (.int (own_Nn q2 q3)), .val (.int ((j0_2 q4) + (j0_3 q5))), .val (.int (1 : Int32)), .val (.long (own_c q0)), .second, .val (.long (own_c q1)), .second, .val (.long (own_z q2 q0)), .second, .val (.long (own_z q3 q1)), .second, .val (.long (own_z q4 q0)), .second, .val (.long (own_z q5 q1)), .second, .val (.ref b1649), .val (.ref b1652), .val (.ref b1658), .val (.ref b1700), .val (.ref b1764), .val (.ref b1839), .val (.int (j0_12 q0 q2 q3 q4))]
        have pre2187 := fun (t : State) (k : Steps p.tables e below (T2178.setTop (mkF m 465 L_2185 [(.int (j0_12 q0 q2 q3 q4))])) t) => pre2178 t (by
          show Steps p.tables e below (T2178.setTop (mkF m 461 L_2175 [(.int (j0_12 q0 q2 q3 q4))])) _
          refine XS.istore X2178.here hx rfl (hb hby at_461) rfl (l' := L_2185) rfl ?_
          refine XS.iload X2178.here hx rfl (hb hby at_463) rfl ?_
          exact k)
        obtain ⟨T2188, L2188, X2188, e2188, N2188, pre2188⟩ : ∃ (T2188 : State) (L2188 : List Loc), Stand p l e room_1 (s.setVm vm2025) m #[(.long q0), (.long q1), (.long q2), (.long q3), (.long q4), (.long q5)] below meth c T2188 L2188 17 133 ∧ T2188.heap = h2128 ∧ Fr n0 L2188 ∧ ∀ t, Steps p.tables e below (T2188.setTop (mkF m 488 L_2185 [(.int (j0_13 q0 q2 q3 q4))])) t → Steps p.tables e below (s₁.setTop (entryFrame m #[(.long q0), (.long q1), (.long q2), (.long q3), (.long q4), (.long q5)] maxLocals)) t := by
          by_cases hc2189 : (j0_12 q0 q2 q3 q4) = (0 : Int32)
          · skip
            have pre2190 := fun (t : State) (k : Steps p.tables e below (T2178.setTop (mkF m 488 L_2185 [(.int (0 : Int32))])) t) => pre2187 t (by
              show Steps p.tables e below (T2178.setTop (mkF m 465 L_2185 [(.int (j0_12 q0 q2 q3 q4))])) _
              refine XS.ifYes X2178.here hx rfl (pc0 := 465) (pc' := 487) rfl (hb hby at_465) rfl ((if0 _ _).trans (teq hc2189).1) (by decide) (by decide) ?_
              refine XS.iconst X2178.here hx rfl (hb hby at_487) ?_
              exact k)
            have hj2191 : (j0_13 q0 q2 q3 q4) = (0 : Int32) := by unfold j0_13; first | (rw [if_pos hc2189]) | (simp only [if_pos hc2189])
            exact ⟨T2178, _, X2178, e2178, N2178, fun t k => pre2190 t (by rw [hj2191] at k; exact k)⟩
          · skip
            obtain ⟨_, _, ⟨T2192, L2192, k2192, n2192⟩, -, X2192, ⟨Lc2192, hQ2192, l2192, y2192, z2192⟩, st2192⟩ := Jvm.LawKit.callS X2178 hx (y := (⟨"com/example/stowline/stowline/VolumeBoundCopyTotalsPinLaw", "untouched", "([J[JIII)Z"⟩ : MethodName)) hown (mvT hZ (own_m hw 84 rfl)) (mvT hZ (own_m hw 85 rfl)) (mvT hZ (own_m hw 7 rfl)) (mvT hZ (own_m hw 86 rfl)) (by decide) (backOf (W := 0) (rm12_hi3 l Z aw hw [] b1700 b1764 ((1 : Int32)) ((1 : Int32)) ((-1 : Int64)) ((j0_8 q0 q2 q3 q4)) ((-3 : Int64)) ((-11 : Int64)) ((j0_9 q0 q2 q3 q4)) ((-13 : Int64)) k1700 k1764 h2128 n0 Z2128 f2129 f2130 (by decide) (by decide)) hZ (own_m hw 86 rfl) (own_m hw 7 rfl) (by decide) (by decide)) (g := (mkF m 477 L_2185 [(.int (1 : Int32)), (.int (1 : Int32)), (.int (3 : Int32)), (.ref b1764), (.ref b1700)])) rfl (by rw [hml]; rfl) (argsL := [(.ref b1700), (.ref b1764), (.int (3 : Int32)), (.int (1 : Int32)), (.int (1 : Int32))]) (rest := []) (lenOf pd_11 rfl) rfl (by show 2 * 0 + _ ≤ _; exact Nat.le_of_eq rfl) (hb hby at_477) (fun _ _ => ⟨rfl, e2178, (by decide : 17 + 0 ≤ _), (by decide : 133 + 0 ≤ _)⟩)
            dsimp only [Pt.U, Pt.locs, Pt.cells, Pt.slots] at X2192 l2192 y2192 z2192 st2192 hQ2192
            subst l2192 y2192 z2192
            obtain ⟨rfl, N2192q, e2192⟩ := hQ2192
            have N2192 := Fr.app N2178 N2192q
            have pre2193 := fun (t : State) (k : Steps p.tables e below (T2192.setTop (mkF m 488 L_2185 [(.int (1 : Int32))])) t) => pre2187 t (by
              show Steps p.tables e below (T2178.setTop (mkF m 465 L_2185 [(.int (j0_12 q0 q2 q3 q4))])) _
              refine XS.ifNo X2178.here hx rfl (hb hby at_465) rfl ((if0 _ _).trans (feq hc2189).1) ?_
              refine XS.aload X2178.here hx rfl (hb hby at_468) rfl rfl ?_
              refine XS.aload X2178.here hx rfl (hb hby at_470) rfl rfl ?_
              refine XS.iconst X2178.here hx rfl (hb hby at_472) ?_
              refine XS.iload X2178.here hx rfl (hb hby at_473) rfl ?_
              refine XS.iload X2178.here hx rfl (hb hby at_475) rfl ?_
              show Steps p.tables e below (T2178.setTop (mkF m 477 L_2185 [(.int (1 : Int32)), (.int (1 : Int32)), (.int (3 : Int32)), (.ref b1764), (.ref b1700)])) _
              refine st2192 _ ?_
              refine XS.ifNo X2192.here hx rfl (hb hby at_480) rfl ((if0 _ _).trans (feq (by decide : ¬ ((1 : Int32) = (0 : Int32)))).1) ?_
              refine XS.iconst X2192.here hx rfl (hb hby at_483) ?_
              refine XS.goto X2192.here hx rfl (pc0 := 484) (pc' := 488) rfl (hb hby at_484) (by decide) (by decide) ?_
              exact k)
            have hj2194 : (j0_13 q0 q2 q3 q4) = (1 : Int32) := by unfold j0_13; first | (rw [if_neg hc2189]) | (simp only [if_neg hc2189])
            exact ⟨T2192, _, X2192, e2192, N2192, fun t k => pre2193 t (by rw [hj2194] at k; exact k)⟩
        let L_2195 : Array Slot := #[.val (.long q0), .second, .val (.long q1), .second, .val (.long q2), .second, .val (.long q3), .second, .val (.long q4), .second, .val (.long q5), .second, .val (.int (1 : Int32)), .val (.int (own_Nn q2 q3)), .val (.int ((j0_2 q4) + (j0_3 q5))), .val (.int (1 : Int32)), .val (.long (own_c q0)), .second, .val (.long (own_c q1)), .second, .val (.long (own_z q2 q0)), .second, .val (.long (own_z q3 q1)), .second, .val (.long (own_z q4 q0)), .second, .val (.long (own_z q5 q1)), .second, .val (.ref b1649), .val (.ref b1652), .val (.ref b1658), .val (.ref b1700), .val (.ref b1764), .val (.ref b1839), .val (.int (j0_13 q0 q2 q3 q4))]
        obtain ⟨fs, hr, hrun, hended, hRW⟩ := X2188.leaveW hS (own_hk hk e2188) (v := some (.int (nar .boolean (j0_13 q0 q2 q3 q4)))) (fun h => by rw [Bd.returns] at h; cases h)
        refine ⟨_, _, pre2188 _ ?_, hrun, hended, _, _, rfl, ?_, hRW.1, hRW.2.1, hRW.2.2.1, hRW.2.2.2.mono (by decide) (by decide)⟩
        · skip
          show Steps p.tables e below (T2188.setTop (mkF m 488 L_2185 [(.int (j0_13 q0 q2 q3 q4))])) _
          refine XS.istore X2188.here hx rfl (hb hby at_488) rfl (l' := L_2195) rfl ?_
          refine XS.iload X2188.here hx rfl (hb hby at_490) rfl ?_
          show Steps p.tables e below (T2188.setTop (mkF m 492 L_2195 [(.int (j0_13 q0 q2 q3 q4))])) _
          exact retN X2188 hx (t := .boolean) Bd.returns (by simp) (hb hby at_492) hr
        · show Q0 Z q0 q1 q2 q3 q4 q5 h0 n0 _ T2188.heap _
          rw [e2188]
          have hv : (nar .boolean (j0_13 q0 q2 q3 q4)) = (v0 q0 q1 q2 q3 q4 q5) := by unfold v0; first | (rw [if_pos hc1604, if_neg hs2054, if_pos hs2125]) | (simp only [if_pos hc1604, if_neg hs2054, if_pos hs2125])
          exact ⟨(by rw [← hv]), N2188⟩
      · skip
        by_cases hs2196 : (((j0_2 q4) + (j0_3 q5)) % (4 : Int32)) = (2 : Int32)
        · skip
          let L_2198 : Array Slot := #[.val (.long q0), .second, .val (.long q1), .second, .val (.long q2), .second, .val (.long q3), .second, .val (.long q4), .second, .val (.long q5), .second, .val (.int (1 : Int32)), .val (.int (own_Nn q2 q3)), .val (.int ((j0_2 q4) + (j0_3 q5))), .val (.int (2 : Int32)), .val (.long (own_c q0)), .second, .val (.long (own_c q1)), .second, .val (.long (own_z q2 q0)), .second, .val (.long (own_z q3 q1)), .second, .val (.long (own_z q4 q0)), .second, .val (.long (own_z q5 q1)), .second, .val (.ref b1649), .val (.ref b1652), .val (.ref b1658), .val (.ref b1700), .val (.ref b1764), .val (.ref b1839), .unset]
          have pre2197 := fun (t : State) (k : Steps p.tables e below (T2025.setTop (mkF m 302 L_2198 [])) t) => pre2025 t (by show Steps p.tables e below (T2025.setTop (mkF m 302 #[.val (.long q0), .second, .val (.long q1), .second, .val (.long q2), .second, .val (.long q3), .second, .val (.long q4), .second, .val (.long q5), .second, .val (.int (1 : Int32)), .val (.int (own_Nn q2 q3)), .val (.int ((j0_2 q4) + (j0_3 q5))), .val (.int (((j0_2 q4) + (j0_3 q5)) % (4 : Int32))), .val (.long (own_c q0)), .second, .val (.long (own_c q1)), .second, .val (.long (own_z q2 q0)), .second, .val (.long (own_z q3 q1)), .second, .val (.long (own_z q4 q0)), .second, .val (.long (own_z q5 q1)), .second, .val (.ref b1649), .val (.ref b1652), .val (.ref b1658), .val (.ref b1700), .val (.ref b1764), .val (.ref b1839), .unset] [])) t; rw [hs2196]; exact k)
          obtain ⟨cq2199, kq2199, q2199a, q2199b, q2199c⟩ := isOf hZ e2025 f2025_10
          obtain ⟨_, _, ⟨T2199, L2199, k2199, n2199⟩, -, X2199, ⟨Lc2199, hQ2199, l2199, y2199, z2199⟩, st2199⟩ := X2025.virtualBack hx (y := (⟨"com/example/stowline/stowline/VolumeBound", "copyTotals", "([J[JI)V"⟩ : MethodName)) (z := (⟨"com/example/stowline/stowline/VolumeBound", "copyTotals", "([J[JI)V"⟩ : MethodName)) hown (mvT hZ (own_m hw 72 rfl)) (mvT hZ (own_m hw 73 rfl)) (notFace_of_selects (args := #[]) (mvT hZ (own_m hw 75 rfl))) (mvT hZ (own_m hw 75 rfl)) (mvT hZ (own_m hw 74 rfl)) (by decide) (backOf (W := 0) (rm10_1_2 l Z aw hw [] b1839 b1700 b1764 cx11859 cx21859 ((j0_8 q0 q2 q3 q4)) ((j0_9 q0 q2 q3 q4)) ((-1 : Int64)) ((-2 : Int64)) ((-3 : Int64)) ((-4 : Int64)) ((-11 : Int64)) ((-12 : Int64)) ((-13 : Int64)) ((-14 : Int64)) cy11859 cy21859 k1700 k1764 h2025 n0 Z2025 f2025_10 f2025_12 f2025_13 f2025_15 f2025_16 f2025_7 f2025_9 g_b1700 g_b1764 (Ne.symm ne1853) (Ne.symm ne1854) (Ne.symm ne1891) (Ne.symm ne1892) (Ne.symm ne1897) (Ne.symm ne1898) ne1776) hZ (own_m hw 76 rfl) (own_m hw 20 rfl) (by decide) (by decide)) q2199a q2199c (g := (mkF m 310 L_2198 [(.int (2 : Int32)), (.ref b1764), (.ref b1700), (.ref b1839)])) rfl (by rw [hml]; rfl) (Steps.refl _) (argsL := [(.ref b1700), (.ref b1764), (.int (2 : Int32))]) (rest := []) (lenOf pd_9 rfl) rfl (by show 2 * 0 + _ ≤ _; exact Nat.le_of_eq rfl) (hb hby at_310) (fun _ _ => ⟨rfl, e2025, (by decide : 17 + 0 ≤ _), (by decide : 133 + 0 ≤ _)⟩)
          dsimp only [Pt.U, Pt.locs, Pt.cells, Pt.slots] at X2199 l2199 y2199 z2199 st2199 hQ2199
          subst l2199 y2199 z2199
          obtain ⟨h2199, e2199⟩ : ∃ z, T2199.heap = z := ⟨_, rfl⟩
          rw [e2199] at hQ2199
          obtain ⟨rfl, N2199q, K2199q, f2200, f2201⟩ := hQ2199
          have f2202 := f2025_0.keep K2199q
          have f2203 := f2025_1.keep K2199q (ninS ne1707 (ninS ne1773 nin0))
          have f2204 := f2025_2.keep K2199q
          have f2205 := f2025_3.keep K2199q (ninS ne1708 (ninS ne1774 nin0))
          have f2206 := f2025_4.keep K2199q
          have f2207 := f2025_5.keep K2199q (ninS ne1709 (ninS ne1775 nin0))
          have f2208 := f2025_6.keep K2199q
          have f2210 := f2025_8.keep K2199q
          have f2212 := f2025_10.keep K2199q
          have f2213 := f2025_11.keep K2199q (ninS (Ne.symm ne1853) (ninS (Ne.symm ne1854) nin0))
          have f2214 := f2025_12.keep K2199q (ninS (Ne.symm ne1853) (ninS (Ne.symm ne1854) nin0))
          have f2215 := f2025_13.keep K2199q (ninS (Ne.symm ne1853) (ninS (Ne.symm ne1854) nin0))
          have f2216 := f2025_14.keep K2199q (ninS (Ne.symm ne1885) (ninS (Ne.symm ne1886) nin0))
          have f2217 := f2025_15.keep K2199q (ninS (Ne.symm ne1891) (ninS (Ne.symm ne1892) nin0))
          have f2218 := f2025_16.keep K2199q (ninS (Ne.symm ne1897) (ninS (Ne.symm ne1898) nin0))
          have Z2199 := Nat.le_trans Z2025 K2199q.1
          have hk := Nat.le_trans hk K2199q.1
          have N2199 := Fr.app N2025 N2199q
          obtain ⟨cl2219, Ar2219, q2219, S2219, M2219, H2219, G2219⟩ := id f2200
          have hin2220 : ¬ ((2 : Int32) < 0 ∨ cl2219.slots.size ≤ ((2 : Int32)).toNatClampNeg) := inb_of S2219 ⟨by decide, by decide⟩
          have hat2221 : cl2219.slots[((2 : Int32)).toNatClampNeg]? = some (.long (j0_8 q0 q2 q3 q4)) := H2219.at hin2220 rfl
          obtain ⟨cl2222, Ar2222, q2222, S2222, M2222, H2222, G2222⟩ := id f2201
          have hin2223 : ¬ ((2 : Int32) < 0 ∨ cl2222.slots.size ≤ ((2 : Int32)).toNatClampNeg) := inb_of S2222 ⟨by decide, by decide⟩
          have hat2224 : cl2222.slots[((2 : Int32)).toNatClampNeg]? = some (.long (j0_9 q0 q2 q3 q4)) := H2222.at hin2223 rfl
          obtain ⟨_, _, ⟨T2225, L2225, k2225, n2225⟩, -, X2225, ⟨Lc2225, hQ2225, l2225, y2225, z2225⟩, st2225⟩ := Jvm.LawKit.callS X2199 hx (y := (⟨"com/example/stowline/stowline/VolumeBoundCopyTotalsPinLaw", "check", "(JJJIJJ)Z"⟩ : MethodName)) hown (mvT hZ (own_m hw 81 rfl)) (mvT hZ (own_m hw 82 rfl)) (mvT hZ (own_m hw 7 rfl)) (mvT hZ (own_m hw 83 rfl)) (by decide) (backOf (W := 0) (rm11 l Z aw hw [] ((own_c q0)) ((own_z q2 q0)) ((own_z q4 q0)) ((own_Nn q2 q3)) ((j0_8 q0 q2 q3 q4)) ((j0_9 q0 q2 q3 q4)) h2199 n0 Z2199 ) hZ (own_m hw 83 rfl) (own_m hw 7 rfl) (by decide) (by decide)) (g := (mkF m 331 L_2198 [(.long (j0_9 q0 q2 q3 q4)), (.long (j0_8 q0 q2 q3 q4)), (.int (own_Nn q2 q3)), (.long (own_z q4 q0)), (.long (own_z q2 q0)), (.long (own_c q0))])) rfl (by rw [hml]; rfl) (argsL := [(.long (own_c q0)), (.long (own_z q2 q0)), (.long (own_z q4 q0)), (.int (own_Nn q2 q3)), (.long (j0_8 q0 q2 q3 q4)), (.long (j0_9 q0 q2 q3 q4))]) (rest := []) (lenOf pd_10 rfl) rfl (by show 2 * 0 + _ ≤ _; exact Nat.le_of_eq rfl) (hb hby at_331) (fun _ _ => ⟨rfl, e2199, (by decide : 17 + 0 ≤ _), (by decide : 133 + 0 ≤ _)⟩)
          dsimp only [Pt.U, Pt.locs, Pt.cells, Pt.slots] at X2225 l2225 y2225 z2225 st2225 hQ2225
          subst l2225 y2225 z2225
          obtain ⟨rfl, N2225q, e2225⟩ := hQ2225
          have N2225 := Fr.app N2199 N2225q
          let L_2226 : Array Slot := #[.val (.long q0), .second, .val (.long q1), .second, .val (.long q2), .second, .val (.long q3), .second, .val (.long q4), .second, .val (.long q5), .second, .val (.int (1 : Int32)), .val (.int (own_Nn q2 q3)), .val (.int ((j0_2 q4) + (j0_3 q5))), .val (.int (2 : Int32)), .val (.long (own_c q0)), .second, .val (.long (own_c q1)), .second, .val (.long (own_z q2 q0)), .second, .val (.long (own_z q3 q1)), .second, .val (.long (own_z q4 q0)), .second, .val (.long (own_z q5 q1)), .second, .val (.ref b1649), .val (.ref b1652), .val (.ref b1658), .val (.ref b1700), .val (.ref b1764), .val (.ref b1839), .val (.int (v11 (own_c q0) (own_z q2 q0) (own_z q4 q0) (own_Nn q2 q3) (j0_8 q0 q2 q3 q4) (j0_9 q0 q2 q3 q4)))]
          have pre2228 := fun (t : State) (k : Steps p.tables e below (T2225.setTop (mkF m 384 L_2226 [(.int (v11 (own_c q0) (own_z q2 q0) (own_z q4 q0) (own_Nn q2 q3) (j0_8 q0 q2 q3 q4) (j0_9 q0 q2 q3 q4)))])) t) => pre2197 t (by
            show Steps p.tables e below (T2025.setTop (mkF m 302 L_2198 [])) _
            refine XS.aload X2025.here hx rfl (hb hby at_302) rfl rfl ?_
            refine XS.aload X2025.here hx rfl (hb hby at_304) rfl rfl ?_
            refine XS.aload X2025.here hx rfl (hb hby at_306) rfl rfl ?_
            refine XS.iload X2025.here hx rfl (hb hby at_308) rfl ?_
            show Steps p.tables e below (T2025.setTop (mkF m 310 L_2198 [(.int (2 : Int32)), (.ref b1764), (.ref b1700), (.ref b1839)])) _
            refine st2199.trans ?_
            refine XS.lload X2199.here hx rfl (hb hby at_313) rfl ?_
            refine XS.lload X2199.here hx rfl (hb hby at_315) rfl ?_
            refine XS.lload X2199.here hx rfl (hb hby at_317) rfl ?_
            refine XS.iload X2199.here hx rfl (hb hby at_319) rfl ?_
            refine XS.aload X2199.here hx rfl (hb hby at_321) rfl rfl ?_
            show Steps p.tables e below (T2199.setTop (mkF m 323 L_2198 [(.ref b1700), (.int (own_Nn q2 q3)), (.long (own_z q4 q0)), (.long (own_z q2 q0)), (.long (own_c q0))])) _
            refine XS.iload X2199.here hx rfl (hb hby at_323) rfl ?_
            show Steps p.tables e below (T2199.setTop (mkF m 325 L_2198 [(.int (2 : Int32)), (.ref b1700), (.int (own_Nn q2 q3)), (.long (own_z q4 q0)), (.long (own_z q2 q0)), (.long (own_c q0))])) _
            refine X2199.laload hx (j := (2 : Int32)) (v := (.long (j0_8 q0 q2 q3 q4))) (by rw [e2199]; exact Ar2219.1) (State.isArrayOf_alike hZ.alike Ar2219.2.1) Ar2219.2.2 hin2220 hat2221 (g := (mkF m 325 L_2198 [(.int (2 : Int32)), (.ref b1700), (.int (own_Nn q2 q3)), (.long (own_z q4 q0)), (.long (own_z q2 q0)), (.long (own_c q0))])) rfl rfl (hb hby at_325) _ ?_
            refine XS.aload X2199.here hx rfl (hb hby at_326) rfl rfl ?_
            refine XS.iload X2199.here hx rfl (hb hby at_328) rfl ?_
            show Steps p.tables e below (T2199.setTop (mkF m 330 L_2198 [(.int (2 : Int32)), (.ref b1764), (.long (j0_8 q0 q2 q3 q4)), (.int (own_Nn q2 q3)), (.long (own_z q4 q0)), (.long (own_z q2 q0)), (.long (own_c q0))])) _
            refine X2199.laload hx (j := (2 : Int32)) (v := (.long (j0_9 q0 q2 q3 q4))) (by rw [e2199]; exact Ar2222.1) (State.isArrayOf_alike hZ.alike Ar2222.2.1) Ar2222.2.2 hin2223 hat2224 (g := (mkF m 330 L_2198 [(.int (2 : Int32)), (.ref b1764), (.long (j0_8 q0 q2 q3 q4)), (.int (own_Nn q2 q3)), (.long (own_z q4 q0)), (.long (own_z q2 q0)), (.long (own_c q0))])) rfl rfl (hb hby at_330) _ ?_
            show Steps p.tables e below (T2199.setTop (mkF m 331 L_2198 [(.long (j0_9 q0 q2 q3 q4)), (.long (j0_8 q0 q2 q3 q4)), (.int (own_Nn q2 q3)), (.long (own_z q4 q0)), (.long (own_z q2 q0)), (.long (own_c q0))])) _
            refine st2225 _ ?_
            refine XS.istore X2225.here hx rfl (hb hby at_334) rfl (l' := L_2226) rfl ?_
            refine XS.iload X2225.here hx rfl (hb hby at_336) rfl ?_
            refine XS.iconst X2225.here hx rfl (hb hby at_338) ?_
            refine XS.icmpYes X2225.here hx rfl (pc0 := 339) (pc' := 382) rfl (hb hby at_339) rfl (feq (by decide : ¬ ((1 : Int32) = (2 : Int32)))).2 (by decide) (by decide) ?_
            refine XS.iload X2225.here hx rfl (hb hby at_382) rfl ?_
            exact k)
          obtain ⟨T2229, L2229, X2229, e2229, N2229, pre2229⟩ : ∃ (T2229 : State) (L2229 : List Loc), Stand p l e room_1 (s.setVm vm2025) m #[(.long q0), (.long q1), (.long q2), (.long q3), (.long q4), (.long q5)] below meth c T2229 L2229 17 133 ∧ T2229.heap = h2199 ∧ Fr n0 L2229 ∧ ∀ t, Steps p.tables e below (T2229.setTop (mkF m 407 L_2226 [(.int (j0_10 q0 q2 q3 q4))])) t → Steps p.tables e below (s₁.setTop (entryFrame m #[(.long q0), (.long q1), (.long q2), (.long q3), (.long q4), (.long q5)] maxLocals)) t := by
            by_cases hc2230 : (v11 (own_c q0) (own_z q2 q0) (own_z q4 q0) (own_Nn q2 q3) (j0_8 q0 q2 q3 q4) (j0_9 q0 q2 q3 q4)) = (0 : Int32)
            · skip
              have pre2231 := fun (t : State) (k : Steps p.tables e below (T2225.setTop (mkF m 407 L_2226 [(.int (0 : Int32))])) t) => pre2228 t (by
                show Steps p.tables e below (T2225.setTop (mkF m 384 L_2226 [(.int (v11 (own_c q0) (own_z q2 q0) (own_z q4 q0) (own_Nn q2 q3) (j0_8 q0 q2 q3 q4) (j0_9 q0 q2 q3 q4)))])) _
                refine XS.ifYes X2225.here hx rfl (pc0 := 384) (pc' := 406) rfl (hb hby at_384) rfl ((if0 _ _).trans (teq hc2230).1) (by decide) (by decide) ?_
                refine XS.iconst X2225.here hx rfl (hb hby at_406) ?_
                exact k)
              have hj2232 : (j0_10 q0 q2 q3 q4) = (0 : Int32) := by unfold j0_10; first | (rw [if_pos hc2230]) | (simp only [if_pos hc2230])
              exact ⟨T2225, _, X2225, e2225, N2225, fun t k => pre2231 t (by rw [hj2232] at k; exact k)⟩
            · skip
              obtain ⟨_, _, ⟨T2233, L2233, k2233, n2233⟩, -, X2233, ⟨Lc2233, hQ2233, l2233, y2233, z2233⟩, st2233⟩ := Jvm.LawKit.callS X2225 hx (y := (⟨"com/example/stowline/stowline/VolumeBoundCopyTotalsPinLaw", "untouched", "([J[JIII)Z"⟩ : MethodName)) hown (mvT hZ (own_m hw 84 rfl)) (mvT hZ (own_m hw 85 rfl)) (mvT hZ (own_m hw 7 rfl)) (mvT hZ (own_m hw 86 rfl)) (by decide) (backOf (W := 0) (rm12_lo0 l Z aw hw [] b1700 b1764 ((2 : Int32)) ((1 : Int32)) ((-2 : Int64)) ((j0_8 q0 q2 q3 q4)) ((-4 : Int64)) ((-12 : Int64)) ((j0_9 q0 q2 q3 q4)) ((-14 : Int64)) k1700 k1764 h2199 n0 Z2199 f2200 f2201 (by decide)) hZ (own_m hw 86 rfl) (own_m hw 7 rfl) (by decide) (by decide)) (g := (mkF m 396 L_2226 [(.int (1 : Int32)), (.int (2 : Int32)), (.int (0 : Int32)), (.ref b1764), (.ref b1700)])) rfl (by rw [hml]; rfl) (argsL := [(.ref b1700), (.ref b1764), (.int (0 : Int32)), (.int (2 : Int32)), (.int (1 : Int32))]) (rest := []) (lenOf pd_11 rfl) rfl (by show 2 * 0 + _ ≤ _; exact Nat.le_of_eq rfl) (hb hby at_396) (fun _ _ => ⟨rfl, e2225, (by decide : 17 + 0 ≤ _), (by decide : 133 + 0 ≤ _)⟩)
              dsimp only [Pt.U, Pt.locs, Pt.cells, Pt.slots] at X2233 l2233 y2233 z2233 st2233 hQ2233
              subst l2233 y2233 z2233
              obtain ⟨rfl, N2233q, e2233⟩ := hQ2233
              have N2233 := Fr.app N2225 N2233q
              have pre2234 := fun (t : State) (k : Steps p.tables e below (T2233.setTop (mkF m 407 L_2226 [(.int (1 : Int32))])) t) => pre2228 t (by
                show Steps p.tables e below (T2225.setTop (mkF m 384 L_2226 [(.int (v11 (own_c q0) (own_z q2 q0) (own_z q4 q0) (own_Nn q2 q3) (j0_8 q0 q2 q3 q4) (j0_9 q0 q2 q3 q4)))])) _
                refine XS.ifNo X2225.here hx rfl (hb hby at_384) rfl ((if0 _ _).trans (feq hc2230).1) ?_
                refine XS.aload X2225.here hx rfl (hb hby at_387) rfl rfl ?_
                refine XS.aload X2225.here hx rfl (hb hby at_389) rfl rfl ?_
                refine XS.iconst X2225.here hx rfl (hb hby at_391) ?_
                refine XS.iload X2225.here hx rfl (hb hby at_392) rfl ?_
                refine XS.iload X2225.here hx rfl (hb hby at_394) rfl ?_
                show Steps p.tables e below (T2225.setTop (mkF m 396 L_2226 [(.int (1 : Int32)), (.int (2 : Int32)), (.int (0 : Int32)), (.ref b1764), (.ref b1700)])) _
                refine st2233 _ ?_
                refine XS.ifNo X2233.here hx rfl (hb hby at_399) rfl ((if0 _ _).trans (feq (by decide : ¬ ((1 : Int32) = (0 : Int32)))).1) ?_
                refine XS.iconst X2233.here hx rfl (hb hby at_402) ?_
                refine XS.goto X2233.here hx rfl (pc0 := 403) (pc' := 407) rfl (hb hby at_403) (by decide) (by decide) ?_
                exact k)
              have hj2235 : (j0_10 q0 q2 q3 q4) = (1 : Int32) := by unfold j0_10; first | (rw [if_neg hc2230]) | (simp only [if_neg hc2230])
              exact ⟨T2233, _, X2233, e2233, N2233, fun t k => pre2234 t (by rw [hj2235] at k; exact k)⟩
          let L_2236 : Array Slot := #[.val (.long q0), .second, .val (.long q1), .second, .val (.long q2), .second, .val (.long q3), .second, .val (.long q4), .second, .val (.long q5), .second, .val (.int (1 : Int32)), .val (.int (own_Nn q2 q3)), .val (.int ((j0_2 q4) + (j0_3 q5))), .val (.int (2 : Int32)), .val (.long (own_c q0)), .second, .val (.long (own_c q1)), .second, .val (.long (own_z q2 q0)), .second, .val (.long (own_z q3 q1)), .second, .val (.long (own_z q4 q0)), .second, .val (.long (own_z q5 q1)), .second, .val (.ref b1649), .val (.ref b1652), .val (.ref b1658), .val (.ref b1700), .val (.ref b1764), .val (.ref b1839), .val (.int (j0_10 q0 q2 q3 q4))]
          have pre2238 := fun (t : State) (k : Steps p.tables e below (T2229.setTop (mkF m 411 L_2236 [(.int (j0_10 q0 q2 q3 q4))])) t) => pre2229 t (by
            show Steps p.tables e below (T2229.setTop (mkF m 407 L_2226 [(.int (j0_10 q0 q2 q3 q4))])) _
            refine XS.istore X2229.here hx rfl (hb hby at_407) rfl (l' := L_2236) rfl ?_
            refine XS.iload X2229.here hx rfl (hb hby at_409) rfl ?_
            exact k)
          obtain ⟨T2239, L2239, X2239, e2239, N2239, pre2239⟩ : ∃ (T2239 : State) (L2239 : List Loc), Stand p l e room_1 (s.setVm vm2025) m #[(.long q0), (.long q1), (.long q2), (.long q3), (.long q4), (.long q5)] below meth c T2239 L2239 17 133 ∧ T2239.heap = h2199 ∧ Fr n0 L2239 ∧ ∀ t, Steps p.tables e below (T2239.setTop (mkF m 434 L_2236 [(.int (j0_11 q0 q2 q3 q4))])) t → Steps p.tables e below (s₁.setTop (entryFrame m #[(.long q0), (.long q1), (.long q2), (.long q3), (.long q4), (.long q5)] maxLocals)) t := by
            by_cases hc2240 : (j0_10 q0 q2 q3 q4) = (0 : Int32)
            · skip
              have pre2241 := fun (t : State) (k : Steps p.tables e below (T2229.setTop (mkF m 434 L_2236 [(.int (0 : Int32))])) t) => pre2238 t (by
                show Steps p.tables e below (T2229.setTop (mkF m 411 L_2236 [(.int (j0_10 q0 q2 q3 q4))])) _
                refine XS.ifYes X2229.here hx rfl (pc0 := 411) (pc' := 433) rfl (hb hby at_411) rfl ((if0 _ _).trans (teq hc2240).1) (by decide) (by decide) ?_
                refine XS.iconst X2229.here hx rfl (hb hby at_433) ?_
                exact k)
              have hj2242 : (j0_11 q0 q2 q3 q4) = (0 : Int32) := by unfold j0_11; first | (rw [if_pos hc2240]) | (simp only [if_pos hc2240])
              exact ⟨T2229, _, X2229, e2229, N2229, fun t k => pre2241 t (by rw [hj2242] at k; exact k)⟩
            · skip
              obtain ⟨_, _, ⟨T2243, L2243, k2243, n2243⟩, -, X2243, ⟨Lc2243, hQ2243, l2243, y2243, z2243⟩, st2243⟩ := Jvm.LawKit.callS X2229 hx (y := (⟨"com/example/stowline/stowline/VolumeBoundCopyTotalsPinLaw", "untouched", "([J[JIII)Z"⟩ : MethodName)) hown (mvT hZ (own_m hw 84 rfl)) (mvT hZ (own_m hw 85 rfl)) (mvT hZ (own_m hw 7 rfl)) (mvT hZ (own_m hw 86 rfl)) (by decide) (backOf (W := 0) (rm12_lo1 l Z aw hw [] b1700 b1764 ((2 : Int32)) ((1 : Int32)) ((-1 : Int64)) ((j0_8 q0 q2 q3 q4)) ((-4 : Int64)) ((-11 : Int64)) ((j0_9 q0 q2 q3 q4)) ((-14 : Int64)) k1700 k1764 h2199 n0 Z2199 f2200 f2201 (by decide)) hZ (own_m hw 86 rfl) (own_m hw 7 rfl) (by decide) (by decide)) (g := (mkF m 423 L_2236 [(.int (1 : Int32)), (.int (2 : Int32)), (.int (1 : Int32)), (.ref b1764), (.ref b1700)])) rfl (by rw [hml]; rfl) (argsL := [(.ref b1700), (.ref b1764), (.int (1 : Int32)), (.int (2 : Int32)), (.int (1 : Int32))]) (rest := []) (lenOf pd_11 rfl) rfl (by show 2 * 0 + _ ≤ _; exact Nat.le_of_eq rfl) (hb hby at_423) (fun _ _ => ⟨rfl, e2229, (by decide : 17 + 0 ≤ _), (by decide : 133 + 0 ≤ _)⟩)
              dsimp only [Pt.U, Pt.locs, Pt.cells, Pt.slots] at X2243 l2243 y2243 z2243 st2243 hQ2243
              subst l2243 y2243 z2243
              obtain ⟨rfl, N2243q, e2243⟩ := hQ2243
              have N2243 := Fr.app N2229 N2243q
              have pre2244 := fun (t : State) (k : Steps p.tables e below (T2243.setTop (mkF m 434 L_2236 [(.int (1 : Int32))])) t) => pre2238 t (by
                show Steps p.tables e below (T2229.setTop (mkF m 411 L_2236 [(.int (j0_10 q0 q2 q3 q4))])) _
                refine XS.ifNo X2229.here hx rfl (hb hby at_411) rfl ((if0 _ _).trans (feq hc2240).1) ?_
                refine XS.aload X2229.here hx rfl (hb hby at_414) rfl rfl ?_
                refine XS.aload X2229.here hx rfl (hb hby at_416) rfl rfl ?_
                refine XS.iconst X2229.here hx rfl (hb hby at_418) ?_
                refine XS.iload X2229.here hx rfl (hb hby at_419) rfl ?_
                refine XS.iload X2229.here hx rfl (hb hby at_421) rfl ?_
                show Steps p.tables e below (T2229.setTop (mkF m 423 L_2236 [(.int (1 : Int32)), (.int (2 : Int32)), (.int (1 : Int32)), (.ref b1764), (.ref b1700)])) _
                refine st2243 _ ?_
                refine XS.ifNo X2243.here hx rfl (hb hby at_426) rfl ((if0 _ _).trans (feq (by decide : ¬ ((1 : Int32) = (0 : Int32)))).1) ?_
                refine XS.iconst X2243.here hx rfl (hb hby at_429) ?_
                refine XS.goto X2243.here hx rfl (pc0 := 430) (pc' := 434) rfl (hb hby at_430) (by decide) (by decide) ?_
                exact k)
              have hj2245 : (j0_11 q0 q2 q3 q4) = (1 : Int32) := by unfold j0_11; first | (rw [if_neg hc2240]) | (simp only [if_neg hc2240])
              exact ⟨T2243, _, X2243, e2243, N2243, fun t k => pre2244 t (by rw [hj2245] at k; exact k)⟩
          let L_2246 : Array Slot := #[.val (.long q0), .second, .val (.long q1), .second, .val (.long q2), .second, .val (.long q3), .second, .val (.long q4), .second, .val (.long q5), .second, .val (.int (1 : Int32)), .val (.int (own_Nn q2 q3)), .val (.int ((j0_2 q4) + (j0_3 q5))), .val (.int (2 : Int32)), .val (.long (own_c q0)), .second, .val (.long (own_c q1)), .second, .val (.long (own_z q2 q0)), .second, .val (.long (own_z q3 q1)), .second, .val (.long (own_z q4 q0)), .second, .val (.long (own_z q5 q1)), .second, .val (.ref b1649), .val (.ref b1652), .val (.ref b1658), .val (.ref b1700), .val (.ref b1764), .val (.ref b1839), .val (.int (j0_11 q0 q2 q3 q4))]
          have pre2248 := fun (t : State) (k : Steps p.tables e below (T2239.setTop (mkF m 438 L_2246 [(.int (j0_11 q0 q2 q3 q4))])) t) => pre2239 t (by
            show Steps p.tables e below (T2239.setTop (mkF m 434 L_2236 [(.int (j0_11 q0 q2 q3 q4))])) _
            refine XS.istore X2239.here hx rfl (hb hby at_434) rfl (l' := L_2246) rfl ?_
            refine XS.iload X2239.here hx rfl (hb hby at_436) rfl ?_
            exact k)
          obtain ⟨T2249, L2249, X2249, e2249, N2249, pre2249⟩ : ∃ (T2249 : State) (L2249 : List Loc), Stand p l e room_1 (s.setVm vm2025) m #[(.long q0), (.long q1), (.long q2), (.long q3), (.long q4), (.long q5)] below meth c T2249 L2249 17 133 ∧ T2249.heap = h2199 ∧ Fr n0 L2249 ∧ ∀ t, Steps p.tables e below (T2249.setTop (mkF m 461 L_2246 [(.int (j0_12 q0 q2 q3 q4))])) t → Steps p.tables e below (s₁.setTop (entryFrame m #[(.long q0), (.long q1), (.long q2), (.long q3), (.long q4), (.long q5)] maxLocals)) t := by
            by_cases hc2250 : (j0_11 q0 q2 q3 q4) = (0 : Int32)
            · skip
              have pre2251 := fun (t : State) (k : Steps p.tables e below (T2239.setTop (mkF m 461 L_2246 [(.int (0 : Int32))])) t) => pre2248 t (by
                show Steps p.tables e below (T2239.setTop (mkF m 438 L_2246 [(.int (j0_11 q0 q2 q3 q4))])) _
                refine XS.ifYes X2239.here hx rfl (pc0 := 438) (pc' := 460) rfl (hb hby at_438) rfl ((if0 _ _).trans (teq hc2250).1) (by decide) (by decide) ?_
                refine XS.iconst X2239.here hx rfl (hb hby at_460) ?_
                exact k)
              have hj2252 : (j0_12 q0 q2 q3 q4) = (0 : Int32) := by unfold j0_12; first | (rw [if_pos hc2250]) | (simp only [if_pos hc2250])
              exact ⟨T2239, _, X2239, e2239, N2239, fun t k => pre2251 t (by rw [hj2252] at k; exact k)⟩
            · skip
              obtain ⟨_, _, ⟨T2253, L2253, k2253, n2253⟩, -, X2253, ⟨Lc2253, hQ2253, l2253, y2253, z2253⟩, st2253⟩ := Jvm.LawKit.callS X2239 hx (y := (⟨"com/example/stowline/stowline/VolumeBoundCopyTotalsPinLaw", "untouched", "([J[JIII)Z"⟩ : MethodName)) hown (mvT hZ (own_m hw 84 rfl)) (mvT hZ (own_m hw 85 rfl)) (mvT hZ (own_m hw 7 rfl)) (mvT hZ (own_m hw 86 rfl)) (by decide) (backOf (W := 0) (rm12_in l Z aw hw [] b1700 b1764 ((2 : Int32)) ((2 : Int32)) ((1 : Int32)) h2199 n0 Z2199 (by decide) (by decide)) hZ (own_m hw 86 rfl) (own_m hw 7 rfl) (by decide) (by decide)) (g := (mkF m 450 L_2246 [(.int (1 : Int32)), (.int (2 : Int32)), (.int (2 : Int32)), (.ref b1764), (.ref b1700)])) rfl (by rw [hml]; rfl) (argsL := [(.ref b1700), (.ref b1764), (.int (2 : Int32)), (.int (2 : Int32)), (.int (1 : Int32))]) (rest := []) (lenOf pd_11 rfl) rfl (by show 2 * 0 + _ ≤ _; exact Nat.le_of_eq rfl) (hb hby at_450) (fun _ _ => ⟨rfl, e2239, (by decide : 17 + 0 ≤ _), (by decide : 133 + 0 ≤ _)⟩)
              dsimp only [Pt.U, Pt.locs, Pt.cells, Pt.slots] at X2253 l2253 y2253 z2253 st2253 hQ2253
              subst l2253 y2253 z2253
              obtain ⟨rfl, N2253q, e2253⟩ := hQ2253
              have N2253 := Fr.app N2239 N2253q
              have pre2254 := fun (t : State) (k : Steps p.tables e below (T2253.setTop (mkF m 461 L_2246 [(.int (1 : Int32))])) t) => pre2248 t (by
                show Steps p.tables e below (T2239.setTop (mkF m 438 L_2246 [(.int (j0_11 q0 q2 q3 q4))])) _
                refine XS.ifNo X2239.here hx rfl (hb hby at_438) rfl ((if0 _ _).trans (feq hc2250).1) ?_
                refine XS.aload X2239.here hx rfl (hb hby at_441) rfl rfl ?_
                refine XS.aload X2239.here hx rfl (hb hby at_443) rfl rfl ?_
                refine XS.iconst X2239.here hx rfl (hb hby at_445) ?_
                refine XS.iload X2239.here hx rfl (hb hby at_446) rfl ?_
                refine XS.iload X2239.here hx rfl (hb hby at_448) rfl ?_
                show Steps p.tables e below (T2239.setTop (mkF m 450 L_2246 [(.int (1 : Int32)), (.int (2 : Int32)), (.int (2 : Int32)), (.ref b1764), (.ref b1700)])) _
                refine st2253 _ ?_
                refine XS.ifNo X2253.here hx rfl (hb hby at_453) rfl ((if0 _ _).trans (feq (by decide : ¬ ((1 : Int32) = (0 : Int32)))).1) ?_
                refine XS.iconst X2253.here hx rfl (hb hby at_456) ?_
                refine XS.goto X2253.here hx rfl (pc0 := 457) (pc' := 461) rfl (hb hby at_457) (by decide) (by decide) ?_
                exact k)
              have hj2255 : (j0_12 q0 q2 q3 q4) = (1 : Int32) := by unfold j0_12; first | (rw [if_neg hc2250]) | (simp only [if_neg hc2250])
              exact ⟨T2253, _, X2253, e2253, N2253, fun t k => pre2254 t (by rw [hj2255] at k; exact k)⟩
          let L_2256 : Array Slot := #[.val (.long q0), .second, .val (.long q1), .second, .val (.long q2), .second, .val (.long q3), .second, .val (.long q4), .second, .val (.long q5), .second, .val (.int (1 : Int32)), .val (.int (own_Nn q2 q3)), .val (.int ((j0_2 q4) + (j0_3 q5))), .val (.int (2 : Int32)), .val (.long (own_c q0)), .second, .val (.long (own_c q1)), .second, .val (.long (own_z q2 q0)), .second, .val (.long (own_z q3 q1)), .second, .val (.long (own_z q4 q0)), .second, .val (.long (own_z q5 q1)), .second, .val (.ref b1649), .val (.ref b1652), .val (.ref b1658), .val (.ref b1700), .val (.ref b1764), .val (.ref b1839), .val (.int (j0_12 q0 q2 q3 q4))]
          have pre2258 := fun (t : State) (k : Steps p.tables e below (T2249.setTop (mkF m 465 L_2256 [(.int (j0_12 q0 q2 q3 q4))])) t) => pre2249 t (by
            show Steps p.tables e below (T2249.setTop (mkF m 461 L_2246 [(.int (j0_12 q0 q2 q3 q4))])) _
            refine XS.istore X2249.here hx rfl (hb hby at_461) rfl (l' := L_2256) rfl ?_
            refine XS.iload X2249.here hx rfl (hb hby at_463) rfl ?_
            exact k)
          obtain ⟨T2259, L2259, X2259, e2259, N2259, pre2259⟩ : ∃ (T2259 : State) (L2259 : List Loc), Stand p l e room_1 (s.setVm vm2025) m #[(.long q0), (.long q1), (.long q2), (.long q3), (.long q4), (.long q5)] below meth c T2259 L2259 17 133 ∧ T2259.heap = h2199 ∧ Fr n0 L2259 ∧ ∀ t, Steps p.tables e below (T2259.setTop (mkF m 488 L_2256 [(.int (j0_13 q0 q2 q3 q4))])) t → Steps p.tables e below (s₁.setTop (entryFrame m #[(.long q0), (.long q1), (.long q2), (.long q3), (.long q4), (.long q5)] maxLocals)) t := by
            by_cases hc2260 : (j0_12 q0 q2 q3 q4) = (0 : Int32)
            · skip
              have pre2261 := fun (t : State) (k : Steps p.tables e below (T2249.setTop (mkF m 488 L_2256 [(.int (0 : Int32))])) t) => pre2258 t (by
                show Steps p.tables e below (T2249.setTop (mkF m 465 L_2256 [(.int (j0_12 q0 q2 q3 q4))])) _
                refine XS.ifYes X2249.here hx rfl (pc0 := 465) (pc' := 487) rfl (hb hby at_465) rfl ((if0 _ _).trans (teq hc2260).1) (by decide) (by decide) ?_
                refine XS.iconst X2249.here hx rfl (hb hby at_487) ?_
                exact k)
              have hj2262 : (j0_13 q0 q2 q3 q4) = (0 : Int32) := by unfold j0_13; first | (rw [if_pos hc2260]) | (simp only [if_pos hc2260])
              exact ⟨T2249, _, X2249, e2249, N2249, fun t k => pre2261 t (by rw [hj2262] at k; exact k)⟩
            · skip
              obtain ⟨_, _, ⟨T2263, L2263, k2263, n2263⟩, -, X2263, ⟨Lc2263, hQ2263, l2263, y2263, z2263⟩, st2263⟩ := Jvm.LawKit.callS X2249 hx (y := (⟨"com/example/stowline/stowline/VolumeBoundCopyTotalsPinLaw", "untouched", "([J[JIII)Z"⟩ : MethodName)) hown (mvT hZ (own_m hw 84 rfl)) (mvT hZ (own_m hw 85 rfl)) (mvT hZ (own_m hw 7 rfl)) (mvT hZ (own_m hw 86 rfl)) (by decide) (backOf (W := 0) (rm12_hi3 l Z aw hw [] b1700 b1764 ((2 : Int32)) ((1 : Int32)) ((-1 : Int64)) ((-2 : Int64)) ((j0_8 q0 q2 q3 q4)) ((-11 : Int64)) ((-12 : Int64)) ((j0_9 q0 q2 q3 q4)) k1700 k1764 h2199 n0 Z2199 f2200 f2201 (by decide) (by decide)) hZ (own_m hw 86 rfl) (own_m hw 7 rfl) (by decide) (by decide)) (g := (mkF m 477 L_2256 [(.int (1 : Int32)), (.int (2 : Int32)), (.int (3 : Int32)), (.ref b1764), (.ref b1700)])) rfl (by rw [hml]; rfl) (argsL := [(.ref b1700), (.ref b1764), (.int (3 : Int32)), (.int (2 : Int32)), (.int (1 : Int32))]) (rest := []) (lenOf pd_11 rfl) rfl (by show 2 * 0 + _ ≤ _; exact Nat.le_of_eq rfl) (hb hby at_477) (fun _ _ => ⟨rfl, e2249, (by decide : 17 + 0 ≤ _), (by decide : 133 + 0 ≤ _)⟩)
              dsimp only [Pt.U, Pt.locs, Pt.cells, Pt.slots] at X2263 l2263 y2263 z2263 st2263 hQ2263
              subst l2263 y2263 z2263
              obtain ⟨rfl, N2263q, e2263⟩ := hQ2263
              have N2263 := Fr.app N2249 N2263q
              have pre2264 := fun (t : State) (k : Steps p.tables e below (T2263.setTop (mkF m 488 L_2256 [(.int (1 : Int32))])) t) => pre2258 t (by
                show Steps p.tables e below (T2249.setTop (mkF m 465 L_2256 [(.int (j0_12 q0 q2 q3 q4))])) _
                refine XS.ifNo X2249.here hx rfl (hb hby at_465) rfl ((if0 _ _).trans (feq hc2260).1) ?_
                refine XS.aload X2249.here hx rfl (hb hby at_468) rfl rfl ?_
                refine XS.aload X2249.here hx rfl (hb hby at_470) rfl rfl ?_
                refine XS.iconst X2249.here hx rfl (hb hby at_472) ?_
                refine XS.iload X2249.here hx rfl (hb hby at_473) rfl ?_
                refine XS.iload X2249.here hx rfl (hb hby at_475) rfl ?_
                show Steps p.tables e below (T2249.setTop (mkF m 477 L_2256 [(.int (1 : Int32)), (.int (2 : Int32)), (.int (3 : Int32)), (.ref b1764), (.ref b1700)])) _
                refine st2263 _ ?_
                refine XS.ifNo X2263.here hx rfl (hb hby at_480) rfl ((if0 _ _).trans (feq (by decide : ¬ ((1 : Int32) = (0 : Int32)))).1) ?_
                refine XS.iconst X2263.here hx rfl (hb hby at_483) ?_
                refine XS.goto X2263.here hx rfl (pc0 := 484) (pc' := 488) rfl (hb hby at_484) (by decide) (by decide) ?_
                exact k)
              have hj2265 : (j0_13 q0 q2 q3 q4) = (1 : Int32) := by unfold j0_13; first | (rw [if_neg hc2260]) | (simp only [if_neg hc2260])
              exact ⟨T2263, _, X2263, e2263, N2263, fun t k => pre2264 t (by rw [hj2265] at k; exact k)⟩
          let L_2266 : Array Slot := #[.val (.long q0), .second, .val (.long q1), .second, .val (.long q2), .second, .val (.long q3), .second, .val (.long q4), .second, .val (.long q5), .second, .val (.int (1 : Int32)), .val (.int (own_Nn q2 q3)), .val (.int ((j0_2 q4) + (j0_3 q5))), .val (.int (2 : Int32)), .val (.long (own_c q0)), .second, .val (.long (own_c q1)), .second, .val (.long (own_z q2 q0)), .second, .val (.long (own_z q3 q1)), .second, .val (.long (own_z q4 q0)), .second, .val (.long (own_z q5 q1)), .second, .val (.ref b1649), .val (.ref b1652), .val (.ref b1658), .val (.ref b1700), .val (.ref b1764), .val (.ref b1839), .val (.int (j0_13 q0 q2 q3 q4))]
          obtain ⟨fs, hr, hrun, hended, hRW⟩ := X2259.leaveW hS (own_hk hk e2259) (v := some (.int (nar .boolean (j0_13 q0 q2 q3 q4)))) (fun h => by rw [Bd.returns] at h; cases h)
          refine ⟨_, _, pre2259 _ ?_, hrun, hended, _, _, rfl, ?_, hRW.1, hRW.2.1, hRW.2.2.1, hRW.2.2.2.mono (by decide) (by decide)⟩
          · skip
            show Steps p.tables e below (T2259.setTop (mkF m 488 L_2256 [(.int (j0_13 q0 q2 q3 q4))])) _
            refine XS.istore X2259.here hx rfl (hb hby at_488) rfl (l' := L_2266) rfl ?_
            refine XS.iload X2259.here hx rfl (hb hby at_490) rfl ?_
            show Steps p.tables e below (T2259.setTop (mkF m 492 L_2266 [(.int (j0_13 q0 q2 q3 q4))])) _
            exact retN X2259 hx (t := .boolean) Bd.returns (by simp) (hb hby at_492) hr
          · show Q0 Z q0 q1 q2 q3 q4 q5 h0 n0 _ T2259.heap _
            rw [e2259]
            have hv : (nar .boolean (j0_13 q0 q2 q3 q4)) = (v0 q0 q1 q2 q3 q4 q5) := by unfold v0; first | (rw [if_pos hc1604, if_neg hs2054, if_neg hs2125, if_pos hs2196]) | (simp only [if_pos hc1604, if_neg hs2054, if_neg hs2125, if_pos hs2196])
            exact ⟨(by rw [← hv]), N2259⟩
        · skip
          have hs2267 : (((j0_2 q4) + (j0_3 q5)) % (4 : Int32)) = (3 : Int32) := own_off4 _ hs2054 hs2125 hs2196 (own_offp q4 q5)
          let L_2269 : Array Slot := #[.val (.long q0), .second, .val (.long q1), .second, .val (.long q2), .second, .val (.long q3), .second, .val (.long q4), .second, .val (.long q5), .second, .val (.int (1 : Int32)), .val (.int (own_Nn q2 q3)), .val (.int ((j0_2 q4) + (j0_3 q5))), .val (.int (3 : Int32)), .val (.long (own_c q0)), .second, .val (.long (own_c q1)), .second, .val (.long (own_z q2 q0)), .second, .val (.long (own_z q3 q1)), .second, .val (.long (own_z q4 q0)), .second, .val (.long (own_z q5 q1)), .second, .val (.ref b1649), .val (.ref b1652), .val (.ref b1658), .val (.ref b1700), .val (.ref b1764), .val (.ref b1839), .unset]
          have pre2268 := fun (t : State) (k : Steps p.tables e below (T2025.setTop (mkF m 302 L_2269 [])) t) => pre2025 t (by show Steps p.tables e below (T2025.setTop (mkF m 302 #[.val (.long q0), .second, .val (.long q1), .second, .val (.long q2), .second, .val (.long q3), .second, .val (.long q4), .second, .val (.long q5), .second, .val (.int (1 : Int32)), .val (.int (own_Nn q2 q3)), .val (.int ((j0_2 q4) + (j0_3 q5))), .val (.int (((j0_2 q4) + (j0_3 q5)) % (4 : Int32))), .val (.long (own_c q0)), .second, .val (.long (own_c q1)), .second, .val (.long (own_z q2 q0)), .second, .val (.long (own_z q3 q1)), .second, .val (.long (own_z q4 q0)), .second, .val (.long (own_z q5 q1)), .second, .val (.ref b1649), .val (.ref b1652), .val (.ref b1658), .val (.ref b1700), .val (.ref b1764), .val (.ref b1839), .unset] [])) t; rw [hs2267]; exact k)
          obtain ⟨cq2270, kq2270, q2270a, q2270b, q2270c⟩ := isOf hZ e2025 f2025_10
          obtain ⟨_, _, ⟨T2270, L2270, k2270, n2270⟩, -, X2270, ⟨Lc2270, hQ2270, l2270, y2270, z2270⟩, st2270⟩ := X2025.virtualBack hx (y := (⟨"com/example/stowline/stowline/VolumeBound", "copyTotals", "([J[JI)V"⟩ : MethodName)) (z := (⟨"com/example/stowline/stowline/VolumeBound", "copyTotals", "([J[JI)V"⟩ : MethodName)) hown (mvT hZ (own_m hw 72 rfl)) (mvT hZ (own_m hw 73 rfl)) (notFace_of_selects (args := #[]) (mvT hZ (own_m hw 75 rfl))) (mvT hZ (own_m hw 75 rfl)) (mvT hZ (own_m hw 74 rfl)) (by decide) (backOf (W := 0) (rm10_1_3 l Z aw hw [] b1839 b1700 b1764 cx11859 cx21859 ((j0_8 q0 q2 q3 q4)) ((j0_9 q0 q2 q3 q4)) ((-1 : Int64)) ((-2 : Int64)) ((-3 : Int64)) ((-4 : Int64)) ((-11 : Int64)) ((-12 : Int64)) ((-13 : Int64)) ((-14 : Int64)) cy11859 cy21859 k1700 k1764 h2025 n0 Z2025 f2025_10 f2025_12 f2025_13 f2025_15 f2025_16 f2025_7 f2025_9 g_b1700 g_b1764 (Ne.symm ne1853) (Ne.symm ne1854) (Ne.symm ne1891) (Ne.symm ne1892) (Ne.symm ne1897) (Ne.symm ne1898) ne1776) hZ (own_m hw 76 rfl) (own_m hw 20 rfl) (by decide) (by decide)) q2270a q2270c (g := (mkF m 310 L_2269 [(.int (3 : Int32)), (.ref b1764), (.ref b1700), (.ref b1839)])) rfl (by rw [hml]; rfl) (Steps.refl _) (argsL := [(.ref b1700), (.ref b1764), (.int (3 : Int32))]) (rest := []) (lenOf pd_9 rfl) rfl (by show 2 * 0 + _ ≤ _; exact Nat.le_of_eq rfl) (hb hby at_310) (fun _ _ => ⟨rfl, e2025, (by decide : 17 + 0 ≤ _), (by decide : 133 + 0 ≤ _)⟩)
          dsimp only [Pt.U, Pt.locs, Pt.cells, Pt.slots] at X2270 l2270 y2270 z2270 st2270 hQ2270
          subst l2270 y2270 z2270
          obtain ⟨h2270, e2270⟩ : ∃ z, T2270.heap = z := ⟨_, rfl⟩
          rw [e2270] at hQ2270
          obtain ⟨rfl, N2270q, K2270q, f2271, f2272⟩ := hQ2270
          have f2273 := f2025_0.keep K2270q
          have f2274 := f2025_1.keep K2270q (ninS ne1707 (ninS ne1773 nin0))
          have f2275 := f2025_2.keep K2270q
          have f2276 := f2025_3.keep K2270q (ninS ne1708 (ninS ne1774 nin0))
          have f2277 := f2025_4.keep K2270q
          have f2278 := f2025_5.keep K2270q (ninS ne1709 (ninS ne1775 nin0))
          have f2279 := f2025_6.keep K2270q
          have f2281 := f2025_8.keep K2270q
          have f2283 := f2025_10.keep K2270q
          have f2284 := f2025_11.keep K2270q (ninS (Ne.symm ne1853) (ninS (Ne.symm ne1854) nin0))
          have f2285 := f2025_12.keep K2270q (ninS (Ne.symm ne1853) (ninS (Ne.symm ne1854) nin0))
          have f2286 := f2025_13.keep K2270q (ninS (Ne.symm ne1853) (ninS (Ne.symm ne1854) nin0))
          have f2287 := f2025_14.keep K2270q (ninS (Ne.symm ne1885) (ninS (Ne.symm ne1886) nin0))
          have f2288 := f2025_15.keep K2270q (ninS (Ne.symm ne1891) (ninS (Ne.symm ne1892) nin0))
          have f2289 := f2025_16.keep K2270q (ninS (Ne.symm ne1897) (ninS (Ne.symm ne1898) nin0))
          have Z2270 := Nat.le_trans Z2025 K2270q.1
          have hk := Nat.le_trans hk K2270q.1
          have N2270 := Fr.app N2025 N2270q
          obtain ⟨cl2290, Ar2290, q2290, S2290, M2290, H2290, G2290⟩ := id f2271
          have hin2291 : ¬ ((3 : Int32) < 0 ∨ cl2290.slots.size ≤ ((3 : Int32)).toNatClampNeg) := inb_of S2290 ⟨by decide, by decide⟩
          have hat2292 : cl2290.slots[((3 : Int32)).toNatClampNeg]? = some (.long (j0_8 q0 q2 q3 q4)) := H2290.at hin2291 rfl
          obtain ⟨cl2293, Ar2293, q2293, S2293, M2293, H2293, G2293⟩ := id f2272
          have hin2294 : ¬ ((3 : Int32) < 0 ∨ cl2293.slots.size ≤ ((3 : Int32)).toNatClampNeg) := inb_of S2293 ⟨by decide, by decide⟩
          have hat2295 : cl2293.slots[((3 : Int32)).toNatClampNeg]? = some (.long (j0_9 q0 q2 q3 q4)) := H2293.at hin2294 rfl
          obtain ⟨_, _, ⟨T2296, L2296, k2296, n2296⟩, -, X2296, ⟨Lc2296, hQ2296, l2296, y2296, z2296⟩, st2296⟩ := Jvm.LawKit.callS X2270 hx (y := (⟨"com/example/stowline/stowline/VolumeBoundCopyTotalsPinLaw", "check", "(JJJIJJ)Z"⟩ : MethodName)) hown (mvT hZ (own_m hw 81 rfl)) (mvT hZ (own_m hw 82 rfl)) (mvT hZ (own_m hw 7 rfl)) (mvT hZ (own_m hw 83 rfl)) (by decide) (backOf (W := 0) (rm11 l Z aw hw [] ((own_c q0)) ((own_z q2 q0)) ((own_z q4 q0)) ((own_Nn q2 q3)) ((j0_8 q0 q2 q3 q4)) ((j0_9 q0 q2 q3 q4)) h2270 n0 Z2270 ) hZ (own_m hw 83 rfl) (own_m hw 7 rfl) (by decide) (by decide)) (g := (mkF m 331 L_2269 [(.long (j0_9 q0 q2 q3 q4)), (.long (j0_8 q0 q2 q3 q4)), (.int (own_Nn q2 q3)), (.long (own_z q4 q0)), (.long (own_z q2 q0)), (.long (own_c q0))])) rfl (by rw [hml]; rfl) (argsL := [(.long (own_c q0)), (.long (own_z q2 q0)), (.long (own_z q4 q0)), (.int (own_Nn q2 q3)), (.long (j0_8 q0 q2 q3 q4)), (.long (j0_9 q0 q2 q3 q4))]) (rest := []) (lenOf pd_10 rfl) rfl (by show 2 * 0 + _ ≤ _; exact Nat.le_of_eq rfl) (hb hby at_331) (fun _ _ => ⟨rfl, e2270, (by decide : 17 + 0 ≤ _), (by decide : 133 + 0 ≤ _)⟩)
          dsimp only [Pt.U, Pt.locs, Pt.cells, Pt.slots] at X2296 l2296 y2296 z2296 st2296 hQ2296
          subst l2296 y2296 z2296
          obtain ⟨rfl, N2296q, e2296⟩ := hQ2296
          have N2296 := Fr.app N2270 N2296q
          let L_2297 : Array Slot := #[.val (.long q0), .second, .val (.long q1), .second, .val (.long q2), .second, .val (.long q3), .second, .val (.long q4), .second, .val (.long q5), .second, .val (.int (1 : Int32)), .val (.int (own_Nn q2 q3)), .val (.int ((j0_2 q4) + (j0_3 q5))), .val (.int (3 : Int32)), .val (.long (own_c q0)), .second, .val (.long (own_c q1)), .second, .val (.long (own_z q2 q0)), .second, .val (.long (own_z q3 q1)), .second, .val (.long (own_z q4 q0)), .second, .val (.long (own_z q5 q1)), .second, .val (.ref b1649), .val (.ref b1652), .val (.ref b1658), .val (.ref b1700), .val (.ref b1764), .val (.ref b1839), .val (.int (v11 (own_c q0) (own_z q2 q0) (own_z q4 q0) (own_Nn q2 q3) (j0_8 q0 q2 q3 q4) (j0_9 q0 q2 q3 q4)))]
          have pre2299 := fun (t : State) (k : Steps p.tables e below (T2296.setTop (mkF m 384 L_2297 [(.int (v11 (own_c q0) (own_z q2 q0) (own_z q4 q0) (own_Nn q2 q3) (j0_8 q0 q2 q3 q4) (j0_9 q0 q2 q3 q4)))])) t) => pre2268 t (by
            show Steps p.tables e below (T2025.setTop (mkF m 302 L_2269 [])) _
            refine XS.aload X2025.here hx rfl (hb hby at_302) rfl rfl ?_
            refine XS.aload X2025.here hx rfl (hb hby at_304) rfl rfl ?_
            refine XS.aload X2025.here hx rfl (hb hby at_306) rfl rfl ?_
            refine XS.iload X2025.here hx rfl (hb hby at_308) rfl ?_
            show Steps p.tables e below (T2025.setTop (mkF m 310 L_2269 [(.int (3 : Int32)), (.ref b1764), (.ref b1700), (.ref b1839)])) _
            refine st2270.trans ?_
            refine XS.lload X2270.here hx rfl (hb hby at_313) rfl ?_
            refine XS.lload X2270.here hx rfl (hb hby at_315) rfl ?_
            refine XS.lload X2270.here hx rfl (hb hby at_317) rfl ?_
            refine XS.iload X2270.here hx rfl (hb hby at_319) rfl ?_
            refine XS.aload X2270.here hx rfl (hb hby at_321) rfl rfl ?_
            show Steps p.tables e below (T2270.setTop (mkF m 323 L_2269 [(.ref b1700), (.int (own_Nn q2 q3)), (.long (own_z q4 q0)), (.long (own_z q2 q0)), (.long (own_c q0))])) _
            refine XS.iload X2270.here hx rfl (hb hby at_323) rfl ?_
            show Steps p.tables e below (T2270.setTop (mkF m 325 L_2269 [(.int (3 : Int32)), (.ref b1700), (.int (own_Nn q2 q3)), (.long (own_z q4 q0)), (.long (own_z q2 q0)), (.long (own_c q0))])) _
            refine X2270.laload hx (j := (3 : Int32)) (v := (.long (j0_8 q0 q2 q3 q4))) (by rw [e2270]; exact Ar2290.1) (State.isArrayOf_alike hZ.alike Ar2290.2.1) Ar2290.2.2 hin2291 hat2292 (g := (mkF m 325 L_2269 [(.int (3 : Int32)), (.ref b1700), (.int (own_Nn q2 q3)), (.long (own_z q4 q0)), (.long (own_z q2 q0)), (.long (own_c q0))])) rfl rfl (hb hby at_325) _ ?_
            refine XS.aload X2270.here hx rfl (hb hby at_326) rfl rfl ?_
            refine XS.iload X2270.here hx rfl (hb hby at_328) rfl ?_
            show Steps p.tables e below (T2270.setTop (mkF m 330 L_2269 [(.int (3 : Int32)), (.ref b1764), (.long (j0_8 q0 q2 q3 q4)), (.int (own_Nn q2 q3)), (.long (own_z q4 q0)), (.long (own_z q2 q0)), (.long (own_c q0))])) _
            refine X2270.laload hx (j := (3 : Int32)) (v := (.long (j0_9 q0 q2 q3 q4))) (by rw [e2270]; exact Ar2293.1) (State.isArrayOf_alike hZ.alike Ar2293.2.1) Ar2293.2.2 hin2294 hat2295 (g := (mkF m 330 L_2269 [(.int (3 : Int32)), (.ref b1764), (.long (j0_8 q0 q2 q3 q4)), (.int (own_Nn q2 q3)), (.long (own_z q4 q0)), (.long (own_z q2 q0)), (.long (own_c q0))])) rfl rfl (hb hby at_330) _ ?_
            show Steps p.tables e below (T2270.setTop (mkF m 331 L_2269 [(.long (j0_9 q0 q2 q3 q4)), (.long (j0_8 q0 q2 q3 q4)), (.int (own_Nn q2 q3)), (.long (own_z q4 q0)), (.long (own_z q2 q0)), (.long (own_c q0))])) _
            refine st2296 _ ?_
            refine XS.istore X2296.here hx rfl (hb hby at_334) rfl (l' := L_2297) rfl ?_
            refine XS.iload X2296.here hx rfl (hb hby at_336) rfl ?_
            refine XS.iconst X2296.here hx rfl (hb hby at_338) ?_
            refine XS.icmpYes X2296.here hx rfl (pc0 := 339) (pc' := 382) rfl (hb hby at_339) rfl (feq (by decide : ¬ ((1 : Int32) = (2 : Int32)))).2 (by decide) (by decide) ?_
            refine XS.iload X2296.here hx rfl (hb hby at_382) rfl ?_
            exact k)
          obtain ⟨T2300, L2300, X2300, e2300, N2300, pre2300⟩ : ∃ (T2300 : State) (L2300 : List Loc), Stand p l e room_1 (s.setVm vm2025) m #[(.long q0), (.long q1), (.long q2), (.long q3), (.long q4), (.long q5)] below meth c T2300 L2300 17 133 ∧ T2300.heap = h2270 ∧ Fr n0 L2300 ∧ ∀ t, Steps p.tables e below (T2300.setTop (mkF m 407 L_2297 [(.int (j0_10 q0 q2 q3 q4))])) t → Steps p.tables e below (s₁.setTop (entryFrame m #[(.long q0), (.long q1), (.long q2), (.long q3), (.long q4), (.long q5)] maxLocals)) t := by
            by_cases hc2301 : (v11 (own_c q0) (own_z q2 q0) (own_z q4 q0) (own_Nn q2 q3) (j0_8 q0 q2 q3 q4) (j0_9 q0 q2 q3 q4)) = (0 : Int32)
            · skip
              have pre2302 := fun (t : State) (k : Steps p.tables e below (T2296.setTop (mkF m 407 L_2297 [(.int (0 : Int32))])) t) => pre2299 t (by
                show Steps p.tables e below (T2296.setTop (mkF m 384 L_2297 [(.int (v11 (own_c q0) (own_z q2 q0) (own_z q4 q0) (own_Nn q2 q3) (j0_8 q0 q2 q3 q4) (j0_9 q0 q2 q3 q4)))])) _
                refine XS.ifYes X2296.here hx rfl (pc0 := 384) (pc' := 406) rfl (hb hby at_384) rfl ((if0 _ _).trans (teq hc2301).1) (by decide) (by decide) ?_
                refine XS.iconst X2296.here hx rfl (hb hby at_406) ?_
                exact k)
              have hj2303 : (j0_10 q0 q2 q3 q4) = (0 : Int32) := by unfold j0_10; first | (rw [if_pos hc2301]) | (simp only [if_pos hc2301])
              exact ⟨T2296, _, X2296, e2296, N2296, fun t k => pre2302 t (by rw [hj2303] at k; exact k)⟩
            · skip
              obtain ⟨_, _, ⟨T2304, L2304, k2304, n2304⟩, -, X2304, ⟨Lc2304, hQ2304, l2304, y2304, z2304⟩, st2304⟩ := Jvm.LawKit.callS X2296 hx (y := (⟨"com/example/stowline/stowline/VolumeBoundCopyTotalsPinLaw", "untouched", "([J[JIII)Z"⟩ : MethodName)) hown (mvT hZ (own_m hw 84 rfl)) (mvT hZ (own_m hw 85 rfl)) (mvT hZ (own_m hw 7 rfl)) (mvT hZ (own_m hw 86 rfl)) (by decide) (backOf (W := 0) (rm12_lo0 l Z aw hw [] b1700 b1764 ((3 : Int32)) ((1 : Int32)) ((-2 : Int64)) ((-3 : Int64)) ((j0_8 q0 q2 q3 q4)) ((-12 : Int64)) ((-13 : Int64)) ((j0_9 q0 q2 q3 q4)) k1700 k1764 h2270 n0 Z2270 f2271 f2272 (by decide)) hZ (own_m hw 86 rfl) (own_m hw 7 rfl) (by decide) (by decide)) (g := (mkF m 396 L_2297 [(.int (1 : Int32)), (.int (3 : Int32)), (.int (0 : Int32)), (.ref b1764), (.ref b1700)])) rfl (by rw [hml]; rfl) (argsL := [(.ref b1700), (.ref b1764), (.int (0 : Int32)), (.int (3 : Int32)), (.int (1 : Int32))]) (rest := []) (lenOf pd_11 rfl) rfl (by show 2 * 0 + _ ≤ _; exact Nat.le_of_eq rfl) (hb hby at_396) (fun _ _ => ⟨rfl, e2296, (by decide : 17 + 0 ≤ _), (by decide : 133 + 0 ≤ _)⟩)
              dsimp only [Pt.U, Pt.locs, Pt.cells, Pt.slots] at X2304 l2304 y2304 z2304 st2304 hQ2304
              subst l2304 y2304 z2304
              obtain ⟨rfl, N2304q, e2304⟩ := hQ2304
              have N2304 := Fr.app N2296 N2304q
              have pre2305 := fun (t : State) (k : Steps p.tables e below (T2304.setTop (mkF m 407 L_2297 [(.int (1 : Int32))])) t) => pre2299 t (by
                show Steps p.tables e below (T2296.setTop (mkF m 384 L_2297 [(.int (v11 (own_c q0) (own_z q2 q0) (own_z q4 q0) (own_Nn q2 q3) (j0_8 q0 q2 q3 q4) (j0_9 q0 q2 q3 q4)))])) _
                refine XS.ifNo X2296.here hx rfl (hb hby at_384) rfl ((if0 _ _).trans (feq hc2301).1) ?_
                refine XS.aload X2296.here hx rfl (hb hby at_387) rfl rfl ?_
                refine XS.aload X2296.here hx rfl (hb hby at_389) rfl rfl ?_
                refine XS.iconst X2296.here hx rfl (hb hby at_391) ?_
                refine XS.iload X2296.here hx rfl (hb hby at_392) rfl ?_
                refine XS.iload X2296.here hx rfl (hb hby at_394) rfl ?_
                show Steps p.tables e below (T2296.setTop (mkF m 396 L_2297 [(.int (1 : Int32)), (.int (3 : Int32)), (.int (0 : Int32)), (.ref b1764), (.ref b1700)])) _
                refine st2304 _ ?_
                refine XS.ifNo X2304.here hx rfl (hb hby at_399) rfl ((if0 _ _).trans (feq (by decide : ¬ ((1 : Int32) = (0 : Int32)))).1) ?_
                refine XS.iconst X2304.here hx rfl (hb hby at_402) ?_
                refine XS.goto X2304.here hx rfl (pc0 := 403) (pc' := 407) rfl (hb hby at_403) (by decide) (by decide) ?_
                exact k)
              have hj2306 : (j0_10 q0 q2 q3 q4) = (1 : Int32) := by unfold j0_10; first | (rw [if_neg hc2301]) | (simp only [if_neg hc2301])
              exact ⟨T2304, _, X2304, e2304, N2304, fun t k => pre2305 t (by rw [hj2306] at k; exact k)⟩
          let L_2307 : Array Slot := #[.val (.long q0), .second, .val (.long q1), .second, .val (.long q2), .second, .val (.long q3), .second, .val (.long q4), .second, .val (.long q5), .second, .val (.int (1 : Int32)), .val (.int (own_Nn q2 q3)), .val (.int ((j0_2 q4) + (j0_3 q5))), .val (.int (3 : Int32)), .val (.long (own_c q0)), .second, .val (.long (own_c q1)), .second, .val (.long (own_z q2 q0)), .second, .val (.long (own_z q3 q1)), .second, .val (.long (own_z q4 q0)), .second, .val (.long (own_z q5 q1)), .second, .val (.ref b1649), .val (.ref b1652), .val (.ref b1658), .val (.ref b1700), .val (.ref b1764), .val (.ref b1839), .val (.int (j0_10 q0 q2 q3 q4))]
          have pre2309 := fun (t : State) (k : Steps p.tables e below (T2300.setTop (mkF m 411 L_2307 [(.int (j0_10 q0 q2 q3 q4))])) t) => pre2300 t (by
            show Steps p.tables e below (T2300.setTop (mkF m 407 L_2297 [(.int (j0_10 q0 q2 q3 q4))])) _
            refine XS.istore X2300.here hx rfl (hb hby at_407) rfl (l' := L_2307) rfl ?_
            refine XS.iload X2300.here hx rfl (hb hby at_409) rfl ?_
            exact k)
          obtain ⟨T2310, L2310, X2310, e2310, N2310, pre2310⟩ : ∃ (T2310 : State) (L2310 : List Loc), Stand p l e room_1 (s.setVm vm2025) m #[(.long q0), (.long q1), (.long q2), (.long q3), (.long q4), (.long q5)] below meth c T2310 L2310 17 133 ∧ T2310.heap = h2270 ∧ Fr n0 L2310 ∧ ∀ t, Steps p.tables e below (T2310.setTop (mkF m 434 L_2307 [(.int (j0_11 q0 q2 q3 q4))])) t → Steps p.tables e below (s₁.setTop (entryFrame m #[(.long q0), (.long q1), (.long q2), (.long q3), (.long q4), (.long q5)] maxLocals)) t := by
            by_cases hc2311 : (j0_10 q0 q2 q3 q4) = (0 : Int32)
            · skip
              have pre2312 := fun (t : State) (k : Steps p.tables e below (T2300.setTop (mkF m 434 L_2307 [(.int (0 : Int32))])) t) => pre2309 t (by
                show Steps p.tables e below (T2300.setTop (mkF m 411 L_2307 [(.int (j0_10 q0 q2 q3 q4))])) _
                refine XS.ifYes X2300.here hx rfl (pc0 := 411) (pc' := 433) rfl (hb hby at_411) rfl ((if0 _ _).trans (teq hc2311).1) (by decide) (by decide) ?_
                refine XS.iconst X2300.here hx rfl (hb hby at_433) ?_
                exact k)
              have hj2313 : (j0_11 q0 q2 q3 q4) = (0 : Int32) := by unfold j0_11; first | (rw [if_pos hc2311]) | (simp only [if_pos hc2311])
              exact ⟨T2300, _, X2300, e2300, N2300, fun t k => pre2312 t (by rw [hj2313] at k; exact k)⟩
            · skip
              obtain ⟨_, _, ⟨T2314, L2314, k2314, n2314⟩, -, X2314, ⟨Lc2314, hQ2314, l2314, y2314, z2314⟩, st2314⟩ := Jvm.LawKit.callS X2300 hx (y := (⟨"com/example/stowline/stowline/VolumeBoundCopyTotalsPinLaw", "untouched", "([J[JIII)Z"⟩ : MethodName)) hown (mvT hZ (own_m hw 84 rfl)) (mvT hZ (own_m hw 85 rfl)) (mvT hZ (own_m hw 7 rfl)) (mvT hZ (own_m hw 86 rfl)) (by decide) (backOf (W := 0) (rm12_lo1 l Z aw hw [] b1700 b1764 ((3 : Int32)) ((1 : Int32)) ((-1 : Int64)) ((-3 : Int64)) ((j0_8 q0 q2 q3 q4)) ((-11 : Int64)) ((-13 : Int64)) ((j0_9 q0 q2 q3 q4)) k1700 k1764 h2270 n0 Z2270 f2271 f2272 (by decide)) hZ (own_m hw 86 rfl) (own_m hw 7 rfl) (by decide) (by decide)) (g := (mkF m 423 L_2307 [(.int (1 : Int32)), (.int (3 : Int32)), (.int (1 : Int32)), (.ref b1764), (.ref b1700)])) rfl (by rw [hml]; rfl) (argsL := [(.ref b1700), (.ref b1764), (.int (1 : Int32)), (.int (3 : Int32)), (.int (1 : Int32))]) (rest := []) (lenOf pd_11 rfl) rfl (by show 2 * 0 + _ ≤ _; exact Nat.le_of_eq rfl) (hb hby at_423) (fun _ _ => ⟨rfl, e2300, (by decide : 17 + 0 ≤ _), (by decide : 133 + 0 ≤ _)⟩)
              dsimp only [Pt.U, Pt.locs, Pt.cells, Pt.slots] at X2314 l2314 y2314 z2314 st2314 hQ2314
              subst l2314 y2314 z2314
              obtain ⟨rfl, N2314q, e2314⟩ := hQ2314
              have N2314 := Fr.app N2300 N2314q
              have pre2315 := fun (t : State) (k : Steps p.tables e below (T2314.setTop (mkF m 434 L_2307 [(.int (1 : Int32))])) t) => pre2309 t (by
                show Steps p.tables e below (T2300.setTop (mkF m 411 L_2307 [(.int (j0_10 q0 q2 q3 q4))])) _
                refine XS.ifNo X2300.here hx rfl (hb hby at_411) rfl ((if0 _ _).trans (feq hc2311).1) ?_
                refine XS.aload X2300.here hx rfl (hb hby at_414) rfl rfl ?_
                refine XS.aload X2300.here hx rfl (hb hby at_416) rfl rfl ?_
                refine XS.iconst X2300.here hx rfl (hb hby at_418) ?_
                refine XS.iload X2300.here hx rfl (hb hby at_419) rfl ?_
                refine XS.iload X2300.here hx rfl (hb hby at_421) rfl ?_
                show Steps p.tables e below (T2300.setTop (mkF m 423 L_2307 [(.int (1 : Int32)), (.int (3 : Int32)), (.int (1 : Int32)), (.ref b1764), (.ref b1700)])) _
                refine st2314 _ ?_
                refine XS.ifNo X2314.here hx rfl (hb hby at_426) rfl ((if0 _ _).trans (feq (by decide : ¬ ((1 : Int32) = (0 : Int32)))).1) ?_
                refine XS.iconst X2314.here hx rfl (hb hby at_429) ?_
                refine XS.goto X2314.here hx rfl (pc0 := 430) (pc' := 434) rfl (hb hby at_430) (by decide) (by decide) ?_
                exact k)
              have hj2316 : (j0_11 q0 q2 q3 q4) = (1 : Int32) := by unfold j0_11; first | (rw [if_neg hc2311]) | (simp only [if_neg hc2311])
              exact ⟨T2314, _, X2314, e2314, N2314, fun t k => pre2315 t (by rw [hj2316] at k; exact k)⟩
          let L_2317 : Array Slot := #[.val (.long q0), .second, .val (.long q1), .second, .val (.long q2), .second, .val (.long q3), .second, .val (.long q4), .second, .val (.long q5), .second, .val (.int (1 : Int32)), .val (.int (own_Nn q2 q3)), .val (.int ((j0_2 q4) + (j0_3 q5))), .val (.int (3 : Int32)), .val (.long (own_c q0)), .second, .val (.long (own_c q1)), .second, .val (.long (own_z q2 q0)), .second, .val (.long (own_z q3 q1)), .second, .val (.long (own_z q4 q0)), .second, .val (.long (own_z q5 q1)), .second, .val (.ref b1649), .val (.ref b1652), .val (.ref b1658), .val (.ref b1700), .val (.ref b1764), .val (.ref b1839), .val (.int (j0_11 q0 q2 q3 q4))]
          have pre2319 := fun (t : State) (k : Steps p.tables e below (T2310.setTop (mkF m 438 L_2317 [(.int (j0_11 q0 q2 q3 q4))])) t) => pre2310 t (by
            show Steps p.tables e below (T2310.setTop (mkF m 434 L_2307 [(.int (j0_11 q0 q2 q3 q4))])) _
            refine XS.istore X2310.here hx rfl (hb hby at_434) rfl (l' := L_2317) rfl ?_
            refine XS.iload X2310.here hx rfl (hb hby at_436) rfl ?_
            exact k)
          obtain ⟨T2320, L2320, X2320, e2320, N2320, pre2320⟩ : ∃ (T2320 : State) (L2320 : List Loc), Stand p l e room_1 (s.setVm vm2025) m #[(.long q0), (.long q1), (.long q2), (.long q3), (.long q4), (.long q5)] below meth c T2320 L2320 17 133 ∧ T2320.heap = h2270 ∧ Fr n0 L2320 ∧ ∀ t, Steps p.tables e below (T2320.setTop (mkF m 461 L_2317 [(.int (j0_12 q0 q2 q3 q4))])) t → Steps p.tables e below (s₁.setTop (entryFrame m #[(.long q0), (.long q1), (.long q2), (.long q3), (.long q4), (.long q5)] maxLocals)) t := by
            by_cases hc2321 : (j0_11 q0 q2 q3 q4) = (0 : Int32)
            · skip
              have pre2322 := fun (t : State) (k : Steps p.tables e below (T2310.setTop (mkF m 461 L_2317 [(.int (0 : Int32))])) t) => pre2319 t (by
                show Steps p.tables e below (T2310.setTop (mkF m 438 L_2317 [(.int (j0_11 q0 q2 q3 q4))])) _
                refine XS.ifYes X2310.here hx rfl (pc0 := 438) (pc' := 460) rfl (hb hby at_438) rfl ((if0 _ _).trans (teq hc2321).1) (by decide) (by decide) ?_
                refine XS.iconst X2310.here hx rfl (hb hby at_460) ?_
                exact k)
              have hj2323 : (j0_12 q0 q2 q3 q4) = (0 : Int32) := by unfold j0_12; first | (rw [if_pos hc2321]) | (simp only [if_pos hc2321])
              exact ⟨T2310, _, X2310, e2310, N2310, fun t k => pre2322 t (by rw [hj2323] at k; exact k)⟩
            · skip
              obtain ⟨_, _, ⟨T2324, L2324, k2324, n2324⟩, -, X2324, ⟨Lc2324, hQ2324, l2324, y2324, z2324⟩, st2324⟩ := Jvm.LawKit.callS X2310 hx (y := (⟨"com/example/stowline/stowline/VolumeBoundCopyTotalsPinLaw", "untouched", "([J[JIII)Z"⟩ : MethodName)) hown (mvT hZ (own_m hw 84 rfl)) (mvT hZ (own_m hw 85 rfl)) (mvT hZ (own_m hw 7 rfl)) (mvT hZ (own_m hw 86 rfl)) (by decide) (backOf (W := 0) (rm12_lo2 l Z aw hw [] b1700 b1764 ((3 : Int32)) ((1 : Int32)) ((-1 : Int64)) ((-2 : Int64)) ((j0_8 q0 q2 q3 q4)) ((-11 : Int64)) ((-12 : Int64)) ((j0_9 q0 q2 q3 q4)) k1700 k1764 h2270 n0 Z2270 f2271 f2272 (by decide)) hZ (own_m hw 86 rfl) (own_m hw 7 rfl) (by decide) (by decide)) (g := (mkF m 450 L_2317 [(.int (1 : Int32)), (.int (3 : Int32)), (.int (2 : Int32)), (.ref b1764), (.ref b1700)])) rfl (by rw [hml]; rfl) (argsL := [(.ref b1700), (.ref b1764), (.int (2 : Int32)), (.int (3 : Int32)), (.int (1 : Int32))]) (rest := []) (lenOf pd_11 rfl) rfl (by show 2 * 0 + _ ≤ _; exact Nat.le_of_eq rfl) (hb hby at_450) (fun _ _ => ⟨rfl, e2310, (by decide : 17 + 0 ≤ _), (by decide : 133 + 0 ≤ _)⟩)
              dsimp only [Pt.U, Pt.locs, Pt.cells, Pt.slots] at X2324 l2324 y2324 z2324 st2324 hQ2324
              subst l2324 y2324 z2324
              obtain ⟨rfl, N2324q, e2324⟩ := hQ2324
              have N2324 := Fr.app N2310 N2324q
              have pre2325 := fun (t : State) (k : Steps p.tables e below (T2324.setTop (mkF m 461 L_2317 [(.int (1 : Int32))])) t) => pre2319 t (by
                show Steps p.tables e below (T2310.setTop (mkF m 438 L_2317 [(.int (j0_11 q0 q2 q3 q4))])) _
                refine XS.ifNo X2310.here hx rfl (hb hby at_438) rfl ((if0 _ _).trans (feq hc2321).1) ?_
                refine XS.aload X2310.here hx rfl (hb hby at_441) rfl rfl ?_
                refine XS.aload X2310.here hx rfl (hb hby at_443) rfl rfl ?_
                refine XS.iconst X2310.here hx rfl (hb hby at_445) ?_
                refine XS.iload X2310.here hx rfl (hb hby at_446) rfl ?_
                refine XS.iload X2310.here hx rfl (hb hby at_448) rfl ?_
                show Steps p.tables e below (T2310.setTop (mkF m 450 L_2317 [(.int (1 : Int32)), (.int (3 : Int32)), (.int (2 : Int32)), (.ref b1764), (.ref b1700)])) _
                refine st2324 _ ?_
                refine XS.ifNo X2324.here hx rfl (hb hby at_453) rfl ((if0 _ _).trans (feq (by decide : ¬ ((1 : Int32) = (0 : Int32)))).1) ?_
                refine XS.iconst X2324.here hx rfl (hb hby at_456) ?_
                refine XS.goto X2324.here hx rfl (pc0 := 457) (pc' := 461) rfl (hb hby at_457) (by decide) (by decide) ?_
                exact k)
              have hj2326 : (j0_12 q0 q2 q3 q4) = (1 : Int32) := by unfold j0_12; first | (rw [if_neg hc2321]) | (simp only [if_neg hc2321])
              exact ⟨T2324, _, X2324, e2324, N2324, fun t k => pre2325 t (by rw [hj2326] at k; exact k)⟩
          let L_2327 : Array Slot := #[.val (.long q0), .second, .val (.long q1), .second, .val (.long q2), .second, .val (.long q3), .second, .val (.long q4), .second, .val (.long q5), .second, .val (.int (1 : Int32)), .val (.int (own_Nn q2 q3)), .val (.int ((j0_2 q4) + (j0_3 q5))), .val (.int (3 : Int32)), .val (.long (own_c q0)), .second, .val (.long (own_c q1)), .second, .val (.long (own_z q2 q0)), .second, .val (.long (own_z q3 q1)), .second, .val (.long (own_z q4 q0)), .second, .val (.long (own_z q5 q1)), .second, .val (.ref b1649), .val (.ref b1652), .val (.ref b1658), .val (.ref b1700), .val (.ref b1764), .val (.ref b1839), .val (.int (j0_12 q0 q2 q3 q4))]
          have pre2329 := fun (t : State) (k : Steps p.tables e below (T2320.setTop (mkF m 465 L_2327 [(.int (j0_12 q0 q2 q3 q4))])) t) => pre2320 t (by
            show Steps p.tables e below (T2320.setTop (mkF m 461 L_2317 [(.int (j0_12 q0 q2 q3 q4))])) _
            refine XS.istore X2320.here hx rfl (hb hby at_461) rfl (l' := L_2327) rfl ?_
            refine XS.iload X2320.here hx rfl (hb hby at_463) rfl ?_
            exact k)
          obtain ⟨T2330, L2330, X2330, e2330, N2330, pre2330⟩ : ∃ (T2330 : State) (L2330 : List Loc), Stand p l e room_1 (s.setVm vm2025) m #[(.long q0), (.long q1), (.long q2), (.long q3), (.long q4), (.long q5)] below meth c T2330 L2330 17 133 ∧ T2330.heap = h2270 ∧ Fr n0 L2330 ∧ ∀ t, Steps p.tables e below (T2330.setTop (mkF m 488 L_2327 [(.int (j0_13 q0 q2 q3 q4))])) t → Steps p.tables e below (s₁.setTop (entryFrame m #[(.long q0), (.long q1), (.long q2), (.long q3), (.long q4), (.long q5)] maxLocals)) t := by
            by_cases hc2331 : (j0_12 q0 q2 q3 q4) = (0 : Int32)
            · skip
              have pre2332 := fun (t : State) (k : Steps p.tables e below (T2320.setTop (mkF m 488 L_2327 [(.int (0 : Int32))])) t) => pre2329 t (by
                show Steps p.tables e below (T2320.setTop (mkF m 465 L_2327 [(.int (j0_12 q0 q2 q3 q4))])) _
                refine XS.ifYes X2320.here hx rfl (pc0 := 465) (pc' := 487) rfl (hb hby at_465) rfl ((if0 _ _).trans (teq hc2331).1) (by decide) (by decide) ?_
                refine XS.iconst X2320.here hx rfl (hb hby at_487) ?_
                exact k)
              have hj2333 : (j0_13 q0 q2 q3 q4) = (0 : Int32) := by unfold j0_13; first | (rw [if_pos hc2331]) | (simp only [if_pos hc2331])
              exact ⟨T2320, _, X2320, e2320, N2320, fun t k => pre2332 t (by rw [hj2333] at k; exact k)⟩
            · skip
              obtain ⟨_, _, ⟨T2334, L2334, k2334, n2334⟩, -, X2334, ⟨Lc2334, hQ2334, l2334, y2334, z2334⟩, st2334⟩ := Jvm.LawKit.callS X2320 hx (y := (⟨"com/example/stowline/stowline/VolumeBoundCopyTotalsPinLaw", "untouched", "([J[JIII)Z"⟩ : MethodName)) hown (mvT hZ (own_m hw 84 rfl)) (mvT hZ (own_m hw 85 rfl)) (mvT hZ (own_m hw 7 rfl)) (mvT hZ (own_m hw 86 rfl)) (by decide) (backOf (W := 0) (rm12_in l Z aw hw [] b1700 b1764 ((3 : Int32)) ((3 : Int32)) ((1 : Int32)) h2270 n0 Z2270 (by decide) (by decide)) hZ (own_m hw 86 rfl) (own_m hw 7 rfl) (by decide) (by decide)) (g := (mkF m 477 L_2327 [(.int (1 : Int32)), (.int (3 : Int32)), (.int (3 : Int32)), (.ref b1764), (.ref b1700)])) rfl (by rw [hml]; rfl) (argsL := [(.ref b1700), (.ref b1764), (.int (3 : Int32)), (.int (3 : Int32)), (.int (1 : Int32))]) (rest := []) (lenOf pd_11 rfl) rfl (by show 2 * 0 + _ ≤ _; exact Nat.le_of_eq rfl) (hb hby at_477) (fun _ _ => ⟨rfl, e2320, (by decide : 17 + 0 ≤ _), (by decide : 133 + 0 ≤ _)⟩)
              dsimp only [Pt.U, Pt.locs, Pt.cells, Pt.slots] at X2334 l2334 y2334 z2334 st2334 hQ2334
              subst l2334 y2334 z2334
              obtain ⟨rfl, N2334q, e2334⟩ := hQ2334
              have N2334 := Fr.app N2320 N2334q
              have pre2335 := fun (t : State) (k : Steps p.tables e below (T2334.setTop (mkF m 488 L_2327 [(.int (1 : Int32))])) t) => pre2329 t (by
                show Steps p.tables e below (T2320.setTop (mkF m 465 L_2327 [(.int (j0_12 q0 q2 q3 q4))])) _
                refine XS.ifNo X2320.here hx rfl (hb hby at_465) rfl ((if0 _ _).trans (feq hc2331).1) ?_
                refine XS.aload X2320.here hx rfl (hb hby at_468) rfl rfl ?_
                refine XS.aload X2320.here hx rfl (hb hby at_470) rfl rfl ?_
                refine XS.iconst X2320.here hx rfl (hb hby at_472) ?_
                refine XS.iload X2320.here hx rfl (hb hby at_473) rfl ?_
                refine XS.iload X2320.here hx rfl (hb hby at_475) rfl ?_
                show Steps p.tables e below (T2320.setTop (mkF m 477 L_2327 [(.int (1 : Int32)), (.int (3 : Int32)), (.int (3 : Int32)), (.ref b1764), (.ref b1700)])) _
                refine st2334 _ ?_
                refine XS.ifNo X2334.here hx rfl (hb hby at_480) rfl ((if0 _ _).trans (feq (by decide : ¬ ((1 : Int32) = (0 : Int32)))).1) ?_
                refine XS.iconst X2334.here hx rfl (hb hby at_483) ?_
                refine XS.goto X2334.here hx rfl (pc0 := 484) (pc' := 488) rfl (hb hby at_484) (by decide) (by decide) ?_
                exact k)
              have hj2336 : (j0_13 q0 q2 q3 q4) = (1 : Int32) := by unfold j0_13; first | (rw [if_neg hc2331]) | (simp only [if_neg hc2331])
              exact ⟨T2334, _, X2334, e2334, N2334, fun t k => pre2335 t (by rw [hj2336] at k; exact k)⟩
          let L_2337 : Array Slot := #[.val (.long q0), .second, .val (.long q1), .second, .val (.long q2), .second, .val (.long q3), .second, .val (.long q4), .second, .val (.long q5), .second, .val (.int (1 : Int32)), .val (.int (own_Nn q2 q3)), .val (.int ((j0_2 q4) + (j0_3 q5))), .val (.int (3 : Int32)), .val (.long (own_c q0)), .second, .val (.long (own_c q1)), .second, .val (.long (own_z q2 q0)), .second, .val (.long (own_z q3 q1)), .second, .val (.long (own_z q4 q0)), .second, .val (.long (own_z q5 q1)), .second, .val (.ref b1649), .val (.ref b1652), .val (.ref b1658), .val (.ref b1700), .val (.ref b1764), .val (.ref b1839), .val (.int (j0_13 q0 q2 q3 q4))]
          obtain ⟨fs, hr, hrun, hended, hRW⟩ := X2330.leaveW hS (own_hk hk e2330) (v := some (.int (nar .boolean (j0_13 q0 q2 q3 q4)))) (fun h => by rw [Bd.returns] at h; cases h)
          refine ⟨_, _, pre2330 _ ?_, hrun, hended, _, _, rfl, ?_, hRW.1, hRW.2.1, hRW.2.2.1, hRW.2.2.2.mono (by decide) (by decide)⟩
          · skip
            show Steps p.tables e below (T2330.setTop (mkF m 488 L_2327 [(.int (j0_13 q0 q2 q3 q4))])) _
            refine XS.istore X2330.here hx rfl (hb hby at_488) rfl (l' := L_2337) rfl ?_
            refine XS.iload X2330.here hx rfl (hb hby at_490) rfl ?_
            show Steps p.tables e below (T2330.setTop (mkF m 492 L_2337 [(.int (j0_13 q0 q2 q3 q4))])) _
            exact retN X2330 hx (t := .boolean) Bd.returns (by simp) (hb hby at_492) hr
          · show Q0 Z q0 q1 q2 q3 q4 q5 h0 n0 _ T2330.heap _
            rw [e2330]
            have hv : (nar .boolean (j0_13 q0 q2 q3 q4)) = (v0 q0 q1 q2 q3 q4 q5) := by unfold v0; first | (rw [if_pos hc1604, if_neg hs2054, if_neg hs2125, if_neg hs2196]) | (simp only [if_pos hc1604, if_neg hs2054, if_neg hs2125, if_neg hs2196])
            exact ⟨(by rw [← hv]), N2330⟩
  · skip
    let L_2338 : Array Slot := #[.val (.long q0), .second, .val (.long q1), .second, .val (.long q2), .second, .val (.long q3), .second, .val (.long q4), .second, .val (.long q5), .second, .val (.int (2 : Int32)), .unset, .unset, .unset, .unset, .unset, .unset, .unset, .unset, .unset, .unset, .unset, .unset, .unset, .unset, .unset, .unset, .unset, .unset, .unset, .unset, .unset, .unset]
    have pre2339 := fun (t : State) (k : Steps p.tables e below (s₁.setTop (mkF m 17 L_2338 [(.int (lcmpW q2 (0 : Int64)))])) t) => pre1605 t (by
      show Steps p.tables e below (s₁.setTop (mkF m 3 L_1603 [(.int (lcmpW q1 (0 : Int64)))])) _
      refine XS.ifYes X0.here hx rfl (pc0 := 3) (pc' := 10) rfl (hb hby at_3) rfl ((if0 _ _).trans (flt (mt (own_lt q1 (0 : Int64)).mp hc1604)).2.1) (by decide) (by decide) ?_
      refine XS.iconst X0.here hx rfl (hb hby at_10) ?_
      refine XS.istore X0.here hx rfl (hb hby at_11) rfl (l' := L_2338) rfl ?_
      refine XS.lload X0.here hx rfl (hb hby at_13) rfl ?_
      refine XS.lconst X0.here hx rfl (hb hby at_15) ?_
      refine XS.lcmp X0.here hx rfl (hb hby at_16) rfl ?_
      exact k)
    have pre2340 := fun (t : State) (k : Steps p.tables e below (s₁.setTop (mkF m 25 L_2338 [(.int (j0_0 q2))])) t) => pre2339 t (by
      by_cases hc2341 : q2 < (0 : Int64)
      · skip
        show Steps p.tables e below (s₁.setTop (mkF m 17 L_2338 [(.int (lcmpW q2 (0 : Int64)))])) _
        refine XS.ifNo X0.here hx rfl (hb hby at_17) rfl ((if0 _ _).trans (tlt ((own_lt q2 (0 : Int64)).mpr hc2341)).2.1) ?_
        refine XS.iconst X0.here hx rfl (hb hby at_20) ?_
        refine XS.goto X0.here hx rfl (pc0 := 21) (pc' := 25) rfl (hb hby at_21) (by decide) (by decide) ?_
        have hj2342 : (j0_0 q2) = (1 : Int32) := by unfold j0_0; first | (rw [if_pos hc2341]) | (simp only [if_pos hc2341])
        rw [hj2342] at k
        exact k
      · skip
        show Steps p.tables e below (s₁.setTop (mkF m 17 L_2338 [(.int (lcmpW q2 (0 : Int64)))])) _
        refine XS.ifYes X0.here hx rfl (pc0 := 17) (pc' := 24) rfl (hb hby at_17) rfl ((if0 _ _).trans (flt (mt (own_lt q2 (0 : Int64)).mp hc2341)).2.1) (by decide) (by decide) ?_
        refine XS.iconst X0.here hx rfl (hb hby at_24) ?_
        have hj2343 : (j0_0 q2) = (0 : Int32) := by unfold j0_0; first | (rw [if_neg hc2341]) | (simp only [if_neg hc2341])
        rw [hj2343] at k
        exact k)
    have pre2344 := fun (t : State) (k : Steps p.tables e below (s₁.setTop (mkF m 29 L_2338 [(.int (lcmpW q3 (0 : Int64))), (.int (j0_0 q2))])) t) => pre2340 t (by
      show Steps p.tables e below (s₁.setTop (mkF m 25 L_2338 [(.int (j0_0 q2))])) _
      refine XS.lload X0.here hx rfl (hb hby at_25) rfl ?_
      refine XS.lconst X0.here hx rfl (hb hby at_27) ?_
      refine XS.lcmp X0.here hx rfl (hb hby at_28) rfl ?_
      exact k)
    have pre2345 := fun (t : State) (k : Steps p.tables e below (s₁.setTop (mkF m 37 L_2338 [(.int (j0_1 q3)), (.int (j0_0 q2))])) t) => pre2344 t (by
      by_cases hc2346 : q3 < (0 : Int64)
      · skip
        show Steps p.tables e below (s₁.setTop (mkF m 29 L_2338 [(.int (lcmpW q3 (0 : Int64))), (.int (j0_0 q2))])) _
        refine XS.ifNo X0.here hx rfl (hb hby at_29) rfl ((if0 _ _).trans (tlt ((own_lt q3 (0 : Int64)).mpr hc2346)).2.1) ?_
        refine XS.iconst X0.here hx rfl (hb hby at_32) ?_
        refine XS.goto X0.here hx rfl (pc0 := 33) (pc' := 37) rfl (hb hby at_33) (by decide) (by decide) ?_
        have hj2347 : (j0_1 q3) = (2 : Int32) := by unfold j0_1; first | (rw [if_pos hc2346]) | (simp only [if_pos hc2346])
        rw [hj2347] at k
        exact k
      · skip
        show Steps p.tables e below (s₁.setTop (mkF m 29 L_2338 [(.int (lcmpW q3 (0 : Int64))), (.int (j0_0 q2))])) _
        refine XS.ifYes X0.here hx rfl (pc0 := 29) (pc' := 36) rfl (hb hby at_29) rfl ((if0 _ _).trans (flt (mt (own_lt q3 (0 : Int64)).mp hc2346)).2.1) (by decide) (by decide) ?_
        refine XS.iconst X0.here hx rfl (hb hby at_36) ?_
        have hj2348 : (j0_1 q3) = (0 : Int32) := by unfold j0_1; first | (rw [if_neg hc2346]) | (simp only [if_neg hc2346])
        rw [hj2348] at k
        exact k)
    let L_2349 : Array Slot := #[.val (.long q0), .second, .val (.long q1), .second, .val (.long q2), .second, .val (.long q3), .second, .val (.long q4), .second, .val (.long q5), .second, .val (.int (2 : Int32)), .val (.int ((j0_0 q2) + (j0_1 q3))), .unset, .unset, .unset, .unset, .unset, .unset, .unset, .unset, .unset, .unset, .unset, .unset, .unset, .unset, .unset, .unset, .unset, .unset, .unset, .unset, .unset]
    let L_2350 : Array Slot := #[.val (.long q0), .second, .val (.long q1), .second, .val (.long q2), .second, .val (.long q3), .second, .val (.long q4), .second, .val (.long q5), .second, .val (.int (2 : Int32)), .val (.int (own_Nn q2 q3)), .unset, .unset, .unset, .unset, .unset, .unset, .unset, .unset, .unset, .unset, .unset, .unset, .unset, .unset, .unset, .unset, .unset, .unset, .unset, .unset, .unset]
    have pre2351 := fun (t : State) (k : Steps p.tables e below (s₁.setTop (mkF m 44 L_2350 [(.int (lcmpW q4 (0 : Int64)))])) t) => pre2345 t (by
      show Steps p.tables e below (s₁.setTop (mkF m 37 L_2338 [(.int (j0_1 q3)), (.int (j0_0 q2))])) _
      refine XS.iadd X0.here hx rfl (hb hby at_37) rfl ?_
      refine XS.istore X0.here hx rfl (hb hby at_38) rfl (l' := L_2349) rfl ?_
      refine XS.lload X0.here hx rfl (hb hby at_40) rfl ?_
      refine XS.lconst X0.here hx rfl (hb hby at_42) ?_
      refine XS.lcmp X0.here hx rfl (hb hby at_43) rfl ?_
      exact k)
    have pre2352 := fun (t : State) (k : Steps p.tables e below (s₁.setTop (mkF m 52 L_2350 [(.int (j0_2 q4))])) t) => pre2351 t (by
      by_cases hc2353 : q4 < (0 : Int64)
      · skip
        show Steps p.tables e below (s₁.setTop (mkF m 44 L_2350 [(.int (lcmpW q4 (0 : Int64)))])) _
        refine XS.ifNo X0.here hx rfl (hb hby at_44) rfl ((if0 _ _).trans (tlt ((own_lt q4 (0 : Int64)).mpr hc2353)).2.1) ?_
        refine XS.iconst X0.here hx rfl (hb hby at_47) ?_
        refine XS.goto X0.here hx rfl (pc0 := 48) (pc' := 52) rfl (hb hby at_48) (by decide) (by decide) ?_
        have hj2354 : (j0_2 q4) = (1 : Int32) := by unfold j0_2; first | (rw [if_pos hc2353]) | (simp only [if_pos hc2353])
        rw [hj2354] at k
        exact k
      · skip
        show Steps p.tables e below (s₁.setTop (mkF m 44 L_2350 [(.int (lcmpW q4 (0 : Int64)))])) _
        refine XS.ifYes X0.here hx rfl (pc0 := 44) (pc' := 51) rfl (hb hby at_44) rfl ((if0 _ _).trans (flt (mt (own_lt q4 (0 : Int64)).mp hc2353)).2.1) (by decide) (by decide) ?_
        refine XS.iconst X0.here hx rfl (hb hby at_51) ?_
        have hj2355 : (j0_2 q4) = (0 : Int32) := by unfold j0_2; first | (rw [if_neg hc2353]) | (simp only [if_neg hc2353])
        rw [hj2355] at k
        exact k)
    have pre2356 := fun (t : State) (k : Steps p.tables e below (s₁.setTop (mkF m 56 L_2350 [(.int (lcmpW q5 (0 : Int64))), (.int (j0_2 q4))])) t) => pre2352 t (by
      show Steps p.tables e below (s₁.setTop (mkF m 52 L_2350 [(.int (j0_2 q4))])) _
      refine XS.lload X0.here hx rfl (hb hby at_52) rfl ?_
      refine XS.lconst X0.here hx rfl (hb hby at_54) ?_
      refine XS.lcmp X0.here hx rfl (hb hby at_55) rfl ?_
      exact k)
    have pre2357 := fun (t : State) (k : Steps p.tables e below (s₁.setTop (mkF m 64 L_2350 [(.int (j0_3 q5)), (.int (j0_2 q4))])) t) => pre2356 t (by
      by_cases hc2358 : q5 < (0 : Int64)
      · skip
        show Steps p.tables e below (s₁.setTop (mkF m 56 L_2350 [(.int (lcmpW q5 (0 : Int64))), (.int (j0_2 q4))])) _
        refine XS.ifNo X0.here hx rfl (hb hby at_56) rfl ((if0 _ _).trans (tlt ((own_lt q5 (0 : Int64)).mpr hc2358)).2.1) ?_
        refine XS.iconst X0.here hx rfl (hb hby at_59) ?_
        refine XS.goto X0.here hx rfl (pc0 := 60) (pc' := 64) rfl (hb hby at_60) (by decide) (by decide) ?_
        have hj2359 : (j0_3 q5) = (2 : Int32) := by unfold j0_3; first | (rw [if_pos hc2358]) | (simp only [if_pos hc2358])
        rw [hj2359] at k
        exact k
      · skip
        show Steps p.tables e below (s₁.setTop (mkF m 56 L_2350 [(.int (lcmpW q5 (0 : Int64))), (.int (j0_2 q4))])) _
        refine XS.ifYes X0.here hx rfl (pc0 := 56) (pc' := 63) rfl (hb hby at_56) rfl ((if0 _ _).trans (flt (mt (own_lt q5 (0 : Int64)).mp hc2358)).2.1) (by decide) (by decide) ?_
        refine XS.iconst X0.here hx rfl (hb hby at_63) ?_
        have hj2360 : (j0_3 q5) = (0 : Int32) := by unfold j0_3; first | (rw [if_neg hc2358]) | (simp only [if_neg hc2358])
        rw [hj2360] at k
        exact k)
    let L_2361 : Array Slot := #[.val (.long q0), .second, .val (.long q1), .second, .val (.long q2), .second, .val (.long q3), .second, .val (.long q4), .second, .val (.long q5), .second, .val (.int (2 : Int32)), .val (.int (own_Nn q2 q3)), .val (.int ((j0_2 q4) + (j0_3 q5))), .unset, .unset, .unset, .unset, .unset, .unset, .unset, .unset, .unset, .unset, .unset, .unset, .unset, .unset, .unset, .unset, .unset, .unset, .unset, .unset]
    let L_2362 : Array Slot := #[.val (.long q0), .second, .val (.long q1), .second, .val (.long q2), .second, .val (.long q3), .second, .val (.long q4), .second, .val (.long q5), .second, .val (.int (2 : Int32)), .val (.int (own_Nn q2 q3)), .val (.int ((j0_2 q4) + (j0_3 q5))), .val (.int (((j0_2 q4) + (j0_3 q5)) % (3 : Int32))), .unset, .unset, .unset, .unset, .unset, .unset, .unset, .unset, .unset, .unset, .unset, .unset, .unset, .unset, .unset, .unset, .unset, .unset, .unset]
    obtain ⟨_, _, ⟨T2363, L2363, k2363, n2363⟩, -, X2363, ⟨Lc2363, hQ2363, l2363, y2363, z2363⟩, st2363⟩ := Jvm.LawKit.callS X0 hx (y := (⟨"java/lang/Math", "max", "(JJ)J"⟩ : MethodName)) hown (mvT hZ (own_m hw 1 rfl)) (mvT hZ (own_m hw 2 rfl)) (mvT hZ (own_m hw 3 rfl)) (mvT hZ (own_m hw 4 rfl)) (by decide) (backOf (W := 0) (rm1 l Z aw hw [] ((1 : Int64)) ((q0 &&& (9223372036854775807 : Int64))) h0 n0 Z0 ) hZ (own_m hw 4 rfl) (own_m hw 3 rfl) (by decide) (by decide)) (g := (mkF m 82 L_2362 [(.long (q0 &&& (9223372036854775807 : Int64))), (.long (1 : Int64))])) rfl (by rw [hml]; rfl) (argsL := [(.long (1 : Int64)), (.long (q0 &&& (9223372036854775807 : Int64)))]) (rest := []) (lenOf pd_8 rfl) rfl (by show 2 * 0 + _ ≤ _; exact Nat.le_of_eq rfl) (hb hby at_82) (fun _ _ => ⟨rfl, e0, (by decide : 0 + 0 ≤ _), (by decide : 0 + 0 ≤ _)⟩)
    dsimp only [Pt.U, Pt.locs, Pt.cells, Pt.slots] at X2363 l2363 y2363 z2363 st2363 hQ2363
    subst l2363 y2363 z2363
    obtain ⟨rfl, N2363q, e2363⟩ := hQ2363
    have N2363 := Fr.app N0 N2363q
    let L_2364 : Array Slot := #[.val (.long q0), .second, .val (.long q1), .second, .val (.long q2), .second, .val (.long q3), .second, .val (.long q4), .second, .val (.long q5), .second, .val (.int (2 : Int32)), .val (.int (own_Nn q2 q3)), .val (.int ((j0_2 q4) + (j0_3 q5))), .val (.int (((j0_2 q4) + (j0_3 q5)) % (3 : Int32))), .val (.long (j1_0 (1 : Int64) (q0 &&& (9223372036854775807 : Int64)))), .second, .unset, .unset, .unset, .unset, .unset, .unset, .unset, .unset, .unset, .unset, .unset, .unset, .unset, .unset, .unset, .unset, .unset]
    let L_2365 : Array Slot := #[.val (.long q0), .second, .val (.long q1), .second, .val (.long q2), .second, .val (.long q3), .second, .val (.long q4), .second, .val (.long q5), .second, .val (.int (2 : Int32)), .val (.int (own_Nn q2 q3)), .val (.int ((j0_2 q4) + (j0_3 q5))), .val (.int (((j0_2 q4) + (j0_3 q5)) % (3 : Int32))), .val (.long (own_c q0)), .second, .unset, .unset, .unset, .unset, .unset, .unset, .unset, .unset, .unset, .unset, .unset, .unset, .unset, .unset, .unset, .unset, .unset]
    obtain ⟨_, _, ⟨T2366, L2366, k2366, n2366⟩, -, X2366, ⟨Lc2366, hQ2366, l2366, y2366, z2366⟩, st2366⟩ := Jvm.LawKit.callS X2363 hx (y := (⟨"java/lang/Math", "max", "(JJ)J"⟩ : MethodName)) hown (mvT hZ (own_m hw 1 rfl)) (mvT hZ (own_m hw 2 rfl)) (mvT hZ (own_m hw 3 rfl)) (mvT hZ (own_m hw 4 rfl)) (by decide) (backOf (W := 0) (rm1 l Z aw hw [] ((1 : Int64)) ((q1 &&& (9223372036854775807 : Int64))) h0 n0 Z0 ) hZ (own_m hw 4 rfl) (own_m hw 3 rfl) (by decide) (by decide)) (g := (mkF m 93 L_2365 [(.long (q1 &&& (9223372036854775807 : Int64))), (.long (1 : Int64))])) rfl (by rw [hml]; rfl) (argsL := [(.long (1 : Int64)), (.long (q1 &&& (9223372036854775807 : Int64)))]) (rest := []) (lenOf pd_8 rfl) rfl (by show 2 * 0 + _ ≤ _; exact Nat.le_of_eq rfl) (hb hby at_93) (fun _ _ => ⟨rfl, e2363, (by decide : 0 + 0 ≤ _), (by decide : 0 + 0 ≤ _)⟩)
    dsimp only [Pt.U, Pt.locs, Pt.cells, Pt.slots] at X2366 l2366 y2366 z2366 st2366 hQ2366
    subst l2366 y2366 z2366
    obtain ⟨rfl, N2366q, e2366⟩ := hQ2366
    have N2366 := Fr.app N2363 N2366q
    let L_2367 : Array Slot := #[.val (.long q0), .second, .val (.long q1), .second, .val (.long q2), .second, .val (.long q3), .second, .val (.long q4), .second, .val (.long q5), .second, .val (.int (2 : Int32)), .val (.int (own_Nn q2 q3)), .val (.int ((j0_2 q4) + (j0_3 q5))), .val (.int (((j0_2 q4) + (j0_3 q5)) % (3 : Int32))), .val (.long (own_c q0)), .second, .val (.long (j1_0 (1 : Int64) (q1 &&& (9223372036854775807 : Int64)))), .second, .unset, .unset, .unset, .unset, .unset, .unset, .unset, .unset, .unset, .unset, .unset, .unset, .unset, .unset, .unset]
    let L_2368 : Array Slot := #[.val (.long q0), .second, .val (.long q1), .second, .val (.long q2), .second, .val (.long q3), .second, .val (.long q4), .second, .val (.long q5), .second, .val (.int (2 : Int32)), .val (.int (own_Nn q2 q3)), .val (.int ((j0_2 q4) + (j0_3 q5))), .val (.int (((j0_2 q4) + (j0_3 q5)) % (3 : Int32))), .val (.long (own_c q0)), .second, .val (.long (own_c q1)), .second, .unset, .unset, .unset, .unset, .unset, .unset, .unset, .unset, .unset, .unset, .unset, .unset, .unset, .unset, .unset]
    obtain ⟨_, _, ⟨T2369, L2369, k2369, n2369⟩, -, X2369, ⟨Lc2369, hQ2369, l2369, y2369, z2369⟩, st2369⟩ := Jvm.LawKit.callS X2366 hx (y := (⟨"com/example/stowline/stowline/VolumeBoundCopyTotalsPinLaw", "size", "(JJ)J"⟩ : MethodName)) hown (mvT hZ (own_m hw 5 rfl)) (mvT hZ (own_m hw 6 rfl)) (mvT hZ (own_m hw 7 rfl)) (mvT hZ (own_m hw 8 rfl)) (by decide) (backOf (W := 0) (rm2 l Z aw hw [] q2 ((own_c q0)) h0 n0 Z0 (own_p1 _ (own_cp q0))) hZ (own_m hw 8 rfl) (own_m hw 7 rfl) (by decide) (by decide)) (g := (mkF m 102 L_2368 [(.long (own_c q0)), (.long q2)])) rfl (by rw [hml]; rfl) (argsL := [(.long q2), (.long (own_c q0))]) (rest := []) (lenOf pd_8 rfl) rfl (by show 2 * 0 + _ ≤ _; exact Nat.le_of_eq rfl) (hb hby at_102) (fun _ _ => ⟨rfl, e2366, (by decide : 0 + 0 ≤ _), (by decide : 0 + 0 ≤ _)⟩)
    dsimp only [Pt.U, Pt.locs, Pt.cells, Pt.slots] at X2369 l2369 y2369 z2369 st2369 hQ2369
    subst l2369 y2369 z2369
    obtain ⟨rfl, N2369q, e2369⟩ := hQ2369
    have N2369 := Fr.app N2366 N2369q
    let L_2370 : Array Slot := #[.val (.long q0), .second, .val (.long q1), .second, .val (.long q2), .second, .val (.long q3), .second, .val (.long q4), .second, .val (.long q5), .second, .val (.int (2 : Int32)), .val (.int (own_Nn q2 q3)), .val (.int ((j0_2 q4) + (j0_3 q5))), .val (.int (((j0_2 q4) + (j0_3 q5)) % (3 : Int32))), .val (.long (own_c q0)), .second, .val (.long (own_c q1)), .second, .val (.long (v2 q2 (own_c q0))), .second, .unset, .unset, .unset, .unset, .unset, .unset, .unset, .unset, .unset, .unset, .unset, .unset, .unset]
    let L_2371 : Array Slot := #[.val (.long q0), .second, .val (.long q1), .second, .val (.long q2), .second, .val (.long q3), .second, .val (.long q4), .second, .val (.long q5), .second, .val (.int (2 : Int32)), .val (.int (own_Nn q2 q3)), .val (.int ((j0_2 q4) + (j0_3 q5))), .val (.int (((j0_2 q4) + (j0_3 q5)) % (3 : Int32))), .val (.long (own_c q0)), .second, .val (.long (own_c q1)), .second, .val (.long (own_z q2 q0)), .second, .unset, .unset, .unset, .unset, .unset, .unset, .unset, .unset, .unset, .unset, .unset, .unset, .unset]
    obtain ⟨_, _, ⟨T2372, L2372, k2372, n2372⟩, -, X2372, ⟨Lc2372, hQ2372, l2372, y2372, z2372⟩, st2372⟩ := Jvm.LawKit.callS X2369 hx (y := (⟨"com/example/stowline/stowline/VolumeBoundCopyTotalsPinLaw", "size", "(JJ)J"⟩ : MethodName)) hown (mvT hZ (own_m hw 5 rfl)) (mvT hZ (own_m hw 6 rfl)) (mvT hZ (own_m hw 7 rfl)) (mvT hZ (own_m hw 8 rfl)) (by decide) (backOf (W := 0) (rm2 l Z aw hw [] q3 ((own_c q1)) h0 n0 Z0 (own_p1 _ (own_cp q1))) hZ (own_m hw 8 rfl) (own_m hw 7 rfl) (by decide) (by decide)) (g := (mkF m 111 L_2371 [(.long (own_c q1)), (.long q3)])) rfl (by rw [hml]; rfl) (argsL := [(.long q3), (.long (own_c q1))]) (rest := []) (lenOf pd_8 rfl) rfl (by show 2 * 0 + _ ≤ _; exact Nat.le_of_eq rfl) (hb hby at_111) (fun _ _ => ⟨rfl, e2369, (by decide : 0 + 0 ≤ _), (by decide : 0 + 0 ≤ _)⟩)
    dsimp only [Pt.U, Pt.locs, Pt.cells, Pt.slots] at X2372 l2372 y2372 z2372 st2372 hQ2372
    subst l2372 y2372 z2372
    obtain ⟨rfl, N2372q, e2372⟩ := hQ2372
    have N2372 := Fr.app N2369 N2372q
    let L_2373 : Array Slot := #[.val (.long q0), .second, .val (.long q1), .second, .val (.long q2), .second, .val (.long q3), .second, .val (.long q4), .second, .val (.long q5), .second, .val (.int (2 : Int32)), .val (.int (own_Nn q2 q3)), .val (.int ((j0_2 q4) + (j0_3 q5))), .val (.int (((j0_2 q4) + (j0_3 q5)) % (3 : Int32))), .val (.long (own_c q0)), .second, .val (.long (own_c q1)), .second, .val (.long (own_z q2 q0)), .second, .val (.long (v2 q3 (own_c q1))), .second, .unset, .unset, .unset, .unset, .unset, .unset, .unset, .unset, .unset, .unset, .unset]
    let L_2374 : Array Slot := #[.val (.long q0), .second, .val (.long q1), .second, .val (.long q2), .second, .val (.long q3), .second, .val (.long q4), .second, .val (.long q5), .second, .val (.int (2 : Int32)), .val (.int (own_Nn q2 q3)), .val (.int ((j0_2 q4) + (j0_3 q5))), .val (.int (((j0_2 q4) + (j0_3 q5)) % (3 : Int32))), .val (.long (own_c q0)), .second, .val (.long (own_c q1)), .second, .val (.long (own_z q2 q0)), .second, .val (.long (own_z q3 q1)), .second, .unset, .unset, .unset, .unset, .unset, .unset, .unset, .unset, .unset, .unset, .unset]
    obtain ⟨_, _, ⟨T2375, L2375, k2375, n2375⟩, -, X2375, ⟨Lc2375, hQ2375, l2375, y2375, z2375⟩, st2375⟩ := Jvm.LawKit.callS X2372 hx (y := (⟨"com/example/stowline/stowline/VolumeBoundCopyTotalsPinLaw", "size", "(JJ)J"⟩ : MethodName)) hown (mvT hZ (own_m hw 5 rfl)) (mvT hZ (own_m hw 6 rfl)) (mvT hZ (own_m hw 7 rfl)) (mvT hZ (own_m hw 8 rfl)) (by decide) (backOf (W := 0) (rm2 l Z aw hw [] q4 ((own_c q0)) h0 n0 Z0 (own_p1 _ (own_cp q0))) hZ (own_m hw 8 rfl) (own_m hw 7 rfl) (by decide) (by decide)) (g := (mkF m 120 L_2374 [(.long (own_c q0)), (.long q4)])) rfl (by rw [hml]; rfl) (argsL := [(.long q4), (.long (own_c q0))]) (rest := []) (lenOf pd_8 rfl) rfl (by show 2 * 0 + _ ≤ _; exact Nat.le_of_eq rfl) (hb hby at_120) (fun _ _ => ⟨rfl, e2372, (by decide : 0 + 0 ≤ _), (by decide : 0 + 0 ≤ _)⟩)
    dsimp only [Pt.U, Pt.locs, Pt.cells, Pt.slots] at X2375 l2375 y2375 z2375 st2375 hQ2375
    subst l2375 y2375 z2375
    obtain ⟨rfl, N2375q, e2375⟩ := hQ2375
    have N2375 := Fr.app N2372 N2375q
    let L_2376 : Array Slot := #[.val (.long q0), .second, .val (.long q1), .second, .val (.long q2), .second, .val (.long q3), .second, .val (.long q4), .second, .val (.long q5), .second, .val (.int (2 : Int32)), .val (.int (own_Nn q2 q3)), .val (.int ((j0_2 q4) + (j0_3 q5))), .val (.int (((j0_2 q4) + (j0_3 q5)) % (3 : Int32))), .val (.long (own_c q0)), .second, .val (.long (own_c q1)), .second, .val (.long (own_z q2 q0)), .second, .val (.long (own_z q3 q1)), .second, .val (.long (v2 q4 (own_c q0))), .second, .unset, .unset, .unset, .unset, .unset, .unset, .unset, .unset, .unset]
    let L_2377 : Array Slot := #[.val (.long q0), .second, .val (.long q1), .second, .val (.long q2), .second, .val (.long q3), .second, .val (.long q4), .second, .val (.long q5), .second, .val (.int (2 : Int32)), .val (.int (own_Nn q2 q3)), .val (.int ((j0_2 q4) + (j0_3 q5))), .val (.int (((j0_2 q4) + (j0_3 q5)) % (3 : Int32))), .val (.long (own_c q0)), .second, .val (.long (own_c q1)), .second, .val (.long (own_z q2 q0)), .second, .val (.long (own_z q3 q1)), .second, .val (.long (own_z q4 q0)), .second, .unset, .unset, .unset, .unset, .unset, .unset, .unset, .unset, .unset]
    obtain ⟨_, _, ⟨T2378, L2378, k2378, n2378⟩, -, X2378, ⟨Lc2378, hQ2378, l2378, y2378, z2378⟩, st2378⟩ := Jvm.LawKit.callS X2375 hx (y := (⟨"com/example/stowline/stowline/VolumeBoundCopyTotalsPinLaw", "size", "(JJ)J"⟩ : MethodName)) hown (mvT hZ (own_m hw 5 rfl)) (mvT hZ (own_m hw 6 rfl)) (mvT hZ (own_m hw 7 rfl)) (mvT hZ (own_m hw 8 rfl)) (by decide) (backOf (W := 0) (rm2 l Z aw hw [] q5 ((own_c q1)) h0 n0 Z0 (own_p1 _ (own_cp q1))) hZ (own_m hw 8 rfl) (own_m hw 7 rfl) (by decide) (by decide)) (g := (mkF m 129 L_2377 [(.long (own_c q1)), (.long q5)])) rfl (by rw [hml]; rfl) (argsL := [(.long q5), (.long (own_c q1))]) (rest := []) (lenOf pd_8 rfl) rfl (by show 2 * 0 + _ ≤ _; exact Nat.le_of_eq rfl) (hb hby at_129) (fun _ _ => ⟨rfl, e2375, (by decide : 0 + 0 ≤ _), (by decide : 0 + 0 ≤ _)⟩)
    dsimp only [Pt.U, Pt.locs, Pt.cells, Pt.slots] at X2378 l2378 y2378 z2378 st2378 hQ2378
    subst l2378 y2378 z2378
    obtain ⟨rfl, N2378q, e2378⟩ := hQ2378
    have N2378 := Fr.app N2375 N2378q
    let L_2379 : Array Slot := #[.val (.long q0), .second, .val (.long q1), .second, .val (.long q2), .second, .val (.long q3), .second, .val (.long q4), .second, .val (.long q5), .second, .val (.int (2 : Int32)), .val (.int (own_Nn q2 q3)), .val (.int ((j0_2 q4) + (j0_3 q5))), .val (.int (((j0_2 q4) + (j0_3 q5)) % (3 : Int32))), .val (.long (own_c q0)), .second, .val (.long (own_c q1)), .second, .val (.long (own_z q2 q0)), .second, .val (.long (own_z q3 q1)), .second, .val (.long (own_z q4 q0)), .second, .val (.long (v2 q5 (own_c q1))), .second, .unset, .unset, .unset, .unset, .unset, .unset, .unset]
    let L_2380 : Array Slot := #[.val (.long q0), .second, .val (.long q1), .second, .val (.long q2), .second, .val (.long q3), .second, .val (.long q4), .second, .val (.long q5), .second, .val (.int (2 : Int32)), .val (.int (own_Nn q2 q3)), .val (.int ((j0_2 q4) + (j0_3 q5))), .val (.int (((j0_2 q4) + (j0_3 q5)) % (3 : Int32))), .val (.long (own_c q0)), .second, .val (.long (own_c q1)), .second, .val (.long (own_z q2 q0)), .second, .val (.long (own_z q3 q1)), .second, .val (.long (own_z q4 q0)), .second, .val (.long (own_z q5 q1)), .second, .unset, .unset, .unset, .unset, .unset, .unset, .unset]
    obtain ⟨T2381, h2381, k2381, X2381, e2381, E2381, A2381, B2381, st2381⟩ := newPE X2378 hx hZ (own_m hw 9 rfl) e2378 (g := (mkF m 136 L_2380 [(.int (2 : Int32))])) rfl (hb hby at_136) rfl (by decide) (cap := 2) (by decide) (by decide) (by decide) (by decide) (ad := "[J") (by decide)
    obtain ⟨b2381, gg2381⟩ : ∃ z, z = h0.size := ⟨_, rfl⟩
    rw [← gg2381] at A2381 B2381 st2381
    have g_b2381 : n0 ≤ b2381 := Nat.le_trans Z0 (Nat.le_of_eq gg2381.symm)
    have Z2382 := Nat.le_trans Z0 E2381.1
    have hk := Nat.le_trans hk E2381.1
    have V2381 : Arv Z h2381 b2381 k2381 .long (2 : Int32) [(.long (0 : Int64)), (.long (0 : Int64))] (.long (0 : Int64)) := (Arv.new A2381 (by decide)).pad (pad_rep [] (.long (0 : Int64)) 2)
    let L_2383 : Array Slot := #[.val (.long q0), .second, .val (.long q1), .second, .val (.long q2), .second, .val (.long q3), .second, .val (.long q4), .second, .val (.long q5), .second, .val (.int (2 : Int32)), .val (.int (own_Nn q2 q3)), .val (.int ((j0_2 q4) + (j0_3 q5))), .val (.int (((j0_2 q4) + (j0_3 q5)) % (3 : Int32))), .val (.long (own_c q0)), .second, .val (.long (own_c q1)), .second, .val (.long (own_z q2 q0)), .second, .val (.long (own_z q3 q1)), .second, .val (.long (own_z q4 q0)), .second, .val (.long (own_z q5 q1)), .second, .val (.ref b2381), .unset, .unset, .unset, .unset, .unset, .unset]
    obtain ⟨T2384, h2384, k2384, X2384, e2384, E2384, A2384, B2384, st2384⟩ := newPE X2381 hx hZ (own_m hw 9 rfl) e2381 (g := (mkF m 142 L_2383 [(.int (2 : Int32))])) rfl (hb hby at_142) rfl (by decide) (cap := 2) (by decide) (by decide) (by decide) (by decide) (ad := "[J") (by decide)
    obtain ⟨b2384, gg2384⟩ : ∃ z, z = h2381.size := ⟨_, rfl⟩
    rw [← gg2384] at A2384 B2384 st2384
    have f2385 := B2381.ext E2384
    have f2386 := V2381.ext E2384
    have ne2387 : b2381 ≠ b2384 := Nat.ne_of_lt (Nat.lt_of_lt_of_le B2381.lt (Nat.le_of_eq gg2384.symm))
    have g_b2384 : n0 ≤ b2384 := Nat.le_trans Z2382 (Nat.le_of_eq gg2384.symm)
    have Z2388 := Nat.le_trans Z2382 E2384.1
    have hk := Nat.le_trans hk E2384.1
    have V2384 : Arv Z h2384 b2384 k2384 .long (2 : Int32) [(.long (0 : Int64)), (.long (0 : Int64))] (.long (0 : Int64)) := (Arv.new A2384 (by decide)).pad (pad_rep [] (.long (0 : Int64)) 2)
    let L_2389 : Array Slot := #[.val (.long q0), .second, .val (.long q1), .second, .val (.long q2), .second, .val (.long q3), .second, .val (.long q4), .second, .val (.long q5), .second, .val (.int (2 : Int32)), .val (.int (own_Nn q2 q3)), .val (.int ((j0_2 q4) + (j0_3 q5))), .val (.int (((j0_2 q4) + (j0_3 q5)) % (3 : Int32))), .val (.long (own_c q0)), .second, .val (.long (own_c q1)), .second, .val (.long (own_z q2 q0)), .second, .val (.long (own_z q3 q1)), .second, .val (.long (own_z q4 q0)), .second, .val (.long (own_z q5 q1)), .second, .val (.ref b2381), .val (.ref b2384), .unset, .unset, .unset, .unset, .unset]
    obtain ⟨T2390, h2390, k2390, X2390, e2390, E2390, A2390, B2390, st2390⟩ := newPE X2384 hx hZ (own_m hw 9 rfl) e2384 (g := (mkF m 148 L_2389 [(.int (2 : Int32))])) rfl (hb hby at_148) rfl (by decide) (cap := 2) (by decide) (by decide) (by decide) (by decide) (ad := "[J") (by decide)
    obtain ⟨b2390, gg2390⟩ : ∃ z, z = h2384.size := ⟨_, rfl⟩
    rw [← gg2390] at A2390 B2390 st2390
    have f2391 := f2385.ext E2390
    have f2392 := f2386.ext E2390
    have f2393 := B2384.ext E2390
    have f2394 := V2384.ext E2390
    have ne2395 : b2381 ≠ b2390 := Nat.ne_of_lt (Nat.lt_of_lt_of_le f2385.lt (Nat.le_of_eq gg2390.symm))
    have ne2396 : b2384 ≠ b2390 := Nat.ne_of_lt (Nat.lt_of_lt_of_le B2384.lt (Nat.le_of_eq gg2390.symm))
    have g_b2390 : n0 ≤ b2390 := Nat.le_trans Z2388 (Nat.le_of_eq gg2390.symm)
    have Z2397 := Nat.le_trans Z2388 E2390.1
    have hk := Nat.le_trans hk E2390.1
    have V2390 : Arv Z h2390 b2390 k2390 .long (2 : Int32) [(.long (0 : Int64)), (.long (0 : Int64))] (.long (0 : Int64)) := (Arv.new A2390 (by decide)).pad (pad_rep [] (.long (0 : Int64)) 2)
    let L_2398 : Array Slot := #[.val (.long q0), .second, .val (.long q1), .second, .val (.long q2), .second, .val (.long q3), .second, .val (.long q4), .second, .val (.long q5), .second, .val (.int (2 : Int32)), .val (.int (own_Nn q2 q3)), .val (.int ((j0_2 q4) + (j0_3 q5))), .val (.int (((j0_2 q4) + (j0_3 q5)) % (3 : Int32))), .val (.long (own_c q0)), .second, .val (.long (own_c q1)), .second, .val (.long (own_z q2 q0)), .second, .val (.long (own_z q3 q1)), .second, .val (.long (own_z q4 q0)), .second, .val (.long (own_z q5 q1)), .second, .val (.ref b2381), .val (.ref b2384), .val (.ref b2390), .unset, .unset, .unset, .unset]
    obtain ⟨cl2399, Ar2399, q2399, S2399, M2399, H2399, G2399⟩ := id f2392
    have hin2400 : ¬ ((0 : Int32) < 0 ∨ cl2399.slots.size ≤ ((0 : Int32)).toNatClampNeg) := inb_of S2399 ⟨by decide, by decide⟩
    obtain ⟨T2401, h2401, X2401, e2401, W2401, st2401⟩ := stJ X2390 hx hZ e2390 Ar2399 (j := (0 : Int32)) hin2400 (g := (mkF m 157 L_2398 [(.long (own_c q0)), (.int (0 : Int32)), (.ref b2381)])) rfl rfl (hb hby at_157)
    have V2401 : Arv Z h2401 b2381 k2381 .long (2 : Int32) [(.long (own_c q0)), (.long (0 : Int64))] (.long (0 : Int64)) := Arv.set Ar2399 q2399 S2399 M2399 H2399 G2399 rfl W2401 0 rfl (Nat.le_of_ble_eq_true rfl)
    have f2402 := f2391.wr W2401
    have f2404 := f2393.wr W2401
    have f2405 := f2394.other W2401 (Ne.symm ne2387)
    have f2406 := B2390.wr W2401
    have f2407 := V2390.other W2401 (Ne.symm ne2395)
    have Z2408 := Nat.le_trans Z2397 (Keep.of_wr W2401).1
    have hk := Nat.le_trans hk (Keep.of_wr W2401).1
    have N2409 := Fr.snoc X2401 N2378 g_b2381
    obtain ⟨cl2410, Ar2410, q2410, S2410, M2410, H2410, G2410⟩ := id f2405
    have hin2411 : ¬ ((0 : Int32) < 0 ∨ cl2410.slots.size ≤ ((0 : Int32)).toNatClampNeg) := inb_of S2410 ⟨by decide, by decide⟩
    obtain ⟨T2412, h2412, X2412, e2412, W2412, st2412⟩ := stJ X2401 hx hZ e2401 Ar2410 (j := (0 : Int32)) hin2411 (g := (mkF m 163 L_2398 [(.long (own_z q2 q0)), (.int (0 : Int32)), (.ref b2384)])) rfl rfl (hb hby at_163)
    have V2412 : Arv Z h2412 b2384 k2384 .long (2 : Int32) [(.long (own_z q2 q0)), (.long (0 : Int64))] (.long (0 : Int64)) := Arv.set Ar2410 q2410 S2410 M2410 H2410 G2410 rfl W2412 0 rfl (Nat.le_of_ble_eq_true rfl)
    have f2413 := f2402.wr W2412
    have f2414 := V2401.other W2412 ne2387
    have f2415 := f2404.wr W2412
    have f2417 := f2406.wr W2412
    have f2418 := f2407.other W2412 (Ne.symm ne2396)
    have Z2419 := Nat.le_trans Z2408 (Keep.of_wr W2412).1
    have hk := Nat.le_trans hk (Keep.of_wr W2412).1
    have N2420 := Fr.snoc X2412 N2409 g_b2384
    obtain ⟨cl2421, Ar2421, q2421, S2421, M2421, H2421, G2421⟩ := id f2418
    have hin2422 : ¬ ((0 : Int32) < 0 ∨ cl2421.slots.size ≤ ((0 : Int32)).toNatClampNeg) := inb_of S2421 ⟨by decide, by decide⟩
    obtain ⟨T2423, h2423, X2423, e2423, W2423, st2423⟩ := stJ X2412 hx hZ e2412 Ar2421 (j := (0 : Int32)) hin2422 (g := (mkF m 169 L_2398 [(.long (own_z q4 q0)), (.int (0 : Int32)), (.ref b2390)])) rfl rfl (hb hby at_169)
    have V2423 : Arv Z h2423 b2390 k2390 .long (2 : Int32) [(.long (own_z q4 q0)), (.long (0 : Int64))] (.long (0 : Int64)) := Arv.set Ar2421 q2421 S2421 M2421 H2421 G2421 rfl W2423 0 rfl (Nat.le_of_ble_eq_true rfl)
    have f2424 := f2413.wr W2423
    have f2425 := f2414.other W2423 ne2395
    have f2426 := f2415.wr W2423
    have f2427 := V2412.other W2423 ne2396
    have f2428 := f2417.wr W2423
    have Z2430 := Nat.le_trans Z2419 (Keep.of_wr W2423).1
    have hk := Nat.le_trans hk (Keep.of_wr W2423).1
    have N2431 := Fr.snoc X2423 N2420 g_b2390
    obtain ⟨cl2432, Ar2432, q2432, S2432, M2432, H2432, G2432⟩ := id f2425
    have hin2433 : ¬ ((1 : Int32) < 0 ∨ cl2432.slots.size ≤ ((1 : Int32)).toNatClampNeg) := inb_of S2432 ⟨by decide, by decide⟩
    obtain ⟨T2434, h2434, X2434, e2434, W2434, st2434⟩ := stJ X2423 hx hZ e2423 Ar2432 (j := (1 : Int32)) hin2433 (g := (mkF m 181 L_2398 [(.long (own_c q1)), (.int (1 : Int32)), (.ref b2381)])) rfl rfl (hb hby at_181)
    have V2434 : Arv Z h2434 b2381 k2381 .long (2 : Int32) [(.long (own_c q0)), (.long (own_c q1))] (.long (0 : Int64)) := Arv.set Ar2432 q2432 S2432 M2432 H2432 G2432 rfl W2434 1 rfl (Nat.le_of_ble_eq_true rfl)
    have f2435 := f2424.wr W2434
    have f2437 := f2426.wr W2434
    have f2438 := f2427.other W2434 (Ne.symm ne2387)
    have f2439 := f2428.wr W2434
    have f2440 := V2423.other W2434 (Ne.symm ne2395)
    have Z2441 := Nat.le_trans Z2430 (Keep.of_wr W2434).1
    have hk := Nat.le_trans hk (Keep.of_wr W2434).1
    have N2442 := Fr.snoc X2434 N2431 g_b2381
    obtain ⟨cl2443, Ar2443, q2443, S2443, M2443, H2443, G2443⟩ := id f2438
    have hin2444 : ¬ ((1 : Int32) < 0 ∨ cl2443.slots.size ≤ ((1 : Int32)).toNatClampNeg) := inb_of S2443 ⟨by decide, by decide⟩
    obtain ⟨T2445, h2445, X2445, e2445, W2445, st2445⟩ := stJ X2434 hx hZ e2434 Ar2443 (j := (1 : Int32)) hin2444 (g := (mkF m 187 L_2398 [(.long (own_z q3 q1)), (.int (1 : Int32)), (.ref b2384)])) rfl rfl (hb hby at_187)
    have V2445 : Arv Z h2445 b2384 k2384 .long (2 : Int32) [(.long (own_z q2 q0)), (.long (own_z q3 q1))] (.long (0 : Int64)) := Arv.set Ar2443 q2443 S2443 M2443 H2443 G2443 rfl W2445 1 rfl (Nat.le_of_ble_eq_true rfl)
    have f2446 := f2435.wr W2445
    have f2447 := V2434.other W2445 ne2387
    have f2448 := f2437.wr W2445
    have f2450 := f2439.wr W2445
    have f2451 := f2440.other W2445 (Ne.symm ne2396)
    have Z2452 := Nat.le_trans Z2441 (Keep.of_wr W2445).1
    have hk := Nat.le_trans hk (Keep.of_wr W2445).1
    have N2453 := Fr.snoc X2445 N2442 g_b2384
    obtain ⟨cl2454, Ar2454, q2454, S2454, M2454, H2454, G2454⟩ := id f2451
    have hin2455 : ¬ ((1 : Int32) < 0 ∨ cl2454.slots.size ≤ ((1 : Int32)).toNatClampNeg) := inb_of S2454 ⟨by decide, by decide⟩
    obtain ⟨T2456, h2456, X2456, e2456, W2456, st2456⟩ := stJ X2445 hx hZ e2445 Ar2454 (j := (1 : Int32)) hin2455 (g := (mkF m 193 L_2398 [(.long (own_z q5 q1)), (.int (1 : Int32)), (.ref b2390)])) rfl rfl (hb hby at_193)
    have V2456 : Arv Z h2456 b2390 k2390 .long (2 : Int32) [(.long (own_z q4 q0)), (.long (own_z q5 q1))] (.long (0 : Int64)) := Arv.set Ar2454 q2454 S2454 M2454 H2454 G2454 rfl W2456 1 rfl (Nat.le_of_ble_eq_true rfl)
    have f2457 := f2446.wr W2456
    have f2458 := f2447.other W2456 ne2395
    have f2459 := f2448.wr W2456
    have f2460 := V2445.other W2456 ne2396
    have f2461 := f2450.wr W2456
    have Z2463 := Nat.le_trans Z2452 (Keep.of_wr W2456).1
    have hk := Nat.le_trans hk (Keep.of_wr W2456).1
    have N2464 := Fr.snoc X2456 N2453 g_b2390
    obtain ⟨T2465, h2465, k2465, X2465, e2465, E2465, A2465, B2465, st2465⟩ := newPE X2456 hx hZ (own_m hw 9 rfl) e2456 (g := (mkF m 195 L_2398 [(.int (4 : Int32))])) rfl (hb hby at_195) rfl (by decide) (cap := 4) (by decide) (by decide) (by decide) (by decide) (ad := "[J") (by decide)
    obtain ⟨b2465, gg2465⟩ : ∃ z, z = h2456.size := ⟨_, rfl⟩
    rw [← gg2465] at A2465 B2465 st2465
    have f2466 := f2457.ext E2465
    have f2467 := f2458.ext E2465
    have f2468 := f2459.ext E2465
    have f2469 := f2460.ext E2465
    have f2470 := f2461.ext E2465
    have f2471 := V2456.ext E2465
    have ne2472 : b2381 ≠ b2465 := Nat.ne_of_lt (Nat.lt_of_lt_of_le f2457.lt (Nat.le_of_eq gg2465.symm))
    have ne2473 : b2384 ≠ b2465 := Nat.ne_of_lt (Nat.lt_of_lt_of_le f2459.lt (Nat.le_of_eq gg2465.symm))
    have ne2474 : b2390 ≠ b2465 := Nat.ne_of_lt (Nat.lt_of_lt_of_le f2461.lt (Nat.le_of_eq gg2465.symm))
    have g_b2465 : n0 ≤ b2465 := Nat.le_trans Z2463 (Nat.le_of_eq gg2465.symm)
    have Z2475 := Nat.le_trans Z2463 E2465.1
    have hk := Nat.le_trans hk E2465.1
    have V2465 : Arv Z h2465 b2465 k2465 .long (4 : Int32) [(.long (0 : Int64)), (.long (0 : Int64)), (.long (0 : Int64)), (.long (0 : Int64))] (.long (0 : Int64)) := (Arv.new A2465 (by decide)).pad (pad_rep [] (.long (0 : Int64)) 4)
    obtain ⟨cl2476, Ar2476, q2476, S2476, M2476, H2476, G2476⟩ := id V2465
    have hin2477 : ¬ ((0 : Int32) < 0 ∨ cl2476.slots.size ≤ ((0 : Int32)).toNatClampNeg) := inb_of S2476 ⟨by decide, by decide⟩
    obtain ⟨T2478, h2478, X2478, e2478, W2478, st2478⟩ := stJ X2465 hx hZ e2465 Ar2476 (j := (0 : Int32)) hin2477 (g := (mkF m 202 L_2398 [(.long (-1 : Int64)), (.int (0 : Int32)), (.ref b2465), (.ref b2465)])) rfl rfl (hb hby at_202)
    have V2478 : Arv Z h2478 b2465 k2465 .long (4 : Int32) [(.long (-1 : Int64)), (.long (0 : Int64)), (.long (0 : Int64)), (.long (0 : Int64))] (.long (0 : Int64)) := Arv.set Ar2476 q2476 S2476 M2476 H2476 G2476 rfl W2478 0 rfl (Nat.le_of_ble_eq_true rfl)
    have f2479 := f2466.wr W2478
    have f2480 := f2467.other W2478 ne2472
    have f2481 := f2468.wr W2478
    have f2482 := f2469.other W2478 ne2473
    have f2483 := f2470.wr W2478
    have f2484 := f2471.other W2478 ne2474
    have f2485 := B2465.wr W2478
    have Z2487 := Nat.le_trans Z2475 (Keep.of_wr W2478).1
    have hk := Nat.le_trans hk (Keep.of_wr W2478).1
    have N2488 := Fr.snoc X2478 N2464 g_b2465
    obtain ⟨cl2489, Ar2489, q2489, S2489, M2489, H2489, G2489⟩ := id V2478
    have hin2490 : ¬ ((1 : Int32) < 0 ∨ cl2489.slots.size ≤ ((1 : Int32)).toNatClampNeg) := inb_of S2489 ⟨by decide, by decide⟩
    obtain ⟨T2491, h2491, X2491, e2491, W2491, st2491⟩ := stJ X2478 hx hZ e2478 Ar2489 (j := (1 : Int32)) hin2490 (g := (mkF m 208 L_2398 [(.long (-2 : Int64)), (.int (1 : Int32)), (.ref b2465), (.ref b2465)])) rfl rfl (hb hby at_208)
    have V2491 : Arv Z h2491 b2465 k2465 .long (4 : Int32) [(.long (-1 : Int64)), (.long (-2 : Int64)), (.long (0 : Int64)), (.long (0 : Int64))] (.long (0 : Int64)) := Arv.set Ar2489 q2489 S2489 M2489 H2489 G2489 rfl W2491 1 rfl (Nat.le_of_ble_eq_true rfl)
    have f2492 := f2479.wr W2491
    have f2493 := f2480.other W2491 ne2472
    have f2494 := f2481.wr W2491
    have f2495 := f2482.other W2491 ne2473
    have f2496 := f2483.wr W2491
    have f2497 := f2484.other W2491 ne2474
    have f2498 := f2485.wr W2491
    have Z2500 := Nat.le_trans Z2487 (Keep.of_wr W2491).1
    have hk := Nat.le_trans hk (Keep.of_wr W2491).1
    have N2501 := Fr.snoc X2491 N2488 g_b2465
    obtain ⟨cl2502, Ar2502, q2502, S2502, M2502, H2502, G2502⟩ := id V2491
    have hin2503 : ¬ ((2 : Int32) < 0 ∨ cl2502.slots.size ≤ ((2 : Int32)).toNatClampNeg) := inb_of S2502 ⟨by decide, by decide⟩
    obtain ⟨T2504, h2504, X2504, e2504, W2504, st2504⟩ := stJ X2491 hx hZ e2491 Ar2502 (j := (2 : Int32)) hin2503 (g := (mkF m 214 L_2398 [(.long (-3 : Int64)), (.int (2 : Int32)), (.ref b2465), (.ref b2465)])) rfl rfl (hb hby at_214)
    have V2504 : Arv Z h2504 b2465 k2465 .long (4 : Int32) [(.long (-1 : Int64)), (.long (-2 : Int64)), (.long (-3 : Int64)), (.long (0 : Int64))] (.long (0 : Int64)) := Arv.set Ar2502 q2502 S2502 M2502 H2502 G2502 rfl W2504 2 rfl (Nat.le_of_ble_eq_true rfl)
    have f2505 := f2492.wr W2504
    have f2506 := f2493.other W2504 ne2472
    have f2507 := f2494.wr W2504
    have f2508 := f2495.other W2504 ne2473
    have f2509 := f2496.wr W2504
    have f2510 := f2497.other W2504 ne2474
    have f2511 := f2498.wr W2504
    have Z2513 := Nat.le_trans Z2500 (Keep.of_wr W2504).1
    have hk := Nat.le_trans hk (Keep.of_wr W2504).1
    have N2514 := Fr.snoc X2504 N2501 g_b2465
    obtain ⟨cl2515, Ar2515, q2515, S2515, M2515, H2515, G2515⟩ := id V2504
    have hin2516 : ¬ ((3 : Int32) < 0 ∨ cl2515.slots.size ≤ ((3 : Int32)).toNatClampNeg) := inb_of S2515 ⟨by decide, by decide⟩
    obtain ⟨T2517, h2517, X2517, e2517, W2517, st2517⟩ := stJ X2504 hx hZ e2504 Ar2515 (j := (3 : Int32)) hin2516 (g := (mkF m 220 L_2398 [(.long (-4 : Int64)), (.int (3 : Int32)), (.ref b2465), (.ref b2465)])) rfl rfl (hb hby at_220)
    have V2517 : Arv Z h2517 b2465 k2465 .long (4 : Int32) [(.long (-1 : Int64)), (.long (-2 : Int64)), (.long (-3 : Int64)), (.long (-4 : Int64))] (.long (0 : Int64)) := Arv.set Ar2515 q2515 S2515 M2515 H2515 G2515 rfl W2517 3 rfl (Nat.le_of_ble_eq_true rfl)
    have f2518 := f2505.wr W2517
    have f2519 := f2506.other W2517 ne2472
    have f2520 := f2507.wr W2517
    have f2521 := f2508.other W2517 ne2473
    have f2522 := f2509.wr W2517
    have f2523 := f2510.other W2517 ne2474
    have f2524 := f2511.wr W2517
    have Z2526 := Nat.le_trans Z2513 (Keep.of_wr W2517).1
    have hk := Nat.le_trans hk (Keep.of_wr W2517).1
    have N2527 := Fr.snoc X2517 N2514 g_b2465
    let L_2528 : Array Slot := #[.val (.long q0), .second, .val (.long q1), .second, .val (.long q2), .second, .val (.long q3), .second, .val (.long q4), .second, .val (.long q5), .second, .val (.int (2 : Int32)), .val (.int (own_Nn q2 q3)), .val (.int ((j0_2 q4) + (j0_3 q5))), .val (.int (((j0_2 q4) + (j0_3 q5)) % (3 : Int32))), .val (.long (own_c q0)), .second, .val (.long (own_c q1)), .second, .val (.long (own_z q2 q0)), .second, .val (.long (own_z q3 q1)), .second, .val (.long (own_z q4 q0)), .second, .val (.long (own_z q5 q1)), .second, .val (.ref b2381), .val (.ref b2384), .val (.ref b2390), .val (.ref b2465), .unset, .unset, .unset]
    obtain ⟨T2529, h2529, k2529, X2529, e2529, E2529, A2529, B2529, st2529⟩ := newPE X2517 hx hZ (own_m hw 9 rfl) e2517 (g := (mkF m 224 L_2528 [(.int (4 : Int32))])) rfl (hb hby at_224) rfl (by decide) (cap := 4) (by decide) (by decide) (by decide) (by decide) (ad := "[J") (by decide)
    obtain ⟨b2529, gg2529⟩ : ∃ z, z = h2517.size := ⟨_, rfl⟩
    rw [← gg2529] at A2529 B2529 st2529
    have f2530 := f2518.ext E2529
    have f2531 := f2519.ext E2529
    have f2532 := f2520.ext E2529
    have f2533 := f2521.ext E2529
    have f2534 := f2522.ext E2529
    have f2535 := f2523.ext E2529
    have f2536 := f2524.ext E2529
    have f2537 := V2517.ext E2529
    have ne2538 : b2381 ≠ b2529 := Nat.ne_of_lt (Nat.lt_of_lt_of_le f2518.lt (Nat.le_of_eq gg2529.symm))
    have ne2539 : b2384 ≠ b2529 := Nat.ne_of_lt (Nat.lt_of_lt_of_le f2520.lt (Nat.le_of_eq gg2529.symm))
    have ne2540 : b2390 ≠ b2529 := Nat.ne_of_lt (Nat.lt_of_lt_of_le f2522.lt (Nat.le_of_eq gg2529.symm))
    have ne2541 : b2465 ≠ b2529 := Nat.ne_of_lt (Nat.lt_of_lt_of_le f2524.lt (Nat.le_of_eq gg2529.symm))
    have g_b2529 : n0 ≤ b2529 := Nat.le_trans Z2526 (Nat.le_of_eq gg2529.symm)
    have Z2542 := Nat.le_trans Z2526 E2529.1
    have hk := Nat.le_trans hk E2529.1
    have V2529 : Arv Z h2529 b2529 k2529 .long (4 : Int32) [(.long (0 : Int64)), (.long (0 : Int64)), (.long (0 : Int64)), (.long (0 : Int64))] (.long (0 : Int64)) := (Arv.new A2529 (by decide)).pad (pad_rep [] (.long (0 : Int64)) 4)
    obtain ⟨cl2543, Ar2543, q2543, S2543, M2543, H2543, G2543⟩ := id V2529
    have hin2544 : ¬ ((0 : Int32) < 0 ∨ cl2543.slots.size ≤ ((0 : Int32)).toNatClampNeg) := inb_of S2543 ⟨by decide, by decide⟩
    obtain ⟨T2545, h2545, X2545, e2545, W2545, st2545⟩ := stJ X2529 hx hZ e2529 Ar2543 (j := (0 : Int32)) hin2544 (g := (mkF m 231 L_2528 [(.long (-11 : Int64)), (.int (0 : Int32)), (.ref b2529), (.ref b2529)])) rfl rfl (hb hby at_231)
    have V2545 : Arv Z h2545 b2529 k2529 .long (4 : Int32) [(.long (-11 : Int64)), (.long (0 : Int64)), (.long (0 : Int64)), (.long (0 : Int64))] (.long (0 : Int64)) := Arv.set Ar2543 q2543 S2543 M2543 H2543 G2543 rfl W2545 0 rfl (Nat.le_of_ble_eq_true rfl)
    have f2546 := f2530.wr W2545
    have f2547 := f2531.other W2545 ne2538
    have f2548 := f2532.wr W2545
    have f2549 := f2533.other W2545 ne2539
    have f2550 := f2534.wr W2545
    have f2551 := f2535.other W2545 ne2540
    have f2552 := f2536.wr W2545
    have f2553 := f2537.other W2545 ne2541
    have f2554 := B2529.wr W2545
    have Z2556 := Nat.le_trans Z2542 (Keep.of_wr W2545).1
    have hk := Nat.le_trans hk (Keep.of_wr W2545).1
    have N2557 := Fr.snoc X2545 N2527 g_b2529
    obtain ⟨cl2558, Ar2558, q2558, S2558, M2558, H2558, G2558⟩ := id V2545
    have hin2559 : ¬ ((1 : Int32) < 0 ∨ cl2558.slots.size ≤ ((1 : Int32)).toNatClampNeg) := inb_of S2558 ⟨by decide, by decide⟩
    obtain ⟨T2560, h2560, X2560, e2560, W2560, st2560⟩ := stJ X2545 hx hZ e2545 Ar2558 (j := (1 : Int32)) hin2559 (g := (mkF m 237 L_2528 [(.long (-12 : Int64)), (.int (1 : Int32)), (.ref b2529), (.ref b2529)])) rfl rfl (hb hby at_237)
    have V2560 : Arv Z h2560 b2529 k2529 .long (4 : Int32) [(.long (-11 : Int64)), (.long (-12 : Int64)), (.long (0 : Int64)), (.long (0 : Int64))] (.long (0 : Int64)) := Arv.set Ar2558 q2558 S2558 M2558 H2558 G2558 rfl W2560 1 rfl (Nat.le_of_ble_eq_true rfl)
    have f2561 := f2546.wr W2560
    have f2562 := f2547.other W2560 ne2538
    have f2563 := f2548.wr W2560
    have f2564 := f2549.other W2560 ne2539
    have f2565 := f2550.wr W2560
    have f2566 := f2551.other W2560 ne2540
    have f2567 := f2552.wr W2560
    have f2568 := f2553.other W2560 ne2541
    have f2569 := f2554.wr W2560
    have Z2571 := Nat.le_trans Z2556 (Keep.of_wr W2560).1
    have hk := Nat.le_trans hk (Keep.of_wr W2560).1
    have N2572 := Fr.snoc X2560 N2557 g_b2529
    obtain ⟨cl2573, Ar2573, q2573, S2573, M2573, H2573, G2573⟩ := id V2560
    have hin2574 : ¬ ((2 : Int32) < 0 ∨ cl2573.slots.size ≤ ((2 : Int32)).toNatClampNeg) := inb_of S2573 ⟨by decide, by decide⟩
    obtain ⟨T2575, h2575, X2575, e2575, W2575, st2575⟩ := stJ X2560 hx hZ e2560 Ar2573 (j := (2 : Int32)) hin2574 (g := (mkF m 243 L_2528 [(.long (-13 : Int64)), (.int (2 : Int32)), (.ref b2529), (.ref b2529)])) rfl rfl (hb hby at_243)
    have V2575 : Arv Z h2575 b2529 k2529 .long (4 : Int32) [(.long (-11 : Int64)), (.long (-12 : Int64)), (.long (-13 : Int64)), (.long (0 : Int64))] (.long (0 : Int64)) := Arv.set Ar2573 q2573 S2573 M2573 H2573 G2573 rfl W2575 2 rfl (Nat.le_of_ble_eq_true rfl)
    have f2576 := f2561.wr W2575
    have f2577 := f2562.other W2575 ne2538
    have f2578 := f2563.wr W2575
    have f2579 := f2564.other W2575 ne2539
    have f2580 := f2565.wr W2575
    have f2581 := f2566.other W2575 ne2540
    have f2582 := f2567.wr W2575
    have f2583 := f2568.other W2575 ne2541
    have f2584 := f2569.wr W2575
    have Z2586 := Nat.le_trans Z2571 (Keep.of_wr W2575).1
    have hk := Nat.le_trans hk (Keep.of_wr W2575).1
    have N2587 := Fr.snoc X2575 N2572 g_b2529
    obtain ⟨cl2588, Ar2588, q2588, S2588, M2588, H2588, G2588⟩ := id V2575
    have hin2589 : ¬ ((3 : Int32) < 0 ∨ cl2588.slots.size ≤ ((3 : Int32)).toNatClampNeg) := inb_of S2588 ⟨by decide, by decide⟩
    obtain ⟨T2590, h2590, X2590, e2590, W2590, st2590⟩ := stJ X2575 hx hZ e2575 Ar2588 (j := (3 : Int32)) hin2589 (g := (mkF m 249 L_2528 [(.long (-14 : Int64)), (.int (3 : Int32)), (.ref b2529), (.ref b2529)])) rfl rfl (hb hby at_249)
    have V2590 : Arv Z h2590 b2529 k2529 .long (4 : Int32) [(.long (-11 : Int64)), (.long (-12 : Int64)), (.long (-13 : Int64)), (.long (-14 : Int64))] (.long (0 : Int64)) := Arv.set Ar2588 q2588 S2588 M2588 H2588 G2588 rfl W2590 3 rfl (Nat.le_of_ble_eq_true rfl)
    have f2591 := f2576.wr W2590
    have f2592 := f2577.other W2590 ne2538
    have f2593 := f2578.wr W2590
    have f2594 := f2579.other W2590 ne2539
    have f2595 := f2580.wr W2590
    have f2596 := f2581.other W2590 ne2540
    have f2597 := f2582.wr W2590
    have f2598 := f2583.other W2590 ne2541
    have f2599 := f2584.wr W2590
    have Z2601 := Nat.le_trans Z2586 (Keep.of_wr W2590).1
    have hk := Nat.le_trans hk (Keep.of_wr W2590).1
    have N2602 := Fr.snoc X2590 N2587 g_b2529
    let L_2603 : Array Slot := #[.val (.long q0), .second, .val (.long q1), .second, .val (.long q2), .second, .val (.long q3), .second, .val (.long q4), .second, .val (.long q5), .second, .val (.int (2 : Int32)), .val (.int (own_Nn q2 q3)), .val (.int ((j0_2 q4) + (j0_3 q5))), .val (.int (((j0_2 q4) + (j0_3 q5)) % (3 : Int32))), .val (.long (own_c q0)), .second, .val (.long (own_c q1)), .second, .val (.long (own_z q2 q0)), .second, .val (.long (own_z q3 q1)), .second, .val (.long (own_z q4 q0)), .second, .val (.long (own_z q5 q1)), .second, .val (.ref b2381), .val (.ref b2384), .val (.ref b2390), .val (.ref b2465), .val (.ref b2529), .unset, .unset]
    obtain ⟨T2604, h2604, X2604, e2604, E2604, A2604, D2604, -, st2604⟩ := newO X2590 hx hZ hown (own_m hw 18 rfl) (own_m hw 19 rfl) (own_m hw 20 rfl) e2590 (g := (mkF m 252 L_2603 [])) rfl (hb hby at_252) (by decide) (by decide)
    obtain ⟨b2604, gg2604⟩ : ∃ z, z = h2590.size := ⟨_, rfl⟩
    rw [← gg2604] at A2604 D2604 st2604
    have f2605 := f2591.ext E2604
    have f2606 := f2592.ext E2604
    have f2607 := f2593.ext E2604
    have f2608 := f2594.ext E2604
    have f2609 := f2595.ext E2604
    have f2610 := f2596.ext E2604
    have f2611 := f2597.ext E2604
    have f2612 := f2598.ext E2604
    have f2613 := f2599.ext E2604
    have f2614 := V2590.ext E2604
    have ne2615 : b2381 ≠ b2604 := Nat.ne_of_lt (Nat.lt_of_lt_of_le f2591.lt (Nat.le_of_eq gg2604.symm))
    have ne2616 : b2384 ≠ b2604 := Nat.ne_of_lt (Nat.lt_of_lt_of_le f2593.lt (Nat.le_of_eq gg2604.symm))
    have ne2617 : b2390 ≠ b2604 := Nat.ne_of_lt (Nat.lt_of_lt_of_le f2595.lt (Nat.le_of_eq gg2604.symm))
    have ne2618 : b2465 ≠ b2604 := Nat.ne_of_lt (Nat.lt_of_lt_of_le f2597.lt (Nat.le_of_eq gg2604.symm))
    have ne2619 : b2529 ≠ b2604 := Nat.ne_of_lt (Nat.lt_of_lt_of_le f2599.lt (Nat.le_of_eq gg2604.symm))
    have g_b2604 : n0 ≤ b2604 := Nat.le_trans Z2601 (Nat.le_of_eq gg2604.symm)
    have Z2620 := Nat.le_trans Z2601 E2604.1
    have hk := Nat.le_trans hk E2604.1
    have f2621 : Fld Z h2604 b2604 "com/example/stowline/stowline/VolumeBound" "capacities" "[J" .null := D2604 (Or.inr (own_m hw 53 rfl)) (ty := (.array .long)) (by decide)
    have f2622 : Fld Z h2604 b2604 "com/example/stowline/stowline/VolumeBound" "wholeCapacities" "[J" .null := D2604 (Or.inr (own_m hw 55 rfl)) (ty := (.array .long)) (by decide)
    have f2623 : Fld Z h2604 b2604 "com/example/stowline/stowline/VolumeBound" "remainders" "[J" .null := D2604 (Or.inr (own_m hw 57 rfl)) (ty := (.array .long)) (by decide)
    have pre2625 := fun (t : State) (k : Steps p.tables e below (T2604.setTop (mkF m 258 L_2603 [(.ref b2381), (.ref b2604), (.ref b2604)])) t) => pre2357 t (by
      show Steps p.tables e below (s₁.setTop (mkF m 64 L_2350 [(.int (j0_3 q5)), (.int (j0_2 q4))])) _
      refine XS.iadd X0.here hx rfl (hb hby at_64) rfl ?_
      refine XS.istore X0.here hx rfl (hb hby at_65) rfl (l' := L_2361) rfl ?_
      refine XS.iload X0.here hx rfl (hb hby at_67) rfl ?_
      refine XS.iconst X0.here hx rfl (hb hby at_69) ?_
      refine XS.iload X0.here hx rfl (hb hby at_70) rfl ?_
      refine XS.isub X0.here hx rfl (hb hby at_72) rfl ?_
      show Steps p.tables e below (s₁.setTop (mkF m 73 L_2361 [(.int (3 : Int32)), (.int ((j0_2 q4) + (j0_3 q5)))])) _
      refine iremM X0 hx rfl (hb hby at_73) rfl (by decide) ?_
      refine XS.istore X0.here hx rfl (hb hby at_74) rfl (l' := L_2362) rfl ?_
      refine XS.lconst X0.here hx rfl (hb hby at_76) ?_
      refine XS.lloadN X0.here hx rfl (hb hby at_77) rfl ?_
      show Steps p.tables e below (s₁.setTop (mkF m 78 L_2362 [(.long q0), (.long (1 : Int64))])) _
      refine X0.ldc2Long hx hown (mvT hZ (own_m hw 0 rfl)) (g := (mkF m 78 L_2362 [(.long q0), (.long (1 : Int64))])) rfl (hb hby at_78) _ ?_
      refine XS.land X0.here hx rfl (hb hby at_81) rfl ?_
      show Steps p.tables e below (s₁.setTop (mkF m 82 L_2362 [(.long (q0 &&& (9223372036854775807 : Int64))), (.long (1 : Int64))])) _
      refine st2363 _ ?_
      refine XS.lstore X2363.here hx rfl (hb hby at_85) rfl (l' := L_2364) rfl ?_
      refine XS.lconst X2363.here hx rfl (hb hby at_87) ?_
      refine XS.lloadN X2363.here hx rfl (hb hby at_88) rfl ?_
      show Steps p.tables e below (T2363.setTop (mkF m 89 L_2365 [(.long q1), (.long (1 : Int64))])) _
      refine X2363.ldc2Long hx hown (mvT hZ (own_m hw 0 rfl)) (g := (mkF m 89 L_2365 [(.long q1), (.long (1 : Int64))])) rfl (hb hby at_89) _ ?_
      refine XS.land X2363.here hx rfl (hb hby at_92) rfl ?_
      show Steps p.tables e below (T2363.setTop (mkF m 93 L_2365 [(.long (q1 &&& (9223372036854775807 : Int64))), (.long (1 : Int64))])) _
      refine st2366 _ ?_
      refine XS.lstore X2366.here hx rfl (hb hby at_96) rfl (l' := L_2367) rfl ?_
      refine XS.lload X2366.here hx rfl (hb hby at_98) rfl ?_
      refine XS.lload X2366.here hx rfl (hb hby at_100) rfl ?_
      show Steps p.tables e below (T2366.setTop (mkF m 102 L_2368 [(.long (own_c q0)), (.long q2)])) _
      refine st2369 _ ?_
      refine XS.lstore X2369.here hx rfl (hb hby at_105) rfl (l' := L_2370) rfl ?_
      refine XS.lload X2369.here hx rfl (hb hby at_107) rfl ?_
      refine XS.lload X2369.here hx rfl (hb hby at_109) rfl ?_
      show Steps p.tables e below (T2369.setTop (mkF m 111 L_2371 [(.long (own_c q1)), (.long q3)])) _
      refine st2372 _ ?_
      refine XS.lstore X2372.here hx rfl (hb hby at_114) rfl (l' := L_2373) rfl ?_
      refine XS.lload X2372.here hx rfl (hb hby at_116) rfl ?_
      refine XS.lload X2372.here hx rfl (hb hby at_118) rfl ?_
      show Steps p.tables e below (T2372.setTop (mkF m 120 L_2374 [(.long (own_c q0)), (.long q4)])) _
      refine st2375 _ ?_
      refine XS.lstore X2375.here hx rfl (hb hby at_123) rfl (l' := L_2376) rfl ?_
      refine XS.lload X2375.here hx rfl (hb hby at_125) rfl ?_
      refine XS.lload X2375.here hx rfl (hb hby at_127) rfl ?_
      show Steps p.tables e below (T2375.setTop (mkF m 129 L_2377 [(.long (own_c q1)), (.long q5)])) _
      refine st2378 _ ?_
      refine XS.lstore X2378.here hx rfl (hb hby at_132) rfl (l' := L_2379) rfl ?_
      refine XS.iload X2378.here hx rfl (hb hby at_134) rfl ?_
      show Steps p.tables e below (T2378.setTop (mkF m 136 L_2380 [(.int (2 : Int32))])) _
      refine st2381 _ ?_
      refine XS.astore X2381.here hx rfl (hb hby at_138) rfl rfl (l' := L_2383) rfl ?_
      refine XS.iload X2381.here hx rfl (hb hby at_140) rfl ?_
      show Steps p.tables e below (T2381.setTop (mkF m 142 L_2383 [(.int (2 : Int32))])) _
      refine st2384 _ ?_
      refine XS.astore X2384.here hx rfl (hb hby at_144) rfl rfl (l' := L_2389) rfl ?_
      refine XS.iload X2384.here hx rfl (hb hby at_146) rfl ?_
      show Steps p.tables e below (T2384.setTop (mkF m 148 L_2389 [(.int (2 : Int32))])) _
      refine st2390 _ ?_
      refine XS.astore X2390.here hx rfl (hb hby at_150) rfl rfl (l' := L_2398) rfl ?_
      refine XS.aload X2390.here hx rfl (hb hby at_152) rfl rfl ?_
      refine XS.iconst X2390.here hx rfl (hb hby at_154) ?_
      refine XS.lload X2390.here hx rfl (hb hby at_155) rfl ?_
      show Steps p.tables e below (T2390.setTop (mkF m 157 L_2398 [(.long (own_c q0)), (.int (0 : Int32)), (.ref b2381)])) _
      refine st2401 _ ?_
      refine XS.aload X2401.here hx rfl (hb hby at_158) rfl rfl ?_
      refine XS.iconst X2401.here hx rfl (hb hby at_160) ?_
      refine XS.lload X2401.here hx rfl (hb hby at_161) rfl ?_
      show Steps p.tables e below (T2401.setTop (mkF m 163 L_2398 [(.long (own_z q2 q0)), (.int (0 : Int32)), (.ref b2384)])) _
      refine st2412 _ ?_
      refine XS.aload X2412.here hx rfl (hb hby at_164) rfl rfl ?_
      refine XS.iconst X2412.here hx rfl (hb hby at_166) ?_
      refine XS.lload X2412.here hx rfl (hb hby at_167) rfl ?_
      show Steps p.tables e below (T2412.setTop (mkF m 169 L_2398 [(.long (own_z q4 q0)), (.int (0 : Int32)), (.ref b2390)])) _
      refine st2423 _ ?_
      refine XS.iload X2423.here hx rfl (hb hby at_170) rfl ?_
      refine XS.iconst X2423.here hx rfl (hb hby at_172) ?_
      refine XS.icmpNo X2423.here hx rfl (hb hby at_173) rfl (teq (rfl : (2 : Int32) = (2 : Int32))).2 ?_
      refine XS.aload X2423.here hx rfl (hb hby at_176) rfl rfl ?_
      refine XS.iconst X2423.here hx rfl (hb hby at_178) ?_
      show Steps p.tables e below (T2423.setTop (mkF m 179 L_2398 [(.int (1 : Int32)), (.ref b2381)])) _
      refine XS.lload X2423.here hx rfl (hb hby at_179) rfl ?_
      show Steps p.tables e below (T2423.setTop (mkF m 181 L_2398 [(.long (own_c q1)), (.int (1 : Int32)), (.ref b2381)])) _
      refine st2434 _ ?_
      refine XS.aload X2434.here hx rfl (hb hby at_182) rfl rfl ?_
      refine XS.iconst X2434.here hx rfl (hb hby at_184) ?_
      refine XS.lload X2434.here hx rfl (hb hby at_185) rfl ?_
      show Steps p.tables e below (T2434.setTop (mkF m 187 L_2398 [(.long (own_z q3 q1)), (.int (1 : Int32)), (.ref b2384)])) _
      refine st2445 _ ?_
      refine XS.aload X2445.here hx rfl (hb hby at_188) rfl rfl ?_
      refine XS.iconst X2445.here hx rfl (hb hby at_190) ?_
      refine XS.lload X2445.here hx rfl (hb hby at_191) rfl ?_
      show Steps p.tables e below (T2445.setTop (mkF m 193 L_2398 [(.long (own_z q5 q1)), (.int (1 : Int32)), (.ref b2390)])) _
      refine st2456 _ ?_
      refine XS.iconst X2456.here hx rfl (hb hby at_194) ?_
      show Steps p.tables e below (T2456.setTop (mkF m 195 L_2398 [(.int (4 : Int32))])) _
      refine st2465 _ ?_
      refine XS.dup X2465.here hx rfl (hb hby at_197) rfl rfl ?_
      refine XS.iconst X2465.here hx rfl (hb hby at_198) ?_
      show Steps p.tables e below (T2465.setTop (mkF m 199 L_2398 [(.int (0 : Int32)), (.ref b2465), (.ref b2465)])) _
      refine X2465.ldc2Long hx hown (mvT hZ (own_m hw 10 rfl)) (g := (mkF m 199 L_2398 [(.int (0 : Int32)), (.ref b2465), (.ref b2465)])) rfl (hb hby at_199) _ ?_
      show Steps p.tables e below (T2465.setTop (mkF m 202 L_2398 [(.long (-1 : Int64)), (.int (0 : Int32)), (.ref b2465), (.ref b2465)])) _
      refine st2478 _ ?_
      refine XS.dup X2478.here hx rfl (hb hby at_203) rfl rfl ?_
      refine XS.iconst X2478.here hx rfl (hb hby at_204) ?_
      show Steps p.tables e below (T2478.setTop (mkF m 205 L_2398 [(.int (1 : Int32)), (.ref b2465), (.ref b2465)])) _
      refine X2478.ldc2Long hx hown (mvT hZ (own_m hw 11 rfl)) (g := (mkF m 205 L_2398 [(.int (1 : Int32)), (.ref b2465), (.ref b2465)])) rfl (hb hby at_205) _ ?_
      show Steps p.tables e below (T2478.setTop (mkF m 208 L_2398 [(.long (-2 : Int64)), (.int (1 : Int32)), (.ref b2465), (.ref b2465)])) _
      refine st2491 _ ?_
      refine XS.dup X2491.here hx rfl (hb hby at_209) rfl rfl ?_
      refine XS.iconst X2491.here hx rfl (hb hby at_210) ?_
      show Steps p.tables e below (T2491.setTop (mkF m 211 L_2398 [(.int (2 : Int32)), (.ref b2465), (.ref b2465)])) _
      refine X2491.ldc2Long hx hown (mvT hZ (own_m hw 12 rfl)) (g := (mkF m 211 L_2398 [(.int (2 : Int32)), (.ref b2465), (.ref b2465)])) rfl (hb hby at_211) _ ?_
      show Steps p.tables e below (T2491.setTop (mkF m 214 L_2398 [(.long (-3 : Int64)), (.int (2 : Int32)), (.ref b2465), (.ref b2465)])) _
      refine st2504 _ ?_
      refine XS.dup X2504.here hx rfl (hb hby at_215) rfl rfl ?_
      refine XS.iconst X2504.here hx rfl (hb hby at_216) ?_
      show Steps p.tables e below (T2504.setTop (mkF m 217 L_2398 [(.int (3 : Int32)), (.ref b2465), (.ref b2465)])) _
      refine X2504.ldc2Long hx hown (mvT hZ (own_m hw 13 rfl)) (g := (mkF m 217 L_2398 [(.int (3 : Int32)), (.ref b2465), (.ref b2465)])) rfl (hb hby at_217) _ ?_
      show Steps p.tables e below (T2504.setTop (mkF m 220 L_2398 [(.long (-4 : Int64)), (.int (3 : Int32)), (.ref b2465), (.ref b2465)])) _
      refine st2517 _ ?_
      refine XS.astore X2517.here hx rfl (hb hby at_221) rfl rfl (l' := L_2528) rfl ?_
      refine XS.iconst X2517.here hx rfl (hb hby at_223) ?_
      show Steps p.tables e below (T2517.setTop (mkF m 224 L_2528 [(.int (4 : Int32))])) _
      refine st2529 _ ?_
      refine XS.dup X2529.here hx rfl (hb hby at_226) rfl rfl ?_
      refine XS.iconst X2529.here hx rfl (hb hby at_227) ?_
      show Steps p.tables e below (T2529.setTop (mkF m 228 L_2528 [(.int (0 : Int32)), (.ref b2529), (.ref b2529)])) _
      refine X2529.ldc2Long hx hown (mvT hZ (own_m hw 14 rfl)) (g := (mkF m 228 L_2528 [(.int (0 : Int32)), (.ref b2529), (.ref b2529)])) rfl (hb hby at_228) _ ?_
      show Steps p.tables e below (T2529.setTop (mkF m 231 L_2528 [(.long (-11 : Int64)), (.int (0 : Int32)), (.ref b2529), (.ref b2529)])) _
      refine st2545 _ ?_
      refine XS.dup X2545.here hx rfl (hb hby at_232) rfl rfl ?_
      refine XS.iconst X2545.here hx rfl (hb hby at_233) ?_
      show Steps p.tables e below (T2545.setTop (mkF m 234 L_2528 [(.int (1 : Int32)), (.ref b2529), (.ref b2529)])) _
      refine X2545.ldc2Long hx hown (mvT hZ (own_m hw 15 rfl)) (g := (mkF m 234 L_2528 [(.int (1 : Int32)), (.ref b2529), (.ref b2529)])) rfl (hb hby at_234) _ ?_
      show Steps p.tables e below (T2545.setTop (mkF m 237 L_2528 [(.long (-12 : Int64)), (.int (1 : Int32)), (.ref b2529), (.ref b2529)])) _
      refine st2560 _ ?_
      refine XS.dup X2560.here hx rfl (hb hby at_238) rfl rfl ?_
      refine XS.iconst X2560.here hx rfl (hb hby at_239) ?_
      show Steps p.tables e below (T2560.setTop (mkF m 240 L_2528 [(.int (2 : Int32)), (.ref b2529), (.ref b2529)])) _
      refine X2560.ldc2Long hx hown (mvT hZ (own_m hw 16 rfl)) (g := (mkF m 240 L_2528 [(.int (2 : Int32)), (.ref b2529), (.ref b2529)])) rfl (hb hby at_240) _ ?_
      show Steps p.tables e below (T2560.setTop (mkF m 243 L_2528 [(.long (-13 : Int64)), (.int (2 : Int32)), (.ref b2529), (.ref b2529)])) _
      refine st2575 _ ?_
      refine XS.dup X2575.here hx rfl (hb hby at_244) rfl rfl ?_
      refine XS.iconst X2575.here hx rfl (hb hby at_245) ?_
      show Steps p.tables e below (T2575.setTop (mkF m 246 L_2528 [(.int (3 : Int32)), (.ref b2529), (.ref b2529)])) _
      refine X2575.ldc2Long hx hown (mvT hZ (own_m hw 17 rfl)) (g := (mkF m 246 L_2528 [(.int (3 : Int32)), (.ref b2529), (.ref b2529)])) rfl (hb hby at_246) _ ?_
      show Steps p.tables e below (T2575.setTop (mkF m 249 L_2528 [(.long (-14 : Int64)), (.int (3 : Int32)), (.ref b2529), (.ref b2529)])) _
      refine st2590 _ ?_
      refine XS.astore X2590.here hx rfl (hb hby at_250) rfl rfl (l' := L_2603) rfl ?_
      show Steps p.tables e below (T2590.setTop (mkF m 252 L_2603 [])) _
      refine st2604 _ ?_
      refine XS.dup X2604.here hx rfl (hb hby at_255) rfl rfl ?_
      refine XS.aload X2604.here hx rfl (hb hby at_256) rfl rfl ?_
      exact k)
    obtain ⟨_, _, ⟨T2624, L2624, k2624, n2624⟩, -, X2624, hSi2624, hgr2624, ⟨Lc2624, hQ2624, l2624, y2624, z2624⟩, st2624⟩ := X2604.specialBackS hx (y := (⟨"com/example/stowline/stowline/VolumeBound", "<init>", "([J)V"⟩ : MethodName)) rfl hown (mvT hZ (own_m hw 21 rfl)) (mvT hZ (own_m hw 22 rfl)) (mvT hZ (own_m hw 23 rfl)) (by decide) (backOfS (W := 1) (rm3_2 l Z aw hw [] b2604 b2381 ((own_c q0)) ((own_c q1)) k2381 h2604 n0 Z2620 A2604 f2621 f2622 f2623 f2606 f2605 g_b2604 (Ne.symm ne2615) (own_p1 _ (own_cp q0)) (own_p1 _ (own_cp q1))) hZ (own_m hw 23 rfl) (own_m hw 20 rfl) (by decide) (by decide)) (g := (mkF m 258 L_2603 [(.ref b2381), (.ref b2604), (.ref b2604)])) rfl (by rw [hml]; rfl) (Steps.refl _) (a := b2604) (argsL := [(.ref b2381)]) (rest := [(.ref b2604)]) (lenOf pd_6 rfl) rfl (by show 2 * 0 + _ ≤ _; exact Nat.le_of_eq rfl) (hb hby at_258) (fun _ _ => ⟨rfl, e2604, (by decide : 6 + 5 ≤ _), (by decide : 17 + 50 ≤ _)⟩)
    dsimp only [Pt.U, Pt.locs, Pt.cells, Pt.slots] at X2624 l2624 y2624 z2624 st2624 hQ2624 hSi2624 hgr2624
    subst l2624 y2624 z2624
    obtain ⟨X2624, hS, hZ, hown⟩ := rebS hS (show _ ≤ T2604.heap.size from own_hk hk e2604) X2624 hSi2624 hgr2624 hZ hown
    obtain ⟨h2624, e2624⟩ : ∃ z, T2624.heap = z := ⟨_, rfl⟩
    rw [e2624] at hQ2624
    obtain ⟨cx02624, cx12624, cx22624, cy02624, cy12624, cy22624, rfl, N2624q, K2624q, g_cx02624, zz_cx02624, g_cx12624, zz_cx12624, g_cx22624, zz_cx22624, nx_cx02624_cx12624, nx_cx02624_cx22624, nx_cx12624_cx22624, f2626, f2627, f2628, f2629, f2630, f2631, f2632⟩ := hQ2624
    have f2633 := f2605.keep K2624q
    have f2634 := f2606.keep K2624q (ninS ne2615 nin0)
    have f2635 := f2607.keep K2624q
    have f2636 := f2608.keep K2624q (ninS ne2616 nin0)
    have f2637 := f2609.keep K2624q
    have f2638 := f2610.keep K2624q (ninS ne2617 nin0)
    have f2639 := f2611.keep K2624q
    have f2640 := f2612.keep K2624q (ninS ne2618 nin0)
    have f2641 := f2613.keep K2624q
    have f2642 := f2614.keep K2624q (ninS ne2619 nin0)
    have f2643 := A2604.keep K2624q
    have ne2647 : b2381 ≠ cx02624 := Nat.ne_of_lt (Nat.lt_of_lt_of_le f2605.lt zz_cx02624)
    have ne2648 : b2384 ≠ cx02624 := Nat.ne_of_lt (Nat.lt_of_lt_of_le f2607.lt zz_cx02624)
    have ne2649 : b2390 ≠ cx02624 := Nat.ne_of_lt (Nat.lt_of_lt_of_le f2609.lt zz_cx02624)
    have ne2650 : b2465 ≠ cx02624 := Nat.ne_of_lt (Nat.lt_of_lt_of_le f2611.lt zz_cx02624)
    have ne2651 : b2529 ≠ cx02624 := Nat.ne_of_lt (Nat.lt_of_lt_of_le f2613.lt zz_cx02624)
    have ne2652 : b2604 ≠ cx02624 := Nat.ne_of_lt (Nat.lt_of_lt_of_le A2604.lt zz_cx02624)
    have ne2653 : b2381 ≠ cx12624 := Nat.ne_of_lt (Nat.lt_of_lt_of_le f2605.lt zz_cx12624)
    have ne2654 : b2384 ≠ cx12624 := Nat.ne_of_lt (Nat.lt_of_lt_of_le f2607.lt zz_cx12624)
    have ne2655 : b2390 ≠ cx12624 := Nat.ne_of_lt (Nat.lt_of_lt_of_le f2609.lt zz_cx12624)
    have ne2656 : b2465 ≠ cx12624 := Nat.ne_of_lt (Nat.lt_of_lt_of_le f2611.lt zz_cx12624)
    have ne2657 : b2529 ≠ cx12624 := Nat.ne_of_lt (Nat.lt_of_lt_of_le f2613.lt zz_cx12624)
    have ne2658 : b2604 ≠ cx12624 := Nat.ne_of_lt (Nat.lt_of_lt_of_le A2604.lt zz_cx12624)
    have ne2659 : b2381 ≠ cx22624 := Nat.ne_of_lt (Nat.lt_of_lt_of_le f2605.lt zz_cx22624)
    have ne2660 : b2384 ≠ cx22624 := Nat.ne_of_lt (Nat.lt_of_lt_of_le f2607.lt zz_cx22624)
    have ne2661 : b2390 ≠ cx22624 := Nat.ne_of_lt (Nat.lt_of_lt_of_le f2609.lt zz_cx22624)
    have ne2662 : b2465 ≠ cx22624 := Nat.ne_of_lt (Nat.lt_of_lt_of_le f2611.lt zz_cx22624)
    have ne2663 : b2529 ≠ cx22624 := Nat.ne_of_lt (Nat.lt_of_lt_of_le f2613.lt zz_cx22624)
    have ne2664 : b2604 ≠ cx22624 := Nat.ne_of_lt (Nat.lt_of_lt_of_le A2604.lt zz_cx22624)
    have Z2624 := Nat.le_trans Z2620 K2624q.1
    have hk : T2624.heap.size ≤ h2624.size := by rw [e2624]; exact Nat.le_refl _
    have N2624 := Fr.app N2602 N2624q
    let L_2665 : Array Slot := #[.val (.long q0), .second, .val (.long q1), .second, .val (.long q2), .second, .val (.long q3), .second, .val (.long q4), .second, .val (.long q5), .second, .val (.int (2 : Int32)), .val (.int (own_Nn q2 q3)), .val (.int ((j0_2 q4) + (j0_3 q5))), .val (.int (((j0_2 q4) + (j0_3 q5)) % (3 : Int32))), .val (.long (own_c q0)), .second, .val (.long (own_c q1)), .second, .val (.long (own_z q2 q0)), .second, .val (.long (own_z q3 q1)), .second, .val (.long (own_z q4 q0)), .second, .val (.long (own_z q5 q1)), .second, .val (.ref b2381), .val (.ref b2384), .val (.ref b2390), .val (.ref b2465), .val (.ref b2529), .val (.ref b2604), .unset]
    have pre2687 := fun (t : State) (k : Steps p.tables e below (T2624.setTop (mkF m 266 L_2665 [(.int (1 : Int32)), (.int (own_Nn q2 q3))])) t) => pre2625 t (by
      show Steps p.tables e below (T2604.setTop (mkF m 258 L_2603 [(.ref b2381), (.ref b2604), (.ref b2604)])) _
      refine st2624.trans ?_
      refine XS.astore X2624.here hx rfl (hb hby at_261) rfl rfl (l' := L_2665) rfl ?_
      refine XS.iload X2624.here hx rfl (hb hby at_263) rfl ?_
      refine XS.iconst X2624.here hx rfl (hb hby at_265) ?_
      exact k)
    obtain ⟨T2688, h2688, L2688, vm2688, kk2688, X2688, e2688, N2688, Z2688, hS, hk, hZ, hown, f2688_0, f2688_1, f2688_2, f2688_3, f2688_4, f2688_5, f2688_6, f2688_7, f2688_8, f2688_9, f2688_10, f2688_11, f2688_12, f2688_13, f2688_14, f2688_15, f2688_16, pre2688⟩ : ∃ (T2688 : State) (h2688 : Heap) (L2688 : List Loc) (vm2688 : Vm) (kk2688 : Nat), Stand p l e room_1 (s.setVm vm2688) m #[(.long q0), (.long q1), (.long q2), (.long q3), (.long q4), (.long q5)] below meth c T2688 L2688 13 91 ∧ T2688.heap = h2688 ∧ Fr n0 L2688 ∧ n0 ≤ h2688.size ∧ s.Since vm2688 kk2688 ∧ kk2688 ≤ h2688.size ∧ Z.Warmed39 (s.setVm vm2688).vm ∧ (s.setVm vm2688).vm.findClass "com/example/stowline/stowline/VolumeBoundCopyTotalsPinLaw" = some m.cls ∧ Exa Z h2688 b2381 "[J" ∧ Arv Z h2688 b2381 k2381 .long (2 : Int32) [(.long (own_c q0)), (.long (own_c q1))] (.long (0 : Int64)) ∧ Exa Z h2688 b2384 "[J" ∧ Arv Z h2688 b2384 k2384 .long (2 : Int32) [(.long (own_z q2 q0)), (.long (own_z q3 q1))] (.long (0 : Int64)) ∧ Exa Z h2688 b2390 "[J" ∧ Arv Z h2688 b2390 k2390 .long (2 : Int32) [(.long (own_z q4 q0)), (.long (own_z q5 q1))] (.long (0 : Int64)) ∧ Exa Z h2688 b2465 "[J" ∧ Arv Z h2688 b2465 k2465 .long (4 : Int32) [(.long (-1 : Int64)), (.long (-2 : Int64)), (.long (-3 : Int64)), (.long (-4 : Int64))] (.long (0 : Int64)) ∧ Exa Z h2688 b2529 "[J" ∧ Arv Z h2688 b2529 k2529 .long (4 : Int32) [(.long (-11 : Int64)), (.long (-12 : Int64)), (.long (-13 : Int64)), (.long (-14 : Int64))] (.long (0 : Int64)) ∧ Exa Z h2688 b2604 "com/example/stowline/stowline/VolumeBound" ∧ Fld Z h2688 b2604 "com/example/stowline/stowline/VolumeBound" "capacities" "[J" (.ref cx02624) ∧ Fld Z h2688 b2604 "com/example/stowline/stowline/VolumeBound" "wholeCapacities" "[J" (.ref cx12624) ∧ Fld Z h2688 b2604 "com/example/stowline/stowline/VolumeBound" "remainders" "[J" (.ref cx22624) ∧ Arv Z h2688 cx02624 cy02624 .long (2 : Int32) [(.long (own_c q0)), (.long (own_c q1))] (.long (0 : Int64)) ∧ Arv Z h2688 cx12624 cy12624 .long (2 : Int32) [(.long (j0_14 q0 q2 q3)), (.long (j0_15 q1 q2 q3))] (.long (0 : Int64)) ∧ Arv Z h2688 cx22624 cy22624 .long (2 : Int32) [(.long (j0_16 q0 q2 q3)), (.long (j0_17 q1 q2 q3))] (.long (0 : Int64)) ∧ ∀ t, Steps p.tables e below (T2688.setTop (mkF m 276 L_2665 [])) t → Steps p.tables e below (s₁.setTop (entryFrame m #[(.long q0), (.long q1), (.long q2), (.long q3), (.long q4), (.long q5)] maxLocals)) t := by
      by_cases hc2689 : (own_Nn q2 q3) < (1 : Int32)
      · skip
        have pre2690 := fun (t : State) (k : Steps p.tables e below (T2624.setTop (mkF m 276 L_2665 [])) t) => pre2687 t (by
          show Steps p.tables e below (T2624.setTop (mkF m 266 L_2665 [(.int (1 : Int32)), (.int (own_Nn q2 q3))])) _
          refine XS.icmpYes X2624.here hx rfl (pc0 := 266) (pc' := 276) rfl (hb hby at_266) rfl (tlt hc2689).1 (by decide) (by decide) ?_
          exact k)
        have hj2691 : (j0_14 q0 q2 q3) = (0 : Int64) := by unfold j0_14; first | (rw [if_pos hc2689]) | (simp only [if_pos hc2689])
        have hj2692 : (j0_15 q1 q2 q3) = (0 : Int64) := by unfold j0_15; first | (rw [if_pos hc2689]) | (simp only [if_pos hc2689])
        have hj2693 : (j0_16 q0 q2 q3) = (0 : Int64) := by unfold j0_16; first | (rw [if_pos hc2689]) | (simp only [if_pos hc2689])
        have hj2694 : (j0_17 q1 q2 q3) = (0 : Int64) := by unfold j0_17; first | (rw [if_pos hc2689]) | (simp only [if_pos hc2689])
        exact ⟨T2624, h2624, _, _, _, (X2624.more (by decide) (by decide)), e2624, N2624, Z2624, hS, hk, hZ, hown, f2633, f2634, f2635, f2636, f2637, f2638, f2639, f2640, f2641, f2642, f2626, f2627, f2628, f2629, f2630, (by rw [hj2691, hj2692]; exact f2631), (by rw [hj2693, hj2694]; exact f2632), fun t k => pre2690 t (by exact k)⟩
      · skip
        have pre2696 := fun (t : State) (k : Steps p.tables e below (T2624.setTop (mkF m 273 L_2665 [(.ref b2384), (.ref b2604)])) t) => pre2687 t (by
          show Steps p.tables e below (T2624.setTop (mkF m 266 L_2665 [(.int (1 : Int32)), (.int (own_Nn q2 q3))])) _
          refine XS.icmpNo X2624.here hx rfl (hb hby at_266) rfl (flt hc2689).1 ?_
          refine XS.aload X2624.here hx rfl (hb hby at_269) rfl rfl ?_
          refine XS.aload X2624.here hx rfl (hb hby at_271) rfl rfl ?_
          exact k)
        obtain ⟨cq2695, kq2695, q2695a, q2695b, q2695c⟩ := isOf hZ e2624 f2626
        obtain ⟨_, _, ⟨T2695, L2695, k2695, n2695⟩, -, X2695, hSi2695, hgr2695, ⟨Lc2695, hQ2695, l2695, y2695, z2695⟩, st2695⟩ := X2624.virtualBackS hx (y := (⟨"com/example/stowline/stowline/VolumeBound", "add", "([J)V"⟩ : MethodName)) (z := (⟨"com/example/stowline/stowline/VolumeBound", "add", "([J)V"⟩ : MethodName)) hown (mvT hZ (own_m hw 58 rfl)) (mvT hZ (own_m hw 59 rfl)) (notFace_of_selects (args := #[]) (mvT hZ (own_m hw 61 rfl))) (mvT hZ (own_m hw 61 rfl)) (mvT hZ (own_m hw 60 rfl)) (by decide) (backOfS (W := 0) (rm7_2 l Z aw hw [] b2604 b2384 cx02624 cx12624 cx22624 ((own_c q0)) ((own_c q1)) ((0 : Int64)) ((0 : Int64)) ((0 : Int64)) ((0 : Int64)) ((own_z q2 q0)) ((own_z q3 q1)) cy02624 cy12624 cy22624 k2384 h2624 n0 Z2624 f2626 f2627 f2628 f2629 f2630 f2631 f2632 f2636 g_cx12624 g_cx22624 ne2658 ne2664 nx_cx02624_cx12624 nx_cx02624_cx22624 nx_cx12624_cx22624 ne2654 ne2660 (own_p0 _ (own_zb q2 q0).1) (own_p0 _ (own_zb q3 q1).1) (own_pc _ _ (own_zb q2 q0).2) (own_pc _ _ (own_zb q3 q1).2)) hZ (own_m hw 62 rfl) (own_m hw 20 rfl) (by decide) (by decide)) q2695a q2695c (g := (mkF m 273 L_2665 [(.ref b2384), (.ref b2604)])) rfl (by rw [hml]; rfl) (Steps.refl _) (argsL := [(.ref b2384)]) (rest := []) (lenOf pd_6 rfl) rfl (by show 2 * 0 + _ ≤ _; exact Nat.le_of_eq rfl) (hb hby at_273) (fun _ _ => ⟨rfl, e2624, (by decide : 11 + 2 ≤ _), (by decide : 67 + 24 ≤ _)⟩)
        dsimp only [Pt.U, Pt.locs, Pt.cells, Pt.slots] at X2695 l2695 y2695 z2695 st2695 hQ2695 hSi2695 hgr2695
        subst l2695 y2695 z2695
        obtain ⟨X2695, hS, hZ, hown⟩ := rebS hS (show _ ≤ T2624.heap.size from own_hk hk e2624) X2695 hSi2695 hgr2695 hZ hown
        obtain ⟨h2695, e2695⟩ : ∃ z, T2695.heap = z := ⟨_, rfl⟩
        rw [e2695] at hQ2695
        obtain ⟨rfl, N2695q, K2695q, f2697, f2698⟩ := hQ2695
        have f2699 := f2633.keep K2695q
        have f2700 := f2634.keep K2695q (ninS ne2653 (ninS ne2659 nin0))
        have f2701 := f2635.keep K2695q
        have f2702 := f2636.keep K2695q (ninS ne2654 (ninS ne2660 nin0))
        have f2703 := f2637.keep K2695q
        have f2704 := f2638.keep K2695q (ninS ne2655 (ninS ne2661 nin0))
        have f2705 := f2639.keep K2695q
        have f2706 := f2640.keep K2695q (ninS ne2656 (ninS ne2662 nin0))
        have f2707 := f2641.keep K2695q
        have f2708 := f2642.keep K2695q (ninS ne2657 (ninS ne2663 nin0))
        have f2709 := f2626.keep K2695q
        have f2710 := f2627.keep K2695q (ninS ne2658 (ninS ne2664 nin0))
        have f2711 := f2628.keep K2695q (ninS ne2658 (ninS ne2664 nin0))
        have f2712 := f2629.keep K2695q (ninS ne2658 (ninS ne2664 nin0))
        have f2713 := f2630.keep K2695q (ninS nx_cx02624_cx12624 (ninS nx_cx02624_cx22624 nin0))
        have Z2695 := Nat.le_trans Z2624 K2695q.1
        have hk : T2695.heap.size ≤ h2695.size := by rw [e2695]; exact Nat.le_refl _
        have N2695 := Fr.app N2624 N2695q
        have pre2716 := fun (t : State) (k : Steps p.tables e below (T2695.setTop (mkF m 276 L_2665 [])) t) => pre2696 t (by
          show Steps p.tables e below (T2624.setTop (mkF m 273 L_2665 [(.ref b2384), (.ref b2604)])) _
          refine st2695.trans ?_
          exact k)
        have hj2717 : (j0_14 q0 q2 q3) = (j7_2_0 (own_c q0) (0 : Int64) (0 : Int64) (own_z q2 q0)) := by unfold j0_14; first | (rw [if_neg hc2689]) | (simp only [if_neg hc2689])
        have hj2718 : (j0_15 q1 q2 q3) = (j7_2_2 (own_c q1) (0 : Int64) (0 : Int64) (own_z q3 q1)) := by unfold j0_15; first | (rw [if_neg hc2689]) | (simp only [if_neg hc2689])
        have hj2719 : (j0_16 q0 q2 q3) = (j7_2_1 (own_c q0) (0 : Int64) (own_z q2 q0)) := by unfold j0_16; first | (rw [if_neg hc2689]) | (simp only [if_neg hc2689])
        have hj2720 : (j0_17 q1 q2 q3) = (j7_2_3 (own_c q1) (0 : Int64) (own_z q3 q1)) := by unfold j0_17; first | (rw [if_neg hc2689]) | (simp only [if_neg hc2689])
        exact ⟨T2695, h2695, _, _, _, X2695, e2695, N2695, Z2695, hS, hk, hZ, hown, f2699, f2700, f2701, f2702, f2703, f2704, f2705, f2706, f2707, f2708, f2709, f2710, f2711, f2712, f2713, (by rw [hj2717, hj2718]; exact f2697), (by rw [hj2719, hj2720]; exact f2698), fun t k => pre2716 t (by exact k)⟩
    have pre2742 := fun (t : State) (k : Steps p.tables e below (T2688.setTop (mkF m 279 L_2665 [(.int (2 : Int32)), (.int (own_Nn q2 q3))])) t) => pre2688 t (by
      show Steps p.tables e below (T2688.setTop (mkF m 276 L_2665 [])) _
      refine XS.iload X2688.here hx rfl (hb hby at_276) rfl ?_
      refine XS.iconst X2688.here hx rfl (hb hby at_278) ?_
      exact k)
    obtain ⟨T2743, h2743, L2743, vm2743, kk2743, X2743, e2743, N2743, Z2743, hS, hk, hZ, hown, f2743_0, f2743_1, f2743_2, f2743_3, f2743_4, f2743_5, f2743_6, f2743_7, f2743_8, f2743_9, f2743_10, f2743_11, f2743_12, f2743_13, f2743_14, f2743_15, f2743_16, pre2743⟩ : ∃ (T2743 : State) (h2743 : Heap) (L2743 : List Loc) (vm2743 : Vm) (kk2743 : Nat), Stand p l e room_1 (s.setVm vm2743) m #[(.long q0), (.long q1), (.long q2), (.long q3), (.long q4), (.long q5)] below meth c T2743 L2743 15 115 ∧ T2743.heap = h2743 ∧ Fr n0 L2743 ∧ n0 ≤ h2743.size ∧ s.Since vm2743 kk2743 ∧ kk2743 ≤ h2743.size ∧ Z.Warmed39 (s.setVm vm2743).vm ∧ (s.setVm vm2743).vm.findClass "com/example/stowline/stowline/VolumeBoundCopyTotalsPinLaw" = some m.cls ∧ Exa Z h2743 b2381 "[J" ∧ Arv Z h2743 b2381 k2381 .long (2 : Int32) [(.long (own_c q0)), (.long (own_c q1))] (.long (0 : Int64)) ∧ Exa Z h2743 b2384 "[J" ∧ Arv Z h2743 b2384 k2384 .long (2 : Int32) [(.long (own_z q2 q0)), (.long (own_z q3 q1))] (.long (0 : Int64)) ∧ Exa Z h2743 b2390 "[J" ∧ Arv Z h2743 b2390 k2390 .long (2 : Int32) [(.long (own_z q4 q0)), (.long (own_z q5 q1))] (.long (0 : Int64)) ∧ Exa Z h2743 b2465 "[J" ∧ Arv Z h2743 b2465 k2465 .long (4 : Int32) [(.long (-1 : Int64)), (.long (-2 : Int64)), (.long (-3 : Int64)), (.long (-4 : Int64))] (.long (0 : Int64)) ∧ Exa Z h2743 b2529 "[J" ∧ Arv Z h2743 b2529 k2529 .long (4 : Int32) [(.long (-11 : Int64)), (.long (-12 : Int64)), (.long (-13 : Int64)), (.long (-14 : Int64))] (.long (0 : Int64)) ∧ Exa Z h2743 b2604 "com/example/stowline/stowline/VolumeBound" ∧ Fld Z h2743 b2604 "com/example/stowline/stowline/VolumeBound" "capacities" "[J" (.ref cx02624) ∧ Fld Z h2743 b2604 "com/example/stowline/stowline/VolumeBound" "wholeCapacities" "[J" (.ref cx12624) ∧ Fld Z h2743 b2604 "com/example/stowline/stowline/VolumeBound" "remainders" "[J" (.ref cx22624) ∧ Arv Z h2743 cx02624 cy02624 .long (2 : Int32) [(.long (own_c q0)), (.long (own_c q1))] (.long (0 : Int64)) ∧ Arv Z h2743 cx12624 cy12624 .long (2 : Int32) [(.long (j0_18 q0 q2 q3 q4)), (.long (j0_19 q1 q2 q3 q5))] (.long (0 : Int64)) ∧ Arv Z h2743 cx22624 cy22624 .long (2 : Int32) [(.long (j0_20 q0 q2 q3 q4)), (.long (j0_21 q1 q2 q3 q5))] (.long (0 : Int64)) ∧ ∀ t, Steps p.tables e below (T2743.setTop (mkF m 289 L_2665 [])) t → Steps p.tables e below (s₁.setTop (entryFrame m #[(.long q0), (.long q1), (.long q2), (.long q3), (.long q4), (.long q5)] maxLocals)) t := by
      by_cases hc2744 : (own_Nn q2 q3) < (2 : Int32)
      · skip
        have pre2745 := fun (t : State) (k : Steps p.tables e below (T2688.setTop (mkF m 289 L_2665 [])) t) => pre2742 t (by
          show Steps p.tables e below (T2688.setTop (mkF m 279 L_2665 [(.int (2 : Int32)), (.int (own_Nn q2 q3))])) _
          refine XS.icmpYes X2688.here hx rfl (pc0 := 279) (pc' := 289) rfl (hb hby at_279) rfl (tlt hc2744).1 (by decide) (by decide) ?_
          exact k)
        have hj2746 : (j0_18 q0 q2 q3 q4) = (j0_14 q0 q2 q3) := by unfold j0_18; first | (rw [if_pos hc2744]) | (simp only [if_pos hc2744])
        have hj2747 : (j0_19 q1 q2 q3 q5) = (j0_15 q1 q2 q3) := by unfold j0_19; first | (rw [if_pos hc2744]) | (simp only [if_pos hc2744])
        have hj2748 : (j0_20 q0 q2 q3 q4) = (j0_16 q0 q2 q3) := by unfold j0_20; first | (rw [if_pos hc2744]) | (simp only [if_pos hc2744])
        have hj2749 : (j0_21 q1 q2 q3 q5) = (j0_17 q1 q2 q3) := by unfold j0_21; first | (rw [if_pos hc2744]) | (simp only [if_pos hc2744])
        exact ⟨T2688, h2688, _, _, _, (X2688.more (by decide) (by decide)), e2688, N2688, Z2688, hS, hk, hZ, hown, f2688_0, f2688_1, f2688_2, f2688_3, f2688_4, f2688_5, f2688_6, f2688_7, f2688_8, f2688_9, f2688_10, f2688_11, f2688_12, f2688_13, f2688_14, (by rw [hj2746, hj2747]; exact f2688_15), (by rw [hj2748, hj2749]; exact f2688_16), fun t k => pre2745 t (by exact k)⟩
      · skip
        have pre2751 := fun (t : State) (k : Steps p.tables e below (T2688.setTop (mkF m 286 L_2665 [(.ref b2390), (.ref b2604)])) t) => pre2742 t (by
          show Steps p.tables e below (T2688.setTop (mkF m 279 L_2665 [(.int (2 : Int32)), (.int (own_Nn q2 q3))])) _
          refine XS.icmpNo X2688.here hx rfl (hb hby at_279) rfl (flt hc2744).1 ?_
          refine XS.aload X2688.here hx rfl (hb hby at_282) rfl rfl ?_
          refine XS.aload X2688.here hx rfl (hb hby at_284) rfl rfl ?_
          exact k)
        obtain ⟨cq2750, kq2750, q2750a, q2750b, q2750c⟩ := isOf hZ e2688 f2688_10
        obtain ⟨_, _, ⟨T2750, L2750, k2750, n2750⟩, -, X2750, hSi2750, hgr2750, ⟨Lc2750, hQ2750, l2750, y2750, z2750⟩, st2750⟩ := X2688.virtualBackS hx (y := (⟨"com/example/stowline/stowline/VolumeBound", "add", "([J)V"⟩ : MethodName)) (z := (⟨"com/example/stowline/stowline/VolumeBound", "add", "([J)V"⟩ : MethodName)) hown (mvT hZ (own_m hw 58 rfl)) (mvT hZ (own_m hw 59 rfl)) (notFace_of_selects (args := #[]) (mvT hZ (own_m hw 61 rfl))) (mvT hZ (own_m hw 61 rfl)) (mvT hZ (own_m hw 60 rfl)) (by decide) (backOfS (W := 0) (rm7_2 l Z aw hw [] b2604 b2390 cx02624 cx12624 cx22624 ((own_c q0)) ((own_c q1)) ((j0_14 q0 q2 q3)) ((j0_15 q1 q2 q3)) ((j0_16 q0 q2 q3)) ((j0_17 q1 q2 q3)) ((own_z q4 q0)) ((own_z q5 q1)) cy02624 cy12624 cy22624 k2390 h2688 n0 Z2688 f2688_10 f2688_11 f2688_12 f2688_13 f2688_14 f2688_15 f2688_16 f2688_5 g_cx12624 g_cx22624 ne2658 ne2664 nx_cx02624_cx12624 nx_cx02624_cx22624 nx_cx12624_cx22624 ne2655 ne2661 (own_p0 _ (own_zb q4 q0).1) (own_p0 _ (own_zb q5 q1).1) (own_pc _ _ (own_zb q4 q0).2) (own_pc _ _ (own_zb q5 q1).2)) hZ (own_m hw 62 rfl) (own_m hw 20 rfl) (by decide) (by decide)) q2750a q2750c (g := (mkF m 286 L_2665 [(.ref b2390), (.ref b2604)])) rfl (by rw [hml]; rfl) (Steps.refl _) (argsL := [(.ref b2390)]) (rest := []) (lenOf pd_6 rfl) rfl (by show 2 * 0 + _ ≤ _; exact Nat.le_of_eq rfl) (hb hby at_286) (fun _ _ => ⟨rfl, e2688, (by decide : 13 + 2 ≤ _), (by decide : 91 + 24 ≤ _)⟩)
        dsimp only [Pt.U, Pt.locs, Pt.cells, Pt.slots] at X2750 l2750 y2750 z2750 st2750 hQ2750 hSi2750 hgr2750
        subst l2750 y2750 z2750
        obtain ⟨X2750, hS, hZ, hown⟩ := rebS hS (show _ ≤ T2688.heap.size from own_hk hk e2688) X2750 hSi2750 hgr2750 hZ hown
        obtain ⟨h2750, e2750⟩ : ∃ z, T2750.heap = z := ⟨_, rfl⟩
        rw [e2750] at hQ2750
        obtain ⟨rfl, N2750q, K2750q, f2752, f2753⟩ := hQ2750
        have f2754 := f2688_0.keep K2750q
        have f2755 := f2688_1.keep K2750q (ninS ne2653 (ninS ne2659 nin0))
        have f2756 := f2688_2.keep K2750q
        have f2757 := f2688_3.keep K2750q (ninS ne2654 (ninS ne2660 nin0))
        have f2758 := f2688_4.keep K2750q
        have f2759 := f2688_5.keep K2750q (ninS ne2655 (ninS ne2661 nin0))
        have f2760 := f2688_6.keep K2750q
        have f2761 := f2688_7.keep K2750q (ninS ne2656 (ninS ne2662 nin0))
        have f2762 := f2688_8.keep K2750q
        have f2763 := f2688_9.keep K2750q (ninS ne2657 (ninS ne2663 nin0))
        have f2764 := f2688_10.keep K2750q
        have f2765 := f2688_11.keep K2750q (ninS ne2658 (ninS ne2664 nin0))
        have f2766 := f2688_12.keep K2750q (ninS ne2658 (ninS ne2664 nin0))
        have f2767 := f2688_13.keep K2750q (ninS ne2658 (ninS ne2664 nin0))
        have f2768 := f2688_14.keep K2750q (ninS nx_cx02624_cx12624 (ninS nx_cx02624_cx22624 nin0))
        have Z2750 := Nat.le_trans Z2688 K2750q.1
        have hk : T2750.heap.size ≤ h2750.size := by rw [e2750]; exact Nat.le_refl _
        have N2750 := Fr.app N2688 N2750q
        have pre2771 := fun (t : State) (k : Steps p.tables e below (T2750.setTop (mkF m 289 L_2665 [])) t) => pre2751 t (by
          show Steps p.tables e below (T2688.setTop (mkF m 286 L_2665 [(.ref b2390), (.ref b2604)])) _
          refine st2750.trans ?_
          exact k)
        have hj2772 : (j0_18 q0 q2 q3 q4) = (j7_2_0 (own_c q0) (j0_14 q0 q2 q3) (j0_16 q0 q2 q3) (own_z q4 q0)) := by unfold j0_18; first | (rw [if_neg hc2744]) | (simp only [if_neg hc2744])
        have hj2773 : (j0_19 q1 q2 q3 q5) = (j7_2_2 (own_c q1) (j0_15 q1 q2 q3) (j0_17 q1 q2 q3) (own_z q5 q1)) := by unfold j0_19; first | (rw [if_neg hc2744]) | (simp only [if_neg hc2744])
        have hj2774 : (j0_20 q0 q2 q3 q4) = (j7_2_1 (own_c q0) (j0_16 q0 q2 q3) (own_z q4 q0)) := by unfold j0_20; first | (rw [if_neg hc2744]) | (simp only [if_neg hc2744])
        have hj2775 : (j0_21 q1 q2 q3 q5) = (j7_2_3 (own_c q1) (j0_17 q1 q2 q3) (own_z q5 q1)) := by unfold j0_21; first | (rw [if_neg hc2744]) | (simp only [if_neg hc2744])
        exact ⟨T2750, h2750, _, _, _, X2750, e2750, N2750, Z2750, hS, hk, hZ, hown, f2754, f2755, f2756, f2757, f2758, f2759, f2760, f2761, f2762, f2763, f2764, f2765, f2766, f2767, f2768, (by rw [hj2772, hj2773]; exact f2752), (by rw [hj2774, hj2775]; exact f2753), fun t k => pre2771 t (by exact k)⟩
    have pre2797 := fun (t : State) (k : Steps p.tables e below (T2743.setTop (mkF m 292 L_2665 [(.int (3 : Int32)), (.int (own_Nn q2 q3))])) t) => pre2743 t (by
      show Steps p.tables e below (T2743.setTop (mkF m 289 L_2665 [])) _
      refine XS.iload X2743.here hx rfl (hb hby at_289) rfl ?_
      refine XS.iconst X2743.here hx rfl (hb hby at_291) ?_
      exact k)
    obtain ⟨T2798, h2798, L2798, vm2798, kk2798, X2798, e2798, N2798, Z2798, hS, hk, hZ, hown, f2798_0, f2798_1, f2798_2, f2798_3, f2798_4, f2798_5, f2798_6, f2798_7, f2798_8, f2798_9, f2798_10, f2798_11, f2798_12, f2798_13, f2798_14, f2798_15, f2798_16, pre2798⟩ : ∃ (T2798 : State) (h2798 : Heap) (L2798 : List Loc) (vm2798 : Vm) (kk2798 : Nat), Stand p l e room_1 (s.setVm vm2798) m #[(.long q0), (.long q1), (.long q2), (.long q3), (.long q4), (.long q5)] below meth c T2798 L2798 17 139 ∧ T2798.heap = h2798 ∧ Fr n0 L2798 ∧ n0 ≤ h2798.size ∧ s.Since vm2798 kk2798 ∧ kk2798 ≤ h2798.size ∧ Z.Warmed39 (s.setVm vm2798).vm ∧ (s.setVm vm2798).vm.findClass "com/example/stowline/stowline/VolumeBoundCopyTotalsPinLaw" = some m.cls ∧ Exa Z h2798 b2381 "[J" ∧ Arv Z h2798 b2381 k2381 .long (2 : Int32) [(.long (own_c q0)), (.long (own_c q1))] (.long (0 : Int64)) ∧ Exa Z h2798 b2384 "[J" ∧ Arv Z h2798 b2384 k2384 .long (2 : Int32) [(.long (own_z q2 q0)), (.long (own_z q3 q1))] (.long (0 : Int64)) ∧ Exa Z h2798 b2390 "[J" ∧ Arv Z h2798 b2390 k2390 .long (2 : Int32) [(.long (own_z q4 q0)), (.long (own_z q5 q1))] (.long (0 : Int64)) ∧ Exa Z h2798 b2465 "[J" ∧ Arv Z h2798 b2465 k2465 .long (4 : Int32) [(.long (-1 : Int64)), (.long (-2 : Int64)), (.long (-3 : Int64)), (.long (-4 : Int64))] (.long (0 : Int64)) ∧ Exa Z h2798 b2529 "[J" ∧ Arv Z h2798 b2529 k2529 .long (4 : Int32) [(.long (-11 : Int64)), (.long (-12 : Int64)), (.long (-13 : Int64)), (.long (-14 : Int64))] (.long (0 : Int64)) ∧ Exa Z h2798 b2604 "com/example/stowline/stowline/VolumeBound" ∧ Fld Z h2798 b2604 "com/example/stowline/stowline/VolumeBound" "capacities" "[J" (.ref cx02624) ∧ Fld Z h2798 b2604 "com/example/stowline/stowline/VolumeBound" "wholeCapacities" "[J" (.ref cx12624) ∧ Fld Z h2798 b2604 "com/example/stowline/stowline/VolumeBound" "remainders" "[J" (.ref cx22624) ∧ Arv Z h2798 cx02624 cy02624 .long (2 : Int32) [(.long (own_c q0)), (.long (own_c q1))] (.long (0 : Int64)) ∧ Arv Z h2798 cx12624 cy12624 .long (2 : Int32) [(.long (j0_22 q0 q2 q3 q4)), (.long (j0_23 q1 q2 q3 q5))] (.long (0 : Int64)) ∧ Arv Z h2798 cx22624 cy22624 .long (2 : Int32) [(.long (j0_24 q0 q2 q3 q4)), (.long (j0_25 q1 q2 q3 q5))] (.long (0 : Int64)) ∧ ∀ t, Steps p.tables e below (T2798.setTop (mkF m 302 L_2665 [])) t → Steps p.tables e below (s₁.setTop (entryFrame m #[(.long q0), (.long q1), (.long q2), (.long q3), (.long q4), (.long q5)] maxLocals)) t := by
      by_cases hc2799 : (own_Nn q2 q3) = (3 : Int32)
      · skip
        have pre2801 := fun (t : State) (k : Steps p.tables e below (T2743.setTop (mkF m 299 L_2665 [(.ref b2384), (.ref b2604)])) t) => pre2797 t (by
          show Steps p.tables e below (T2743.setTop (mkF m 292 L_2665 [(.int (3 : Int32)), (.int (own_Nn q2 q3))])) _
          refine XS.icmpNo X2743.here hx rfl (hb hby at_292) rfl (teq hc2799).2 ?_
          refine XS.aload X2743.here hx rfl (hb hby at_295) rfl rfl ?_
          refine XS.aload X2743.here hx rfl (hb hby at_297) rfl rfl ?_
          exact k)
        obtain ⟨cq2800, kq2800, q2800a, q2800b, q2800c⟩ := isOf hZ e2743 f2743_10
        obtain ⟨_, _, ⟨T2800, L2800, k2800, n2800⟩, -, X2800, hSi2800, hgr2800, ⟨Lc2800, hQ2800, l2800, y2800, z2800⟩, st2800⟩ := X2743.virtualBackS hx (y := (⟨"com/example/stowline/stowline/VolumeBound", "remove", "([J)V"⟩ : MethodName)) (z := (⟨"com/example/stowline/stowline/VolumeBound", "remove", "([J)V"⟩ : MethodName)) hown (mvT hZ (own_m hw 87 rfl)) (mvT hZ (own_m hw 88 rfl)) (notFace_of_selects (args := #[]) (mvT hZ (own_m hw 90 rfl))) (mvT hZ (own_m hw 90 rfl)) (mvT hZ (own_m hw 89 rfl)) (by decide) (backOfS (W := 0) (rm13_2 l Z aw hw [] b2604 b2384 cx02624 cx12624 cx22624 ((own_c q0)) ((own_c q1)) ((j0_18 q0 q2 q3 q4)) ((j0_19 q1 q2 q3 q5)) ((j0_20 q0 q2 q3 q4)) ((j0_21 q1 q2 q3 q5)) ((own_z q2 q0)) ((own_z q3 q1)) cy02624 cy12624 cy22624 k2384 h2743 n0 Z2743 f2743_10 f2743_11 f2743_12 f2743_13 f2743_14 f2743_15 f2743_16 f2743_3 g_cx12624 g_cx22624 ne2658 ne2664 nx_cx02624_cx12624 nx_cx02624_cx22624 nx_cx12624_cx22624 ne2654 ne2660 (own_p0 _ (own_zb q2 q0).1) (own_p0 _ (own_zb q3 q1).1) (own_pc _ _ (own_zb q2 q0).2) (own_pc _ _ (own_zb q3 q1).2) (own_rmN (own_c q0) (own_z q2 q0) (own_z q4 q0) _ hc2799 (own_cp q0) (own_zb q2 q0).1 (own_zb q2 q0).2 (own_zb q4 q0).1 (own_zb q4 q0).2) (own_rmN (own_c q1) (own_z q3 q1) (own_z q5 q1) _ hc2799 (own_cp q1) (own_zb q3 q1).1 (own_zb q3 q1).2 (own_zb q5 q1).1 (own_zb q5 q1).2)) hZ (own_m hw 91 rfl) (own_m hw 20 rfl) (by decide) (by decide)) q2800a q2800c (g := (mkF m 299 L_2665 [(.ref b2384), (.ref b2604)])) rfl (by rw [hml]; rfl) (Steps.refl _) (argsL := [(.ref b2384)]) (rest := []) (lenOf pd_6 rfl) rfl (by show 2 * 0 + _ ≤ _; exact Nat.le_of_eq rfl) (hb hby at_299) (fun _ _ => ⟨rfl, e2743, (by decide : 15 + 2 ≤ _), (by decide : 115 + 24 ≤ _)⟩)
        dsimp only [Pt.U, Pt.locs, Pt.cells, Pt.slots] at X2800 l2800 y2800 z2800 st2800 hQ2800 hSi2800 hgr2800
        subst l2800 y2800 z2800
        obtain ⟨X2800, hS, hZ, hown⟩ := rebS hS (show _ ≤ T2743.heap.size from own_hk hk e2743) X2800 hSi2800 hgr2800 hZ hown
        obtain ⟨h2800, e2800⟩ : ∃ z, T2800.heap = z := ⟨_, rfl⟩
        rw [e2800] at hQ2800
        obtain ⟨rfl, N2800q, K2800q, f2802, f2803⟩ := hQ2800
        have f2804 := f2743_0.keep K2800q
        have f2805 := f2743_1.keep K2800q (ninS ne2653 (ninS ne2659 nin0))
        have f2806 := f2743_2.keep K2800q
        have f2807 := f2743_3.keep K2800q (ninS ne2654 (ninS ne2660 nin0))
        have f2808 := f2743_4.keep K2800q
        have f2809 := f2743_5.keep K2800q (ninS ne2655 (ninS ne2661 nin0))
        have f2810 := f2743_6.keep K2800q
        have f2811 := f2743_7.keep K2800q (ninS ne2656 (ninS ne2662 nin0))
        have f2812 := f2743_8.keep K2800q
        have f2813 := f2743_9.keep K2800q (ninS ne2657 (ninS ne2663 nin0))
        have f2814 := f2743_10.keep K2800q
        have f2815 := f2743_11.keep K2800q (ninS ne2658 (ninS ne2664 nin0))
        have f2816 := f2743_12.keep K2800q (ninS ne2658 (ninS ne2664 nin0))
        have f2817 := f2743_13.keep K2800q (ninS ne2658 (ninS ne2664 nin0))
        have f2818 := f2743_14.keep K2800q (ninS nx_cx02624_cx12624 (ninS nx_cx02624_cx22624 nin0))
        have Z2800 := Nat.le_trans Z2743 K2800q.1
        have hk : T2800.heap.size ≤ h2800.size := by rw [e2800]; exact Nat.le_refl _
        have N2800 := Fr.app N2743 N2800q
        have pre2821 := fun (t : State) (k : Steps p.tables e below (T2800.setTop (mkF m 302 L_2665 [])) t) => pre2801 t (by
          show Steps p.tables e below (T2743.setTop (mkF m 299 L_2665 [(.ref b2384), (.ref b2604)])) _
          refine st2800.trans ?_
          exact k)
        have hj2822 : (j0_22 q0 q2 q3 q4) = (j13_2_0 (j0_18 q0 q2 q3 q4) (j0_20 q0 q2 q3 q4) (own_z q2 q0)) := by unfold j0_22; first | (rw [if_pos hc2799]) | (simp only [if_pos hc2799])
        have hj2823 : (j0_23 q1 q2 q3 q5) = (j13_2_2 (j0_19 q1 q2 q3 q5) (j0_21 q1 q2 q3 q5) (own_z q3 q1)) := by unfold j0_23; first | (rw [if_pos hc2799]) | (simp only [if_pos hc2799])
        have hj2824 : (j0_24 q0 q2 q3 q4) = (j13_2_1 (own_c q0) (j0_20 q0 q2 q3 q4) (own_z q2 q0)) := by unfold j0_24; first | (rw [if_pos hc2799]) | (simp only [if_pos hc2799])
        have hj2825 : (j0_25 q1 q2 q3 q5) = (j13_2_3 (own_c q1) (j0_21 q1 q2 q3 q5) (own_z q3 q1)) := by unfold j0_25; first | (rw [if_pos hc2799]) | (simp only [if_pos hc2799])
        exact ⟨T2800, h2800, _, _, _, X2800, e2800, N2800, Z2800, hS, hk, hZ, hown, f2804, f2805, f2806, f2807, f2808, f2809, f2810, f2811, f2812, f2813, f2814, f2815, f2816, f2817, f2818, (by rw [hj2822, hj2823]; exact f2802), (by rw [hj2824, hj2825]; exact f2803), fun t k => pre2821 t (by exact k)⟩
      · skip
        have pre2826 := fun (t : State) (k : Steps p.tables e below (T2743.setTop (mkF m 302 L_2665 [])) t) => pre2797 t (by
          show Steps p.tables e below (T2743.setTop (mkF m 292 L_2665 [(.int (3 : Int32)), (.int (own_Nn q2 q3))])) _
          refine XS.icmpYes X2743.here hx rfl (pc0 := 292) (pc' := 302) rfl (hb hby at_292) rfl (feq hc2799).2 (by decide) (by decide) ?_
          exact k)
        have hj2827 : (j0_22 q0 q2 q3 q4) = (j0_18 q0 q2 q3 q4) := by unfold j0_22; first | (rw [if_neg hc2799]) | (simp only [if_neg hc2799])
        have hj2828 : (j0_23 q1 q2 q3 q5) = (j0_19 q1 q2 q3 q5) := by unfold j0_23; first | (rw [if_neg hc2799]) | (simp only [if_neg hc2799])
        have hj2829 : (j0_24 q0 q2 q3 q4) = (j0_20 q0 q2 q3 q4) := by unfold j0_24; first | (rw [if_neg hc2799]) | (simp only [if_neg hc2799])
        have hj2830 : (j0_25 q1 q2 q3 q5) = (j0_21 q1 q2 q3 q5) := by unfold j0_25; first | (rw [if_neg hc2799]) | (simp only [if_neg hc2799])
        exact ⟨T2743, h2743, _, _, _, (X2743.more (by decide) (by decide)), e2743, N2743, Z2743, hS, hk, hZ, hown, f2743_0, f2743_1, f2743_2, f2743_3, f2743_4, f2743_5, f2743_6, f2743_7, f2743_8, f2743_9, f2743_10, f2743_11, f2743_12, f2743_13, f2743_14, (by rw [hj2827, hj2828]; exact f2743_15), (by rw [hj2829, hj2830]; exact f2743_16), fun t k => pre2826 t (by exact k)⟩
    by_cases hs2831 : (((j0_2 q4) + (j0_3 q5)) % (3 : Int32)) = (0 : Int32)
    · skip
      let L_2833 : Array Slot := #[.val (.long q0), .second, .val (.long q1), .second, .val (.long q2), .second, .val (.long q3), .second, .val (.long q4), .second, .val (.long q5), .second, .val (.int (2 : Int32)), .val (.int (own_Nn q2 q3)), .val (.int ((j0_2 q4) + (j0_3 q5))), .val (.int (0 : Int32)), .val (.long (own_c q0)), .second, .val (.long (own_c q1)), .second, .val (.long (own_z q2 q0)), .second, .val (.long (own_z q3 q1)), .second, .val (.long (own_z q4 q0)), .second, .val (.long (own_z q5 q1)), .second, .val (.ref b2381), .val (.ref b2384), .val (.ref b2390), .val (.ref b2465), .val (.ref b2529), .val (.ref b2604), .unset]
      have pre2832 := fun (t : State) (k : Steps p.tables e below (T2798.setTop (mkF m 302 L_2833 [])) t) => pre2798 t (by show Steps p.tables e below (T2798.setTop (mkF m 302 #[.val (.long q0), .second, .val (.long q1), .second, .val (.long q2), .second, .val (.long q3), .second, .val (.long q4), .second, .val (.long q5), .second, .val (.int (2 : Int32)), .val (.int (own_Nn q2 q3)), .val (.int ((j0_2 q4) + (j0_3 q5))), .val (.int (((j0_2 q4) + (j0_3 q5)) % (3 : Int32))), .val (.long (own_c q0)), .second, .val (.long (own_c q1)), .second, .val (.long (own_z q2 q0)), .second, .val (.long (own_z q3 q1)), .second, .val (.long (own_z q4 q0)), .second, .val (.long (own_z q5 q1)), .second, .val (.ref b2381), .val (.ref b2384), .val (.ref b2390), .val (.ref b2465), .val (.ref b2529), .val (.ref b2604), .unset] [])) t; rw [hs2831]; exact k)
      obtain ⟨cq2834, kq2834, q2834a, q2834b, q2834c⟩ := isOf hZ e2798 f2798_10
      obtain ⟨_, _, ⟨T2834, L2834, k2834, n2834⟩, -, X2834, ⟨Lc2834, hQ2834, l2834, y2834, z2834⟩, st2834⟩ := X2798.virtualBack hx (y := (⟨"com/example/stowline/stowline/VolumeBound", "copyTotals", "([J[JI)V"⟩ : MethodName)) (z := (⟨"com/example/stowline/stowline/VolumeBound", "copyTotals", "([J[JI)V"⟩ : MethodName)) hown (mvT hZ (own_m hw 72 rfl)) (mvT hZ (own_m hw 73 rfl)) (notFace_of_selects (args := #[]) (mvT hZ (own_m hw 75 rfl))) (mvT hZ (own_m hw 75 rfl)) (mvT hZ (own_m hw 74 rfl)) (by decide) (backOf (W := 0) (rm10_2_0 l Z aw hw [] b2604 b2465 b2529 cx12624 cx22624 ((j0_22 q0 q2 q3 q4)) ((j0_23 q1 q2 q3 q5)) ((j0_24 q0 q2 q3 q4)) ((j0_25 q1 q2 q3 q5)) ((-1 : Int64)) ((-2 : Int64)) ((-3 : Int64)) ((-4 : Int64)) ((-11 : Int64)) ((-12 : Int64)) ((-13 : Int64)) ((-14 : Int64)) cy12624 cy22624 k2465 k2529 h2798 n0 Z2798 f2798_10 f2798_12 f2798_13 f2798_15 f2798_16 f2798_7 f2798_9 g_b2465 g_b2529 (Ne.symm ne2618) (Ne.symm ne2619) (Ne.symm ne2656) (Ne.symm ne2657) (Ne.symm ne2662) (Ne.symm ne2663) ne2541) hZ (own_m hw 76 rfl) (own_m hw 20 rfl) (by decide) (by decide)) q2834a q2834c (g := (mkF m 310 L_2833 [(.int (0 : Int32)), (.ref b2529), (.ref b2465), (.ref b2604)])) rfl (by rw [hml]; rfl) (Steps.refl _) (argsL := [(.ref b2465), (.ref b2529), (.int (0 : Int32))]) (rest := []) (lenOf pd_9 rfl) rfl (by show 2 * 0 + _ ≤ _; exact Nat.le_of_eq rfl) (hb hby at_310) (fun _ _ => ⟨rfl, e2798, (by decide : 17 + 0 ≤ _), (by decide : 139 + 0 ≤ _)⟩)
      dsimp only [Pt.U, Pt.locs, Pt.cells, Pt.slots] at X2834 l2834 y2834 z2834 st2834 hQ2834
      subst l2834 y2834 z2834
      obtain ⟨h2834, e2834⟩ : ∃ z, T2834.heap = z := ⟨_, rfl⟩
      rw [e2834] at hQ2834
      obtain ⟨rfl, N2834q, K2834q, f2835, f2836⟩ := hQ2834
      have f2837 := f2798_0.keep K2834q
      have f2838 := f2798_1.keep K2834q (ninS ne2472 (ninS ne2538 nin0))
      have f2839 := f2798_2.keep K2834q
      have f2840 := f2798_3.keep K2834q (ninS ne2473 (ninS ne2539 nin0))
      have f2841 := f2798_4.keep K2834q
      have f2842 := f2798_5.keep K2834q (ninS ne2474 (ninS ne2540 nin0))
      have f2843 := f2798_6.keep K2834q
      have f2845 := f2798_8.keep K2834q
      have f2847 := f2798_10.keep K2834q
      have f2848 := f2798_11.keep K2834q (ninS (Ne.symm ne2618) (ninS (Ne.symm ne2619) nin0))
      have f2849 := f2798_12.keep K2834q (ninS (Ne.symm ne2618) (ninS (Ne.symm ne2619) nin0))
      have f2850 := f2798_13.keep K2834q (ninS (Ne.symm ne2618) (ninS (Ne.symm ne2619) nin0))
      have f2851 := f2798_14.keep K2834q (ninS (Ne.symm ne2650) (ninS (Ne.symm ne2651) nin0))
      have f2852 := f2798_15.keep K2834q (ninS (Ne.symm ne2656) (ninS (Ne.symm ne2657) nin0))
      have f2853 := f2798_16.keep K2834q (ninS (Ne.symm ne2662) (ninS (Ne.symm ne2663) nin0))
      have Z2834 := Nat.le_trans Z2798 K2834q.1
      have hk := Nat.le_trans hk K2834q.1
      have N2834 := Fr.app N2798 N2834q
      obtain ⟨cl2854, Ar2854, q2854, S2854, M2854, H2854, G2854⟩ := id f2835
      have hin2855 : ¬ ((0 : Int32) < 0 ∨ cl2854.slots.size ≤ ((0 : Int32)).toNatClampNeg) := inb_of S2854 ⟨by decide, by decide⟩
      have hat2856 : cl2854.slots[((0 : Int32)).toNatClampNeg]? = some (.long (j0_22 q0 q2 q3 q4)) := H2854.at hin2855 rfl
      obtain ⟨cl2857, Ar2857, q2857, S2857, M2857, H2857, G2857⟩ := id f2836
      have hin2858 : ¬ ((0 : Int32) < 0 ∨ cl2857.slots.size ≤ ((0 : Int32)).toNatClampNeg) := inb_of S2857 ⟨by decide, by decide⟩
      have hat2859 : cl2857.slots[((0 : Int32)).toNatClampNeg]? = some (.long (j0_24 q0 q2 q3 q4)) := H2857.at hin2858 rfl
      obtain ⟨_, _, ⟨T2860, L2860, k2860, n2860⟩, -, X2860, ⟨Lc2860, hQ2860, l2860, y2860, z2860⟩, st2860⟩ := Jvm.LawKit.callS X2834 hx (y := (⟨"com/example/stowline/stowline/VolumeBoundCopyTotalsPinLaw", "check", "(JJJIJJ)Z"⟩ : MethodName)) hown (mvT hZ (own_m hw 81 rfl)) (mvT hZ (own_m hw 82 rfl)) (mvT hZ (own_m hw 7 rfl)) (mvT hZ (own_m hw 83 rfl)) (by decide) (backOf (W := 0) (rm11 l Z aw hw [] ((own_c q0)) ((own_z q2 q0)) ((own_z q4 q0)) ((own_Nn q2 q3)) ((j0_22 q0 q2 q3 q4)) ((j0_24 q0 q2 q3 q4)) h2834 n0 Z2834 ) hZ (own_m hw 83 rfl) (own_m hw 7 rfl) (by decide) (by decide)) (g := (mkF m 331 L_2833 [(.long (j0_24 q0 q2 q3 q4)), (.long (j0_22 q0 q2 q3 q4)), (.int (own_Nn q2 q3)), (.long (own_z q4 q0)), (.long (own_z q2 q0)), (.long (own_c q0))])) rfl (by rw [hml]; rfl) (argsL := [(.long (own_c q0)), (.long (own_z q2 q0)), (.long (own_z q4 q0)), (.int (own_Nn q2 q3)), (.long (j0_22 q0 q2 q3 q4)), (.long (j0_24 q0 q2 q3 q4))]) (rest := []) (lenOf pd_10 rfl) rfl (by show 2 * 0 + _ ≤ _; exact Nat.le_of_eq rfl) (hb hby at_331) (fun _ _ => ⟨rfl, e2834, (by decide : 17 + 0 ≤ _), (by decide : 139 + 0 ≤ _)⟩)
      dsimp only [Pt.U, Pt.locs, Pt.cells, Pt.slots] at X2860 l2860 y2860 z2860 st2860 hQ2860
      subst l2860 y2860 z2860
      obtain ⟨rfl, N2860q, e2860⟩ := hQ2860
      have N2860 := Fr.app N2834 N2860q
      let L_2861 : Array Slot := #[.val (.long q0), .second, .val (.long q1), .second, .val (.long q2), .second, .val (.long q3), .second, .val (.long q4), .second, .val (.long q5), .second, .val (.int (2 : Int32)), .val (.int (own_Nn q2 q3)), .val (.int ((j0_2 q4) + (j0_3 q5))), .val (.int (0 : Int32)), .val (.long (own_c q0)), .second, .val (.long (own_c q1)), .second, .val (.long (own_z q2 q0)), .second, .val (.long (own_z q3 q1)), .second, .val (.long (own_z q4 q0)), .second, .val (.long (own_z q5 q1)), .second, .val (.ref b2381), .val (.ref b2384), .val (.ref b2390), .val (.ref b2465), .val (.ref b2529), .val (.ref b2604), .val (.int (v11 (own_c q0) (own_z q2 q0) (own_z q4 q0) (own_Nn q2 q3) (j0_22 q0 q2 q3 q4) (j0_24 q0 q2 q3 q4)))]
      have pre2871 := fun (t : State) (k : Steps p.tables e below (T2860.setTop (mkF m 344 L_2861 [(.int (v11 (own_c q0) (own_z q2 q0) (own_z q4 q0) (own_Nn q2 q3) (j0_22 q0 q2 q3 q4) (j0_24 q0 q2 q3 q4)))])) t) => pre2832 t (by
        show Steps p.tables e below (T2798.setTop (mkF m 302 L_2833 [])) _
        refine XS.aload X2798.here hx rfl (hb hby at_302) rfl rfl ?_
        refine XS.aload X2798.here hx rfl (hb hby at_304) rfl rfl ?_
        refine XS.aload X2798.here hx rfl (hb hby at_306) rfl rfl ?_
        refine XS.iload X2798.here hx rfl (hb hby at_308) rfl ?_
        show Steps p.tables e below (T2798.setTop (mkF m 310 L_2833 [(.int (0 : Int32)), (.ref b2529), (.ref b2465), (.ref b2604)])) _
        refine st2834.trans ?_
        refine XS.lload X2834.here hx rfl (hb hby at_313) rfl ?_
        refine XS.lload X2834.here hx rfl (hb hby at_315) rfl ?_
        refine XS.lload X2834.here hx rfl (hb hby at_317) rfl ?_
        refine XS.iload X2834.here hx rfl (hb hby at_319) rfl ?_
        refine XS.aload X2834.here hx rfl (hb hby at_321) rfl rfl ?_
        show Steps p.tables e below (T2834.setTop (mkF m 323 L_2833 [(.ref b2465), (.int (own_Nn q2 q3)), (.long (own_z q4 q0)), (.long (own_z q2 q0)), (.long (own_c q0))])) _
        refine XS.iload X2834.here hx rfl (hb hby at_323) rfl ?_
        show Steps p.tables e below (T2834.setTop (mkF m 325 L_2833 [(.int (0 : Int32)), (.ref b2465), (.int (own_Nn q2 q3)), (.long (own_z q4 q0)), (.long (own_z q2 q0)), (.long (own_c q0))])) _
        refine X2834.laload hx (j := (0 : Int32)) (v := (.long (j0_22 q0 q2 q3 q4))) (by rw [e2834]; exact Ar2854.1) (State.isArrayOf_alike hZ.alike Ar2854.2.1) Ar2854.2.2 hin2855 hat2856 (g := (mkF m 325 L_2833 [(.int (0 : Int32)), (.ref b2465), (.int (own_Nn q2 q3)), (.long (own_z q4 q0)), (.long (own_z q2 q0)), (.long (own_c q0))])) rfl rfl (hb hby at_325) _ ?_
        refine XS.aload X2834.here hx rfl (hb hby at_326) rfl rfl ?_
        refine XS.iload X2834.here hx rfl (hb hby at_328) rfl ?_
        show Steps p.tables e below (T2834.setTop (mkF m 330 L_2833 [(.int (0 : Int32)), (.ref b2529), (.long (j0_22 q0 q2 q3 q4)), (.int (own_Nn q2 q3)), (.long (own_z q4 q0)), (.long (own_z q2 q0)), (.long (own_c q0))])) _
        refine X2834.laload hx (j := (0 : Int32)) (v := (.long (j0_24 q0 q2 q3 q4))) (by rw [e2834]; exact Ar2857.1) (State.isArrayOf_alike hZ.alike Ar2857.2.1) Ar2857.2.2 hin2858 hat2859 (g := (mkF m 330 L_2833 [(.int (0 : Int32)), (.ref b2529), (.long (j0_22 q0 q2 q3 q4)), (.int (own_Nn q2 q3)), (.long (own_z q4 q0)), (.long (own_z q2 q0)), (.long (own_c q0))])) rfl rfl (hb hby at_330) _ ?_
        show Steps p.tables e below (T2834.setTop (mkF m 331 L_2833 [(.long (j0_24 q0 q2 q3 q4)), (.long (j0_22 q0 q2 q3 q4)), (.int (own_Nn q2 q3)), (.long (own_z q4 q0)), (.long (own_z q2 q0)), (.long (own_c q0))])) _
        refine st2860 _ ?_
        refine XS.istore X2860.here hx rfl (hb hby at_334) rfl (l' := L_2861) rfl ?_
        refine XS.iload X2860.here hx rfl (hb hby at_336) rfl ?_
        refine XS.iconst X2860.here hx rfl (hb hby at_338) ?_
        refine XS.icmpNo X2860.here hx rfl (hb hby at_339) rfl (teq (rfl : (2 : Int32) = (2 : Int32))).2 ?_
        refine XS.iload X2860.here hx rfl (hb hby at_342) rfl ?_
        exact k)
      obtain ⟨T2872, L2872, X2872, e2872, N2872, pre2872⟩ : ∃ (T2872 : State) (L2872 : List Loc), Stand p l e room_1 (s.setVm vm2798) m #[(.long q0), (.long q1), (.long q2), (.long q3), (.long q4), (.long q5)] below meth c T2872 L2872 17 139 ∧ T2872.heap = h2834 ∧ Fr n0 L2872 ∧ ∀ t, Steps p.tables e below (T2872.setTop (mkF m 380 L_2861 [(.int (j0_26 q0 q1 q2 q3 q4 q5))])) t → Steps p.tables e below (s₁.setTop (entryFrame m #[(.long q0), (.long q1), (.long q2), (.long q3), (.long q4), (.long q5)] maxLocals)) t := by
        by_cases hc2873 : (v11 (own_c q0) (own_z q2 q0) (own_z q4 q0) (own_Nn q2 q3) (j0_22 q0 q2 q3 q4) (j0_24 q0 q2 q3 q4)) = (0 : Int32)
        · skip
          have pre2874 := fun (t : State) (k : Steps p.tables e below (T2860.setTop (mkF m 380 L_2861 [(.int (0 : Int32))])) t) => pre2871 t (by
            show Steps p.tables e below (T2860.setTop (mkF m 344 L_2861 [(.int (v11 (own_c q0) (own_z q2 q0) (own_z q4 q0) (own_Nn q2 q3) (j0_22 q0 q2 q3 q4) (j0_24 q0 q2 q3 q4)))])) _
            refine XS.ifYes X2860.here hx rfl (pc0 := 344) (pc' := 379) rfl (hb hby at_344) rfl ((if0 _ _).trans (teq hc2873).1) (by decide) (by decide) ?_
            refine XS.iconst X2860.here hx rfl (hb hby at_379) ?_
            exact k)
          have hj2875 : (j0_26 q0 q1 q2 q3 q4 q5) = (0 : Int32) := by unfold j0_26; first | (rw [if_pos hc2873]) | (simp only [if_pos hc2873])
          exact ⟨T2860, _, X2860, e2860, N2860, fun t k => pre2874 t (by rw [hj2875] at k; exact k)⟩
        · skip
          obtain ⟨cl2876, Ar2876, q2876, S2876, M2876, H2876, G2876⟩ := id f2835
          have hin2877 : ¬ ((1 : Int32) < 0 ∨ cl2876.slots.size ≤ ((1 : Int32)).toNatClampNeg) := inb_of S2876 ⟨by decide, by decide⟩
          have hat2878 : cl2876.slots[((1 : Int32)).toNatClampNeg]? = some (.long (j0_23 q1 q2 q3 q5)) := H2876.at hin2877 rfl
          obtain ⟨cl2879, Ar2879, q2879, S2879, M2879, H2879, G2879⟩ := id f2836
          have hin2880 : ¬ ((1 : Int32) < 0 ∨ cl2879.slots.size ≤ ((1 : Int32)).toNatClampNeg) := inb_of S2879 ⟨by decide, by decide⟩
          have hat2881 : cl2879.slots[((1 : Int32)).toNatClampNeg]? = some (.long (j0_25 q1 q2 q3 q5)) := H2879.at hin2880 rfl
          obtain ⟨_, _, ⟨T2882, L2882, k2882, n2882⟩, -, X2882, ⟨Lc2882, hQ2882, l2882, y2882, z2882⟩, st2882⟩ := Jvm.LawKit.callS X2860 hx (y := (⟨"com/example/stowline/stowline/VolumeBoundCopyTotalsPinLaw", "check", "(JJJIJJ)Z"⟩ : MethodName)) hown (mvT hZ (own_m hw 81 rfl)) (mvT hZ (own_m hw 82 rfl)) (mvT hZ (own_m hw 7 rfl)) (mvT hZ (own_m hw 83 rfl)) (by decide) (backOf (W := 0) (rm11 l Z aw hw [] ((own_c q1)) ((own_z q3 q1)) ((own_z q5 q1)) ((own_Nn q2 q3)) ((j0_23 q1 q2 q3 q5)) ((j0_25 q1 q2 q3 q5)) h2834 n0 Z2834 ) hZ (own_m hw 83 rfl) (own_m hw 7 rfl) (by decide) (by decide)) (g := (mkF m 369 L_2861 [(.long (j0_25 q1 q2 q3 q5)), (.long (j0_23 q1 q2 q3 q5)), (.int (own_Nn q2 q3)), (.long (own_z q5 q1)), (.long (own_z q3 q1)), (.long (own_c q1))])) rfl (by rw [hml]; rfl) (argsL := [(.long (own_c q1)), (.long (own_z q3 q1)), (.long (own_z q5 q1)), (.int (own_Nn q2 q3)), (.long (j0_23 q1 q2 q3 q5)), (.long (j0_25 q1 q2 q3 q5))]) (rest := []) (lenOf pd_10 rfl) rfl (by show 2 * 0 + _ ≤ _; exact Nat.le_of_eq rfl) (hb hby at_369) (fun _ _ => ⟨rfl, e2860, (by decide : 17 + 0 ≤ _), (by decide : 139 + 0 ≤ _)⟩)
          dsimp only [Pt.U, Pt.locs, Pt.cells, Pt.slots] at X2882 l2882 y2882 z2882 st2882 hQ2882
          subst l2882 y2882 z2882
          obtain ⟨rfl, N2882q, e2882⟩ := hQ2882
          have N2882 := Fr.app N2860 N2882q
          have pre2884 := fun (t : State) (k : Steps p.tables e below (T2882.setTop (mkF m 372 L_2861 [(.int (v11 (own_c q1) (own_z q3 q1) (own_z q5 q1) (own_Nn q2 q3) (j0_23 q1 q2 q3 q5) (j0_25 q1 q2 q3 q5)))])) t) => pre2871 t (by
            show Steps p.tables e below (T2860.setTop (mkF m 344 L_2861 [(.int (v11 (own_c q0) (own_z q2 q0) (own_z q4 q0) (own_Nn q2 q3) (j0_22 q0 q2 q3 q4) (j0_24 q0 q2 q3 q4)))])) _
            refine XS.ifNo X2860.here hx rfl (hb hby at_344) rfl ((if0 _ _).trans (feq hc2873).1) ?_
            refine XS.lload X2860.here hx rfl (hb hby at_347) rfl ?_
            refine XS.lload X2860.here hx rfl (hb hby at_349) rfl ?_
            refine XS.lload X2860.here hx rfl (hb hby at_351) rfl ?_
            refine XS.iload X2860.here hx rfl (hb hby at_353) rfl ?_
            refine XS.aload X2860.here hx rfl (hb hby at_355) rfl rfl ?_
            show Steps p.tables e below (T2860.setTop (mkF m 357 L_2861 [(.ref b2465), (.int (own_Nn q2 q3)), (.long (own_z q5 q1)), (.long (own_z q3 q1)), (.long (own_c q1))])) _
            refine XS.iload X2860.here hx rfl (hb hby at_357) rfl ?_
            refine XS.iconst X2860.here hx rfl (hb hby at_359) ?_
            refine XS.iadd X2860.here hx rfl (hb hby at_360) rfl ?_
            show Steps p.tables e below (T2860.setTop (mkF m 361 L_2861 [(.int (1 : Int32)), (.ref b2465), (.int (own_Nn q2 q3)), (.long (own_z q5 q1)), (.long (own_z q3 q1)), (.long (own_c q1))])) _
            refine X2860.laload hx (j := (1 : Int32)) (v := (.long (j0_23 q1 q2 q3 q5))) (by rw [e2860]; exact Ar2876.1) (State.isArrayOf_alike hZ.alike Ar2876.2.1) Ar2876.2.2 hin2877 hat2878 (g := (mkF m 361 L_2861 [(.int (1 : Int32)), (.ref b2465), (.int (own_Nn q2 q3)), (.long (own_z q5 q1)), (.long (own_z q3 q1)), (.long (own_c q1))])) rfl rfl (hb hby at_361) _ ?_
            refine XS.aload X2860.here hx rfl (hb hby at_362) rfl rfl ?_
            refine XS.iload X2860.here hx rfl (hb hby at_364) rfl ?_
            refine XS.iconst X2860.here hx rfl (hb hby at_366) ?_
            refine XS.iadd X2860.here hx rfl (hb hby at_367) rfl ?_
            show Steps p.tables e below (T2860.setTop (mkF m 368 L_2861 [(.int (1 : Int32)), (.ref b2529), (.long (j0_23 q1 q2 q3 q5)), (.int (own_Nn q2 q3)), (.long (own_z q5 q1)), (.long (own_z q3 q1)), (.long (own_c q1))])) _
            refine X2860.laload hx (j := (1 : Int32)) (v := (.long (j0_25 q1 q2 q3 q5))) (by rw [e2860]; exact Ar2879.1) (State.isArrayOf_alike hZ.alike Ar2879.2.1) Ar2879.2.2 hin2880 hat2881 (g := (mkF m 368 L_2861 [(.int (1 : Int32)), (.ref b2529), (.long (j0_23 q1 q2 q3 q5)), (.int (own_Nn q2 q3)), (.long (own_z q5 q1)), (.long (own_z q3 q1)), (.long (own_c q1))])) rfl rfl (hb hby at_368) _ ?_
            show Steps p.tables e below (T2860.setTop (mkF m 369 L_2861 [(.long (j0_25 q1 q2 q3 q5)), (.long (j0_23 q1 q2 q3 q5)), (.int (own_Nn q2 q3)), (.long (own_z q5 q1)), (.long (own_z q3 q1)), (.long (own_c q1))])) _
            refine st2882 _ ?_
            exact k)
          by_cases hc2883 : (v11 (own_c q1) (own_z q3 q1) (own_z q5 q1) (own_Nn q2 q3) (j0_23 q1 q2 q3 q5) (j0_25 q1 q2 q3 q5)) = (0 : Int32)
          · skip
            have pre2885 := fun (t : State) (k : Steps p.tables e below (T2882.setTop (mkF m 380 L_2861 [(.int (0 : Int32))])) t) => pre2884 t (by
              show Steps p.tables e below (T2882.setTop (mkF m 372 L_2861 [(.int (v11 (own_c q1) (own_z q3 q1) (own_z q5 q1) (own_Nn q2 q3) (j0_23 q1 q2 q3 q5) (j0_25 q1 q2 q3 q5)))])) _
              refine XS.ifYes X2882.here hx rfl (pc0 := 372) (pc' := 379) rfl (hb hby at_372) rfl ((if0 _ _).trans (teq hc2883).1) (by decide) (by decide) ?_
              refine XS.iconst X2882.here hx rfl (hb hby at_379) ?_
              exact k)
            have hj2886 : (j0_26 q0 q1 q2 q3 q4 q5) = (0 : Int32) := by unfold j0_26; first | (rw [if_neg hc2873, if_pos hc2883]) | (simp only [if_neg hc2873, if_pos hc2883])
            exact ⟨T2882, _, X2882, e2882, N2882, fun t k => pre2885 t (by rw [hj2886] at k; exact k)⟩
          · skip
            have pre2887 := fun (t : State) (k : Steps p.tables e below (T2882.setTop (mkF m 380 L_2861 [(.int (1 : Int32))])) t) => pre2884 t (by
              show Steps p.tables e below (T2882.setTop (mkF m 372 L_2861 [(.int (v11 (own_c q1) (own_z q3 q1) (own_z q5 q1) (own_Nn q2 q3) (j0_23 q1 q2 q3 q5) (j0_25 q1 q2 q3 q5)))])) _
              refine XS.ifNo X2882.here hx rfl (hb hby at_372) rfl ((if0 _ _).trans (feq hc2883).1) ?_
              refine XS.iconst X2882.here hx rfl (hb hby at_375) ?_
              refine XS.goto X2882.here hx rfl (pc0 := 376) (pc' := 380) rfl (hb hby at_376) (by decide) (by decide) ?_
              exact k)
            have hj2888 : (j0_26 q0 q1 q2 q3 q4 q5) = (1 : Int32) := by unfold j0_26; first | (rw [if_neg hc2873, if_neg hc2883]) | (simp only [if_neg hc2873, if_neg hc2883])
            exact ⟨T2882, _, X2882, e2882, N2882, fun t k => pre2887 t (by rw [hj2888] at k; exact k)⟩
      let L_2889 : Array Slot := #[.val (.long q0), .second, .val (.long q1), .second, .val (.long q2), .second, .val (.long q3), .second, .val (.long q4), .second, .val (.long q5), .second, .val (.int (2 : Int32)), .val (.int (own_Nn q2 q3)), .val (.int ((j0_2 q4) + (j0_3 q5))), .val (.int (0 : Int32)), .val (.long (own_c q0)), .second, .val (.long (own_c q1)), .second, .val (.long (own_z q2 q0)), .second, .val (.long (own_z q3 q1)), .second, .val (.long (own_z q4 q0)), .second, .val (.long (own_z q5 q1)), .second, .val (.ref b2381), .val (.ref b2384), .val (.ref b2390), .val (.ref b2465), .val (.ref b2529), .val (.ref b2604), .val (.int (j0_26 q0 q1 q2 q3 q4 q5))]
      have pre2891 := fun (t : State) (k : Steps p.tables e below (T2872.setTop (mkF m 384 L_2889 [(.int (j0_26 q0 q1 q2 q3 q4 q5))])) t) => pre2872 t (by
        show Steps p.tables e below (T2872.setTop (mkF m 380 L_2861 [(.int (j0_26 q0 q1 q2 q3 q4 q5))])) _
        refine XS.istore X2872.here hx rfl (hb hby at_380) rfl (l' := L_2889) rfl ?_
        refine XS.iload X2872.here hx rfl (hb hby at_382) rfl ?_
        exact k)
      obtain ⟨T2892, L2892, X2892, e2892, N2892, pre2892⟩ : ∃ (T2892 : State) (L2892 : List Loc), Stand p l e room_1 (s.setVm vm2798) m #[(.long q0), (.long q1), (.long q2), (.long q3), (.long q4), (.long q5)] below meth c T2892 L2892 17 139 ∧ T2892.heap = h2834 ∧ Fr n0 L2892 ∧ ∀ t, Steps p.tables e below (T2892.setTop (mkF m 407 L_2889 [(.int (j0_27 q0 q1 q2 q3 q4 q5))])) t → Steps p.tables e below (s₁.setTop (entryFrame m #[(.long q0), (.long q1), (.long q2), (.long q3), (.long q4), (.long q5)] maxLocals)) t := by
        by_cases hc2893 : (j0_26 q0 q1 q2 q3 q4 q5) = (0 : Int32)
        · skip
          have pre2894 := fun (t : State) (k : Steps p.tables e below (T2872.setTop (mkF m 407 L_2889 [(.int (0 : Int32))])) t) => pre2891 t (by
            show Steps p.tables e below (T2872.setTop (mkF m 384 L_2889 [(.int (j0_26 q0 q1 q2 q3 q4 q5))])) _
            refine XS.ifYes X2872.here hx rfl (pc0 := 384) (pc' := 406) rfl (hb hby at_384) rfl ((if0 _ _).trans (teq hc2893).1) (by decide) (by decide) ?_
            refine XS.iconst X2872.here hx rfl (hb hby at_406) ?_
            exact k)
          have hj2895 : (j0_27 q0 q1 q2 q3 q4 q5) = (0 : Int32) := by unfold j0_27; first | (rw [if_pos hc2893]) | (simp only [if_pos hc2893])
          exact ⟨T2872, _, X2872, e2872, N2872, fun t k => pre2894 t (by rw [hj2895] at k; exact k)⟩
        · skip
          obtain ⟨_, _, ⟨T2896, L2896, k2896, n2896⟩, -, X2896, ⟨Lc2896, hQ2896, l2896, y2896, z2896⟩, st2896⟩ := Jvm.LawKit.callS X2872 hx (y := (⟨"com/example/stowline/stowline/VolumeBoundCopyTotalsPinLaw", "untouched", "([J[JIII)Z"⟩ : MethodName)) hown (mvT hZ (own_m hw 84 rfl)) (mvT hZ (own_m hw 85 rfl)) (mvT hZ (own_m hw 7 rfl)) (mvT hZ (own_m hw 86 rfl)) (by decide) (backOf (W := 0) (rm12_in l Z aw hw [] b2465 b2529 ((0 : Int32)) ((0 : Int32)) ((2 : Int32)) h2834 n0 Z2834 (by decide) (by decide)) hZ (own_m hw 86 rfl) (own_m hw 7 rfl) (by decide) (by decide)) (g := (mkF m 396 L_2889 [(.int (2 : Int32)), (.int (0 : Int32)), (.int (0 : Int32)), (.ref b2529), (.ref b2465)])) rfl (by rw [hml]; rfl) (argsL := [(.ref b2465), (.ref b2529), (.int (0 : Int32)), (.int (0 : Int32)), (.int (2 : Int32))]) (rest := []) (lenOf pd_11 rfl) rfl (by show 2 * 0 + _ ≤ _; exact Nat.le_of_eq rfl) (hb hby at_396) (fun _ _ => ⟨rfl, e2872, (by decide : 17 + 0 ≤ _), (by decide : 139 + 0 ≤ _)⟩)
          dsimp only [Pt.U, Pt.locs, Pt.cells, Pt.slots] at X2896 l2896 y2896 z2896 st2896 hQ2896
          subst l2896 y2896 z2896
          obtain ⟨rfl, N2896q, e2896⟩ := hQ2896
          have N2896 := Fr.app N2872 N2896q
          have pre2897 := fun (t : State) (k : Steps p.tables e below (T2896.setTop (mkF m 407 L_2889 [(.int (1 : Int32))])) t) => pre2891 t (by
            show Steps p.tables e below (T2872.setTop (mkF m 384 L_2889 [(.int (j0_26 q0 q1 q2 q3 q4 q5))])) _
            refine XS.ifNo X2872.here hx rfl (hb hby at_384) rfl ((if0 _ _).trans (feq hc2893).1) ?_
            refine XS.aload X2872.here hx rfl (hb hby at_387) rfl rfl ?_
            refine XS.aload X2872.here hx rfl (hb hby at_389) rfl rfl ?_
            refine XS.iconst X2872.here hx rfl (hb hby at_391) ?_
            refine XS.iload X2872.here hx rfl (hb hby at_392) rfl ?_
            refine XS.iload X2872.here hx rfl (hb hby at_394) rfl ?_
            show Steps p.tables e below (T2872.setTop (mkF m 396 L_2889 [(.int (2 : Int32)), (.int (0 : Int32)), (.int (0 : Int32)), (.ref b2529), (.ref b2465)])) _
            refine st2896 _ ?_
            refine XS.ifNo X2896.here hx rfl (hb hby at_399) rfl ((if0 _ _).trans (feq (by decide : ¬ ((1 : Int32) = (0 : Int32)))).1) ?_
            refine XS.iconst X2896.here hx rfl (hb hby at_402) ?_
            refine XS.goto X2896.here hx rfl (pc0 := 403) (pc' := 407) rfl (hb hby at_403) (by decide) (by decide) ?_
            exact k)
          have hj2898 : (j0_27 q0 q1 q2 q3 q4 q5) = (1 : Int32) := by unfold j0_27; first | (rw [if_neg hc2893]) | (simp only [if_neg hc2893])
          exact ⟨T2896, _, X2896, e2896, N2896, fun t k => pre2897 t (by rw [hj2898] at k; exact k)⟩
      let L_2899 : Array Slot := #[.val (.long q0), .second, .val (.long q1), .second, .val (.long q2), .second, .val (.long q3), .second, .val (.long q4), .second, .val (.long q5), .second, .val (.int (2 : Int32)), .val (.int (own_Nn q2 q3)), .val (.int ((j0_2 q4) + (j0_3 q5))), .val (.int (0 : Int32)), .val (.long (own_c q0)), .second, .val (.long (own_c q1)), .second, .val (.long (own_z q2 q0)), .second, .val (.long (own_z q3 q1)), .second, .val (.long (own_z q4 q0)), .second, .val (.long (own_z q5 q1)), .second, .val (.ref b2381), .val (.ref b2384), .val (.ref b2390), .val (.ref b2465), .val (.ref b2529), .val (.ref b2604), .val (.int (j0_27 q0 q1 q2 q3 q4 q5))]
      have pre2901 := fun (t : State) (k : Steps p.tables e below (T2892.setTop (mkF m 411 L_2899 [(.int (j0_27 q0 q1 q2 q3 q4 q5))])) t) => pre2892 t (by
        show Steps p.tables e below (T2892.setTop (mkF m 407 L_2889 [(.int (j0_27 q0 q1 q2 q3 q4 q5))])) _
        refine XS.istore X2892.here hx rfl (hb hby at_407) rfl (l' := L_2899) rfl ?_
        refine XS.iload X2892.here hx rfl (hb hby at_409) rfl ?_
        exact k)
      obtain ⟨T2902, L2902, X2902, e2902, N2902, pre2902⟩ : ∃ (T2902 : State) (L2902 : List Loc), Stand p l e room_1 (s.setVm vm2798) m #[(.long q0), (.long q1), (.long q2), (.long q3), (.long q4), (.long q5)] below meth c T2902 L2902 17 139 ∧ T2902.heap = h2834 ∧ Fr n0 L2902 ∧ ∀ t, Steps p.tables e below (T2902.setTop (mkF m 434 L_2899 [(.int (j0_28 q0 q1 q2 q3 q4 q5))])) t → Steps p.tables e below (s₁.setTop (entryFrame m #[(.long q0), (.long q1), (.long q2), (.long q3), (.long q4), (.long q5)] maxLocals)) t := by
        by_cases hc2903 : (j0_27 q0 q1 q2 q3 q4 q5) = (0 : Int32)
        · skip
          have pre2904 := fun (t : State) (k : Steps p.tables e below (T2892.setTop (mkF m 434 L_2899 [(.int (0 : Int32))])) t) => pre2901 t (by
            show Steps p.tables e below (T2892.setTop (mkF m 411 L_2899 [(.int (j0_27 q0 q1 q2 q3 q4 q5))])) _
            refine XS.ifYes X2892.here hx rfl (pc0 := 411) (pc' := 433) rfl (hb hby at_411) rfl ((if0 _ _).trans (teq hc2903).1) (by decide) (by decide) ?_
            refine XS.iconst X2892.here hx rfl (hb hby at_433) ?_
            exact k)
          have hj2905 : (j0_28 q0 q1 q2 q3 q4 q5) = (0 : Int32) := by unfold j0_28; first | (rw [if_pos hc2903]) | (simp only [if_pos hc2903])
          exact ⟨T2892, _, X2892, e2892, N2892, fun t k => pre2904 t (by rw [hj2905] at k; exact k)⟩
        · skip
          obtain ⟨_, _, ⟨T2906, L2906, k2906, n2906⟩, -, X2906, ⟨Lc2906, hQ2906, l2906, y2906, z2906⟩, st2906⟩ := Jvm.LawKit.callS X2892 hx (y := (⟨"com/example/stowline/stowline/VolumeBoundCopyTotalsPinLaw", "untouched", "([J[JIII)Z"⟩ : MethodName)) hown (mvT hZ (own_m hw 84 rfl)) (mvT hZ (own_m hw 85 rfl)) (mvT hZ (own_m hw 7 rfl)) (mvT hZ (own_m hw 86 rfl)) (by decide) (backOf (W := 0) (rm12_in l Z aw hw [] b2465 b2529 ((1 : Int32)) ((0 : Int32)) ((2 : Int32)) h2834 n0 Z2834 (by decide) (by decide)) hZ (own_m hw 86 rfl) (own_m hw 7 rfl) (by decide) (by decide)) (g := (mkF m 423 L_2899 [(.int (2 : Int32)), (.int (0 : Int32)), (.int (1 : Int32)), (.ref b2529), (.ref b2465)])) rfl (by rw [hml]; rfl) (argsL := [(.ref b2465), (.ref b2529), (.int (1 : Int32)), (.int (0 : Int32)), (.int (2 : Int32))]) (rest := []) (lenOf pd_11 rfl) rfl (by show 2 * 0 + _ ≤ _; exact Nat.le_of_eq rfl) (hb hby at_423) (fun _ _ => ⟨rfl, e2892, (by decide : 17 + 0 ≤ _), (by decide : 139 + 0 ≤ _)⟩)
          dsimp only [Pt.U, Pt.locs, Pt.cells, Pt.slots] at X2906 l2906 y2906 z2906 st2906 hQ2906
          subst l2906 y2906 z2906
          obtain ⟨rfl, N2906q, e2906⟩ := hQ2906
          have N2906 := Fr.app N2892 N2906q
          have pre2907 := fun (t : State) (k : Steps p.tables e below (T2906.setTop (mkF m 434 L_2899 [(.int (1 : Int32))])) t) => pre2901 t (by
            show Steps p.tables e below (T2892.setTop (mkF m 411 L_2899 [(.int (j0_27 q0 q1 q2 q3 q4 q5))])) _
            refine XS.ifNo X2892.here hx rfl (hb hby at_411) rfl ((if0 _ _).trans (feq hc2903).1) ?_
            refine XS.aload X2892.here hx rfl (hb hby at_414) rfl rfl ?_
            refine XS.aload X2892.here hx rfl (hb hby at_416) rfl rfl ?_
            refine XS.iconst X2892.here hx rfl (hb hby at_418) ?_
            refine XS.iload X2892.here hx rfl (hb hby at_419) rfl ?_
            refine XS.iload X2892.here hx rfl (hb hby at_421) rfl ?_
            show Steps p.tables e below (T2892.setTop (mkF m 423 L_2899 [(.int (2 : Int32)), (.int (0 : Int32)), (.int (1 : Int32)), (.ref b2529), (.ref b2465)])) _
            refine st2906 _ ?_
            refine XS.ifNo X2906.here hx rfl (hb hby at_426) rfl ((if0 _ _).trans (feq (by decide : ¬ ((1 : Int32) = (0 : Int32)))).1) ?_
            refine XS.iconst X2906.here hx rfl (hb hby at_429) ?_
            refine XS.goto X2906.here hx rfl (pc0 := 430) (pc' := 434) rfl (hb hby at_430) (by decide) (by decide) ?_
            exact k)
          have hj2908 : (j0_28 q0 q1 q2 q3 q4 q5) = (1 : Int32) := by unfold j0_28; first | (rw [if_neg hc2903]) | (simp only [if_neg hc2903])
          exact ⟨T2906, _, X2906, e2906, N2906, fun t k => pre2907 t (by rw [hj2908] at k; exact k)⟩
      let L_2909 : Array Slot := #[.val (.long q0), .second, .val (.long q1), .second, .val (.long q2), .second, .val (.long q3), .second, .val (.long q4), .second, .val (.long q5), .second, .val (.int (2 : Int32)), .val (.int (own_Nn q2 q3)), .val (.int ((j0_2 q4) + (j0_3 q5))), .val (.int (0 : Int32)), .val (.long (own_c q0)), .second, .val (.long (own_c q1)), .second, .val (.long (own_z q2 q0)), .second, .val (.long (own_z q3 q1)), .second, .val (.long (own_z q4 q0)), .second, .val (.long (own_z q5 q1)), .second, .val (.ref b2381), .val (.ref b2384), .val (.ref b2390), .val (.ref b2465), .val (.ref b2529), .val (.ref b2604), .val (.int (j0_28 q0 q1 q2 q3 q4 q5))]
      have pre2911 := fun (t : State) (k : Steps p.tables e below (T2902.setTop (mkF m 438 L_2909 [(.int (j0_28 q0 q1 q2 q3 q4 q5))])) t) => pre2902 t (by
        show Steps p.tables e below (T2902.setTop (mkF m 434 L_2899 [(.int (j0_28 q0 q1 q2 q3 q4 q5))])) _
        refine XS.istore X2902.here hx rfl (hb hby at_434) rfl (l' := L_2909) rfl ?_
        refine XS.iload X2902.here hx rfl (hb hby at_436) rfl ?_
        exact k)
      obtain ⟨T2912, L2912, X2912, e2912, N2912, pre2912⟩ : ∃ (T2912 : State) (L2912 : List Loc), Stand p l e room_1 (s.setVm vm2798) m #[(.long q0), (.long q1), (.long q2), (.long q3), (.long q4), (.long q5)] below meth c T2912 L2912 17 139 ∧ T2912.heap = h2834 ∧ Fr n0 L2912 ∧ ∀ t, Steps p.tables e below (T2912.setTop (mkF m 461 L_2909 [(.int (j0_29 q0 q1 q2 q3 q4 q5))])) t → Steps p.tables e below (s₁.setTop (entryFrame m #[(.long q0), (.long q1), (.long q2), (.long q3), (.long q4), (.long q5)] maxLocals)) t := by
        by_cases hc2913 : (j0_28 q0 q1 q2 q3 q4 q5) = (0 : Int32)
        · skip
          have pre2914 := fun (t : State) (k : Steps p.tables e below (T2902.setTop (mkF m 461 L_2909 [(.int (0 : Int32))])) t) => pre2911 t (by
            show Steps p.tables e below (T2902.setTop (mkF m 438 L_2909 [(.int (j0_28 q0 q1 q2 q3 q4 q5))])) _
            refine XS.ifYes X2902.here hx rfl (pc0 := 438) (pc' := 460) rfl (hb hby at_438) rfl ((if0 _ _).trans (teq hc2913).1) (by decide) (by decide) ?_
            refine XS.iconst X2902.here hx rfl (hb hby at_460) ?_
            exact k)
          have hj2915 : (j0_29 q0 q1 q2 q3 q4 q5) = (0 : Int32) := by unfold j0_29; first | (rw [if_pos hc2913]) | (simp only [if_pos hc2913])
          exact ⟨T2902, _, X2902, e2902, N2902, fun t k => pre2914 t (by rw [hj2915] at k; exact k)⟩
        · skip
          obtain ⟨_, _, ⟨T2916, L2916, k2916, n2916⟩, -, X2916, ⟨Lc2916, hQ2916, l2916, y2916, z2916⟩, st2916⟩ := Jvm.LawKit.callS X2902 hx (y := (⟨"com/example/stowline/stowline/VolumeBoundCopyTotalsPinLaw", "untouched", "([J[JIII)Z"⟩ : MethodName)) hown (mvT hZ (own_m hw 84 rfl)) (mvT hZ (own_m hw 85 rfl)) (mvT hZ (own_m hw 7 rfl)) (mvT hZ (own_m hw 86 rfl)) (by decide) (backOf (W := 0) (rm12_hi2 l Z aw hw [] b2465 b2529 ((0 : Int32)) ((2 : Int32)) ((j0_22 q0 q2 q3 q4)) ((j0_23 q1 q2 q3 q5)) ((-4 : Int64)) ((j0_24 q0 q2 q3 q4)) ((j0_25 q1 q2 q3 q5)) ((-14 : Int64)) k2465 k2529 h2834 n0 Z2834 f2835 f2836 (by decide) (by decide)) hZ (own_m hw 86 rfl) (own_m hw 7 rfl) (by decide) (by decide)) (g := (mkF m 450 L_2909 [(.int (2 : Int32)), (.int (0 : Int32)), (.int (2 : Int32)), (.ref b2529), (.ref b2465)])) rfl (by rw [hml]; rfl) (argsL := [(.ref b2465), (.ref b2529), (.int (2 : Int32)), (.int (0 : Int32)), (.int (2 : Int32))]) (rest := []) (lenOf pd_11 rfl) rfl (by show 2 * 0 + _ ≤ _; exact Nat.le_of_eq rfl) (hb hby at_450) (fun _ _ => ⟨rfl, e2902, (by decide : 17 + 0 ≤ _), (by decide : 139 + 0 ≤ _)⟩)
          dsimp only [Pt.U, Pt.locs, Pt.cells, Pt.slots] at X2916 l2916 y2916 z2916 st2916 hQ2916
          subst l2916 y2916 z2916
          obtain ⟨rfl, N2916q, e2916⟩ := hQ2916
          have N2916 := Fr.app N2902 N2916q
          have pre2917 := fun (t : State) (k : Steps p.tables e below (T2916.setTop (mkF m 461 L_2909 [(.int (1 : Int32))])) t) => pre2911 t (by
            show Steps p.tables e below (T2902.setTop (mkF m 438 L_2909 [(.int (j0_28 q0 q1 q2 q3 q4 q5))])) _
            refine XS.ifNo X2902.here hx rfl (hb hby at_438) rfl ((if0 _ _).trans (feq hc2913).1) ?_
            refine XS.aload X2902.here hx rfl (hb hby at_441) rfl rfl ?_
            refine XS.aload X2902.here hx rfl (hb hby at_443) rfl rfl ?_
            refine XS.iconst X2902.here hx rfl (hb hby at_445) ?_
            refine XS.iload X2902.here hx rfl (hb hby at_446) rfl ?_
            refine XS.iload X2902.here hx rfl (hb hby at_448) rfl ?_
            show Steps p.tables e below (T2902.setTop (mkF m 450 L_2909 [(.int (2 : Int32)), (.int (0 : Int32)), (.int (2 : Int32)), (.ref b2529), (.ref b2465)])) _
            refine st2916 _ ?_
            refine XS.ifNo X2916.here hx rfl (hb hby at_453) rfl ((if0 _ _).trans (feq (by decide : ¬ ((1 : Int32) = (0 : Int32)))).1) ?_
            refine XS.iconst X2916.here hx rfl (hb hby at_456) ?_
            refine XS.goto X2916.here hx rfl (pc0 := 457) (pc' := 461) rfl (hb hby at_457) (by decide) (by decide) ?_
            exact k)
          have hj2918 : (j0_29 q0 q1 q2 q3 q4 q5) = (1 : Int32) := by unfold j0_29; first | (rw [if_neg hc2913]) | (simp only [if_neg hc2913])
          exact ⟨T2916, _, X2916, e2916, N2916, fun t k => pre2917 t (by rw [hj2918] at k; exact k)⟩
      let L_2919 : Array Slot := #[.val (.long q0), .second, .val (.long q1), .second, .val (.long q2), .second, .val (.long q3), .second, .val (.long q4), .second, .val (.long q5), .second, .val (.int (2 : Int32)), .val (.int (own_Nn q2 q3)), .val (.int ((j0_2 q4) + (j0_3 q5))), .val (.int (0 : Int32)), .val (.long (own_c q0)), .second, .val (.long (own_c q1)), .second, .val (.long (own_z q2 q0)), .second, .val (.long (own_z q3 q1)), .second, .val (.long (own_z q4 q0)), .second, .val (.long (own_z q5 q1)), .second, .val (.ref b2381), .val (.ref b2384), .val (.ref b2390), .val (.ref b2465), .val (.ref b2529), .val (.ref b2604), .val (.int (j0_29 q0 q1 q2 q3 q4 q5))]
      have pre2921 := fun (t : State) (k : Steps p.tables e below (T2912.setTop (mkF m 465 L_2919 [(.int (j0_29 q0 q1 q2 q3 q4 q5))])) t) => pre2912 t (by
        show Steps p.tables e below (T2912.setTop (mkF m 461 L_2909 [(.int (j0_29 q0 q1 q2 q3 q4 q5))])) _
        refine XS.istore X2912.here hx rfl (hb hby at_461) rfl (l' := L_2919) rfl ?_
        refine XS.iload X2912.here hx rfl (hb hby at_463) rfl ?_
        exact k)
      obtain ⟨T2922, L2922, X2922, e2922, N2922, pre2922⟩ : ∃ (T2922 : State) (L2922 : List Loc), Stand p l e room_1 (s.setVm vm2798) m #[(.long q0), (.long q1), (.long q2), (.long q3), (.long q4), (.long q5)] below meth c T2922 L2922 17 139 ∧ T2922.heap = h2834 ∧ Fr n0 L2922 ∧ ∀ t, Steps p.tables e below (T2922.setTop (mkF m 488 L_2919 [(.int (j0_30 q0 q1 q2 q3 q4 q5))])) t → Steps p.tables e below (s₁.setTop (entryFrame m #[(.long q0), (.long q1), (.long q2), (.long q3), (.long q4), (.long q5)] maxLocals)) t := by
        by_cases hc2923 : (j0_29 q0 q1 q2 q3 q4 q5) = (0 : Int32)
        · skip
          have pre2924 := fun (t : State) (k : Steps p.tables e below (T2912.setTop (mkF m 488 L_2919 [(.int (0 : Int32))])) t) => pre2921 t (by
            show Steps p.tables e below (T2912.setTop (mkF m 465 L_2919 [(.int (j0_29 q0 q1 q2 q3 q4 q5))])) _
            refine XS.ifYes X2912.here hx rfl (pc0 := 465) (pc' := 487) rfl (hb hby at_465) rfl ((if0 _ _).trans (teq hc2923).1) (by decide) (by decide) ?_
            refine XS.iconst X2912.here hx rfl (hb hby at_487) ?_
            exact k)
          have hj2925 : (j0_30 q0 q1 q2 q3 q4 q5) = (0 : Int32) := by unfold j0_30; first | (rw [if_pos hc2923]) | (simp only [if_pos hc2923])
          exact ⟨T2912, _, X2912, e2912, N2912, fun t k => pre2924 t (by rw [hj2925] at k; exact k)⟩
        · skip
          obtain ⟨_, _, ⟨T2926, L2926, k2926, n2926⟩, -, X2926, ⟨Lc2926, hQ2926, l2926, y2926, z2926⟩, st2926⟩ := Jvm.LawKit.callS X2912 hx (y := (⟨"com/example/stowline/stowline/VolumeBoundCopyTotalsPinLaw", "untouched", "([J[JIII)Z"⟩ : MethodName)) hown (mvT hZ (own_m hw 84 rfl)) (mvT hZ (own_m hw 85 rfl)) (mvT hZ (own_m hw 7 rfl)) (mvT hZ (own_m hw 86 rfl)) (by decide) (backOf (W := 0) (rm12_hi3 l Z aw hw [] b2465 b2529 ((0 : Int32)) ((2 : Int32)) ((j0_22 q0 q2 q3 q4)) ((j0_23 q1 q2 q3 q5)) ((-3 : Int64)) ((j0_24 q0 q2 q3 q4)) ((j0_25 q1 q2 q3 q5)) ((-13 : Int64)) k2465 k2529 h2834 n0 Z2834 f2835 f2836 (by decide) (by decide)) hZ (own_m hw 86 rfl) (own_m hw 7 rfl) (by decide) (by decide)) (g := (mkF m 477 L_2919 [(.int (2 : Int32)), (.int (0 : Int32)), (.int (3 : Int32)), (.ref b2529), (.ref b2465)])) rfl (by rw [hml]; rfl) (argsL := [(.ref b2465), (.ref b2529), (.int (3 : Int32)), (.int (0 : Int32)), (.int (2 : Int32))]) (rest := []) (lenOf pd_11 rfl) rfl (by show 2 * 0 + _ ≤ _; exact Nat.le_of_eq rfl) (hb hby at_477) (fun _ _ => ⟨rfl, e2912, (by decide : 17 + 0 ≤ _), (by decide : 139 + 0 ≤ _)⟩)
          dsimp only [Pt.U, Pt.locs, Pt.cells, Pt.slots] at X2926 l2926 y2926 z2926 st2926 hQ2926
          subst l2926 y2926 z2926
          obtain ⟨rfl, N2926q, e2926⟩ := hQ2926
          have N2926 := Fr.app N2912 N2926q
          have pre2927 := fun (t : State) (k : Steps p.tables e below (T2926.setTop (mkF m 488 L_2919 [(.int (1 : Int32))])) t) => pre2921 t (by
            show Steps p.tables e below (T2912.setTop (mkF m 465 L_2919 [(.int (j0_29 q0 q1 q2 q3 q4 q5))])) _
            refine XS.ifNo X2912.here hx rfl (hb hby at_465) rfl ((if0 _ _).trans (feq hc2923).1) ?_
            refine XS.aload X2912.here hx rfl (hb hby at_468) rfl rfl ?_
            refine XS.aload X2912.here hx rfl (hb hby at_470) rfl rfl ?_
            refine XS.iconst X2912.here hx rfl (hb hby at_472) ?_
            refine XS.iload X2912.here hx rfl (hb hby at_473) rfl ?_
            refine XS.iload X2912.here hx rfl (hb hby at_475) rfl ?_
            show Steps p.tables e below (T2912.setTop (mkF m 477 L_2919 [(.int (2 : Int32)), (.int (0 : Int32)), (.int (3 : Int32)), (.ref b2529), (.ref b2465)])) _
            refine st2926 _ ?_
            refine XS.ifNo X2926.here hx rfl (hb hby at_480) rfl ((if0 _ _).trans (feq (by decide : ¬ ((1 : Int32) = (0 : Int32)))).1) ?_
            refine XS.iconst X2926.here hx rfl (hb hby at_483) ?_
            refine XS.goto X2926.here hx rfl (pc0 := 484) (pc' := 488) rfl (hb hby at_484) (by decide) (by decide) ?_
            exact k)
          have hj2928 : (j0_30 q0 q1 q2 q3 q4 q5) = (1 : Int32) := by unfold j0_30; first | (rw [if_neg hc2923]) | (simp only [if_neg hc2923])
          exact ⟨T2926, _, X2926, e2926, N2926, fun t k => pre2927 t (by rw [hj2928] at k; exact k)⟩
      let L_2929 : Array Slot := #[.val (.long q0), .second, .val (.long q1), .second, .val (.long q2), .second, .val (.long q3), .second, .val (.long q4), .second, .val (.long q5), .second, .val (.int (2 : Int32)), .val (.int (own_Nn q2 q3)), .val (.int ((j0_2 q4) + (j0_3 q5))), .val (.int (0 : Int32)), .val (.long (own_c q0)), .second, .val (.long (own_c q1)), .second, .val (.long (own_z q2 q0)), .second, .val (.long (own_z q3 q1)), .second, .val (.long (own_z q4 q0)), .second, .val (.long (own_z q5 q1)), .second, .val (.ref b2381), .val (.ref b2384), .val (.ref b2390), .val (.ref b2465), .val (.ref b2529), .val (.ref b2604), .val (.int (j0_30 q0 q1 q2 q3 q4 q5))]
      obtain ⟨fs, hr, hrun, hended, hRW⟩ := X2922.leaveW hS (own_hk hk e2922) (v := some (.int (nar .boolean (j0_30 q0 q1 q2 q3 q4 q5)))) (fun h => by rw [Bd.returns] at h; cases h)
      refine ⟨_, _, pre2922 _ ?_, hrun, hended, _, _, rfl, ?_, hRW.1, hRW.2.1, hRW.2.2.1, hRW.2.2.2.mono (by decide) (by decide)⟩
      · skip
        show Steps p.tables e below (T2922.setTop (mkF m 488 L_2919 [(.int (j0_30 q0 q1 q2 q3 q4 q5))])) _
        refine XS.istore X2922.here hx rfl (hb hby at_488) rfl (l' := L_2929) rfl ?_
        refine XS.iload X2922.here hx rfl (hb hby at_490) rfl ?_
        show Steps p.tables e below (T2922.setTop (mkF m 492 L_2929 [(.int (j0_30 q0 q1 q2 q3 q4 q5))])) _
        exact retN X2922 hx (t := .boolean) Bd.returns (by simp) (hb hby at_492) hr
      · show Q0 Z q0 q1 q2 q3 q4 q5 h0 n0 _ T2922.heap _
        rw [e2922]
        have hv : (nar .boolean (j0_30 q0 q1 q2 q3 q4 q5)) = (v0 q0 q1 q2 q3 q4 q5) := by unfold v0; first | (rw [if_neg hc1604, if_pos hs2831]) | (simp only [if_neg hc1604, if_pos hs2831])
        exact ⟨(by rw [← hv]), N2922⟩
    · skip
      by_cases hs2930 : (((j0_2 q4) + (j0_3 q5)) % (3 : Int32)) = (1 : Int32)
      · skip
        let L_2932 : Array Slot := #[.val (.long q0), .second, .val (.long q1), .second, .val (.long q2), .second, .val (.long q3), .second, .val (.long q4), .second, .val (.long q5), .second, .val (.int (2 : Int32)), .val (.int (own_Nn q2 q3)), .val (.int ((j0_2 q4) + (j0_3 q5))), .val (.int (1 : Int32)), .val (.long (own_c q0)), .second, .val (.long (own_c q1)), .second, .val (.long (own_z q2 q0)), .second, .val (.long (own_z q3 q1)), .second, .val (.long (own_z q4 q0)), .second, .val (.long (own_z q5 q1)), .second, .val (.ref b2381), .val (.ref b2384), .val (.ref b2390), .val (.ref b2465), .val (.ref b2529), .val (.ref b2604), .unset]
        have pre2931 := fun (t : State) (k : Steps p.tables e below (T2798.setTop (mkF m 302 L_2932 [])) t) => pre2798 t (by show Steps p.tables e below (T2798.setTop (mkF m 302 #[.val (.long q0), .second, .val (.long q1), .second, .val (.long q2), .second, .val (.long q3), .second, .val (.long q4), .second, .val (.long q5), .second, .val (.int (2 : Int32)), .val (.int (own_Nn q2 q3)), .val (.int ((j0_2 q4) + (j0_3 q5))), .val (.int (((j0_2 q4) + (j0_3 q5)) % (3 : Int32))), .val (.long (own_c q0)), .second, .val (.long (own_c q1)), .second, .val (.long (own_z q2 q0)), .second, .val (.long (own_z q3 q1)), .second, .val (.long (own_z q4 q0)), .second, .val (.long (own_z q5 q1)), .second, .val (.ref b2381), .val (.ref b2384), .val (.ref b2390), .val (.ref b2465), .val (.ref b2529), .val (.ref b2604), .unset] [])) t; rw [hs2930]; exact k)
        obtain ⟨cq2933, kq2933, q2933a, q2933b, q2933c⟩ := isOf hZ e2798 f2798_10
        obtain ⟨_, _, ⟨T2933, L2933, k2933, n2933⟩, -, X2933, ⟨Lc2933, hQ2933, l2933, y2933, z2933⟩, st2933⟩ := X2798.virtualBack hx (y := (⟨"com/example/stowline/stowline/VolumeBound", "copyTotals", "([J[JI)V"⟩ : MethodName)) (z := (⟨"com/example/stowline/stowline/VolumeBound", "copyTotals", "([J[JI)V"⟩ : MethodName)) hown (mvT hZ (own_m hw 72 rfl)) (mvT hZ (own_m hw 73 rfl)) (notFace_of_selects (args := #[]) (mvT hZ (own_m hw 75 rfl))) (mvT hZ (own_m hw 75 rfl)) (mvT hZ (own_m hw 74 rfl)) (by decide) (backOf (W := 0) (rm10_2_1 l Z aw hw [] b2604 b2465 b2529 cx12624 cx22624 ((j0_22 q0 q2 q3 q4)) ((j0_23 q1 q2 q3 q5)) ((j0_24 q0 q2 q3 q4)) ((j0_25 q1 q2 q3 q5)) ((-1 : Int64)) ((-2 : Int64)) ((-3 : Int64)) ((-4 : Int64)) ((-11 : Int64)) ((-12 : Int64)) ((-13 : Int64)) ((-14 : Int64)) cy12624 cy22624 k2465 k2529 h2798 n0 Z2798 f2798_10 f2798_12 f2798_13 f2798_15 f2798_16 f2798_7 f2798_9 g_b2465 g_b2529 (Ne.symm ne2618) (Ne.symm ne2619) (Ne.symm ne2656) (Ne.symm ne2657) (Ne.symm ne2662) (Ne.symm ne2663) ne2541) hZ (own_m hw 76 rfl) (own_m hw 20 rfl) (by decide) (by decide)) q2933a q2933c (g := (mkF m 310 L_2932 [(.int (1 : Int32)), (.ref b2529), (.ref b2465), (.ref b2604)])) rfl (by rw [hml]; rfl) (Steps.refl _) (argsL := [(.ref b2465), (.ref b2529), (.int (1 : Int32))]) (rest := []) (lenOf pd_9 rfl) rfl (by show 2 * 0 + _ ≤ _; exact Nat.le_of_eq rfl) (hb hby at_310) (fun _ _ => ⟨rfl, e2798, (by decide : 17 + 0 ≤ _), (by decide : 139 + 0 ≤ _)⟩)
        dsimp only [Pt.U, Pt.locs, Pt.cells, Pt.slots] at X2933 l2933 y2933 z2933 st2933 hQ2933
        subst l2933 y2933 z2933
        obtain ⟨h2933, e2933⟩ : ∃ z, T2933.heap = z := ⟨_, rfl⟩
        rw [e2933] at hQ2933
        obtain ⟨rfl, N2933q, K2933q, f2934, f2935⟩ := hQ2933
        have f2936 := f2798_0.keep K2933q
        have f2937 := f2798_1.keep K2933q (ninS ne2472 (ninS ne2538 nin0))
        have f2938 := f2798_2.keep K2933q
        have f2939 := f2798_3.keep K2933q (ninS ne2473 (ninS ne2539 nin0))
        have f2940 := f2798_4.keep K2933q
        have f2941 := f2798_5.keep K2933q (ninS ne2474 (ninS ne2540 nin0))
        have f2942 := f2798_6.keep K2933q
        have f2944 := f2798_8.keep K2933q
        have f2946 := f2798_10.keep K2933q
        have f2947 := f2798_11.keep K2933q (ninS (Ne.symm ne2618) (ninS (Ne.symm ne2619) nin0))
        have f2948 := f2798_12.keep K2933q (ninS (Ne.symm ne2618) (ninS (Ne.symm ne2619) nin0))
        have f2949 := f2798_13.keep K2933q (ninS (Ne.symm ne2618) (ninS (Ne.symm ne2619) nin0))
        have f2950 := f2798_14.keep K2933q (ninS (Ne.symm ne2650) (ninS (Ne.symm ne2651) nin0))
        have f2951 := f2798_15.keep K2933q (ninS (Ne.symm ne2656) (ninS (Ne.symm ne2657) nin0))
        have f2952 := f2798_16.keep K2933q (ninS (Ne.symm ne2662) (ninS (Ne.symm ne2663) nin0))
        have Z2933 := Nat.le_trans Z2798 K2933q.1
        have hk := Nat.le_trans hk K2933q.1
        have N2933 := Fr.app N2798 N2933q
        obtain ⟨cl2953, Ar2953, q2953, S2953, M2953, H2953, G2953⟩ := id f2934
        have hin2954 : ¬ ((1 : Int32) < 0 ∨ cl2953.slots.size ≤ ((1 : Int32)).toNatClampNeg) := inb_of S2953 ⟨by decide, by decide⟩
        have hat2955 : cl2953.slots[((1 : Int32)).toNatClampNeg]? = some (.long (j0_22 q0 q2 q3 q4)) := H2953.at hin2954 rfl
        obtain ⟨cl2956, Ar2956, q2956, S2956, M2956, H2956, G2956⟩ := id f2935
        have hin2957 : ¬ ((1 : Int32) < 0 ∨ cl2956.slots.size ≤ ((1 : Int32)).toNatClampNeg) := inb_of S2956 ⟨by decide, by decide⟩
        have hat2958 : cl2956.slots[((1 : Int32)).toNatClampNeg]? = some (.long (j0_24 q0 q2 q3 q4)) := H2956.at hin2957 rfl
        obtain ⟨_, _, ⟨T2959, L2959, k2959, n2959⟩, -, X2959, ⟨Lc2959, hQ2959, l2959, y2959, z2959⟩, st2959⟩ := Jvm.LawKit.callS X2933 hx (y := (⟨"com/example/stowline/stowline/VolumeBoundCopyTotalsPinLaw", "check", "(JJJIJJ)Z"⟩ : MethodName)) hown (mvT hZ (own_m hw 81 rfl)) (mvT hZ (own_m hw 82 rfl)) (mvT hZ (own_m hw 7 rfl)) (mvT hZ (own_m hw 83 rfl)) (by decide) (backOf (W := 0) (rm11 l Z aw hw [] ((own_c q0)) ((own_z q2 q0)) ((own_z q4 q0)) ((own_Nn q2 q3)) ((j0_22 q0 q2 q3 q4)) ((j0_24 q0 q2 q3 q4)) h2933 n0 Z2933 ) hZ (own_m hw 83 rfl) (own_m hw 7 rfl) (by decide) (by decide)) (g := (mkF m 331 L_2932 [(.long (j0_24 q0 q2 q3 q4)), (.long (j0_22 q0 q2 q3 q4)), (.int (own_Nn q2 q3)), (.long (own_z q4 q0)), (.long (own_z q2 q0)), (.long (own_c q0))])) rfl (by rw [hml]; rfl) (argsL := [(.long (own_c q0)), (.long (own_z q2 q0)), (.long (own_z q4 q0)), (.int (own_Nn q2 q3)), (.long (j0_22 q0 q2 q3 q4)), (.long (j0_24 q0 q2 q3 q4))]) (rest := []) (lenOf pd_10 rfl) rfl (by show 2 * 0 + _ ≤ _; exact Nat.le_of_eq rfl) (hb hby at_331) (fun _ _ => ⟨rfl, e2933, (by decide : 17 + 0 ≤ _), (by decide : 139 + 0 ≤ _)⟩)
        dsimp only [Pt.U, Pt.locs, Pt.cells, Pt.slots] at X2959 l2959 y2959 z2959 st2959 hQ2959
        subst l2959 y2959 z2959
        obtain ⟨rfl, N2959q, e2959⟩ := hQ2959
        have N2959 := Fr.app N2933 N2959q
        let L_2960 : Array Slot := #[.val (.long q0), .second, .val (.long q1), .second, .val (.long q2), .second, .val (.long q3), .second, .val (.long q4), .second, .val (.long q5), .second, .val (.int (2 : Int32)), .val (.int (own_Nn q2 q3)), .val (.int ((j0_2 q4) + (j0_3 q5))), .val (.int (1 : Int32)), .val (.long (own_c q0)), .second, .val (.long (own_c q1)), .second, .val (.long (own_z q2 q0)), .second, .val (.long (own_z q3 q1)), .second, .val (.long (own_z q4 q0)), .second, .val (.long (own_z q5 q1)), .second, .val (.ref b2381), .val (.ref b2384), .val (.ref b2390), .val (.ref b2465), .val (.ref b2529), .val (.ref b2604), .val (.int (v11 (own_c q0) (own_z q2 q0) (own_z q4 q0) (own_Nn q2 q3) (j0_22 q0 q2 q3 q4) (j0_24 q0 q2 q3 q4)))]
        have pre2970 := fun (t : State) (k : Steps p.tables e below (T2959.setTop (mkF m 344 L_2960 [(.int (v11 (own_c q0) (own_z q2 q0) (own_z q4 q0) (own_Nn q2 q3) (j0_22 q0 q2 q3 q4) (j0_24 q0 q2 q3 q4)))])) t) => pre2931 t (by
          show Steps p.tables e below (T2798.setTop (mkF m 302 L_2932 [])) _
          refine XS.aload X2798.here hx rfl (hb hby at_302) rfl rfl ?_
          refine XS.aload X2798.here hx rfl (hb hby at_304) rfl rfl ?_
          refine XS.aload X2798.here hx rfl (hb hby at_306) rfl rfl ?_
          refine XS.iload X2798.here hx rfl (hb hby at_308) rfl ?_
          show Steps p.tables e below (T2798.setTop (mkF m 310 L_2932 [(.int (1 : Int32)), (.ref b2529), (.ref b2465), (.ref b2604)])) _
          refine st2933.trans ?_
          refine XS.lload X2933.here hx rfl (hb hby at_313) rfl ?_
          refine XS.lload X2933.here hx rfl (hb hby at_315) rfl ?_
          refine XS.lload X2933.here hx rfl (hb hby at_317) rfl ?_
          refine XS.iload X2933.here hx rfl (hb hby at_319) rfl ?_
          refine XS.aload X2933.here hx rfl (hb hby at_321) rfl rfl ?_
          show Steps p.tables e below (T2933.setTop (mkF m 323 L_2932 [(.ref b2465), (.int (own_Nn q2 q3)), (.long (own_z q4 q0)), (.long (own_z q2 q0)), (.long (own_c q0))])) _
          refine XS.iload X2933.here hx rfl (hb hby at_323) rfl ?_
          show Steps p.tables e below (T2933.setTop (mkF m 325 L_2932 [(.int (1 : Int32)), (.ref b2465), (.int (own_Nn q2 q3)), (.long (own_z q4 q0)), (.long (own_z q2 q0)), (.long (own_c q0))])) _
          refine X2933.laload hx (j := (1 : Int32)) (v := (.long (j0_22 q0 q2 q3 q4))) (by rw [e2933]; exact Ar2953.1) (State.isArrayOf_alike hZ.alike Ar2953.2.1) Ar2953.2.2 hin2954 hat2955 (g := (mkF m 325 L_2932 [(.int (1 : Int32)), (.ref b2465), (.int (own_Nn q2 q3)), (.long (own_z q4 q0)), (.long (own_z q2 q0)), (.long (own_c q0))])) rfl rfl (hb hby at_325) _ ?_
          refine XS.aload X2933.here hx rfl (hb hby at_326) rfl rfl ?_
          refine XS.iload X2933.here hx rfl (hb hby at_328) rfl ?_
          show Steps p.tables e below (T2933.setTop (mkF m 330 L_2932 [(.int (1 : Int32)), (.ref b2529), (.long (j0_22 q0 q2 q3 q4)), (.int (own_Nn q2 q3)), (.long (own_z q4 q0)), (.long (own_z q2 q0)), (.long (own_c q0))])) _
          refine X2933.laload hx (j := (1 : Int32)) (v := (.long (j0_24 q0 q2 q3 q4))) (by rw [e2933]; exact Ar2956.1) (State.isArrayOf_alike hZ.alike Ar2956.2.1) Ar2956.2.2 hin2957 hat2958 (g := (mkF m 330 L_2932 [(.int (1 : Int32)), (.ref b2529), (.long (j0_22 q0 q2 q3 q4)), (.int (own_Nn q2 q3)), (.long (own_z q4 q0)), (.long (own_z q2 q0)), (.long (own_c q0))])) rfl rfl (hb hby at_330) _ ?_
          show Steps p.tables e below (T2933.setTop (mkF m 331 L_2932 [(.long (j0_24 q0 q2 q3 q4)), (.long (j0_22 q0 q2 q3 q4)), (.int (own_Nn q2 q3)), (.long (own_z q4 q0)), (.long (own_z q2 q0)), (.long (own_c q0))])) _
          refine st2959 _ ?_
          refine XS.istore X2959.here hx rfl (hb hby at_334) rfl (l' := L_2960) rfl ?_
          refine XS.iload X2959.here hx rfl (hb hby at_336) rfl ?_
          refine XS.iconst X2959.here hx rfl (hb hby at_338) ?_
          refine XS.icmpNo X2959.here hx rfl (hb hby at_339) rfl (teq (rfl : (2 : Int32) = (2 : Int32))).2 ?_
          refine XS.iload X2959.here hx rfl (hb hby at_342) rfl ?_
          exact k)
        obtain ⟨T2971, L2971, X2971, e2971, N2971, pre2971⟩ : ∃ (T2971 : State) (L2971 : List Loc), Stand p l e room_1 (s.setVm vm2798) m #[(.long q0), (.long q1), (.long q2), (.long q3), (.long q4), (.long q5)] below meth c T2971 L2971 17 139 ∧ T2971.heap = h2933 ∧ Fr n0 L2971 ∧ ∀ t, Steps p.tables e below (T2971.setTop (mkF m 380 L_2960 [(.int (j0_26 q0 q1 q2 q3 q4 q5))])) t → Steps p.tables e below (s₁.setTop (entryFrame m #[(.long q0), (.long q1), (.long q2), (.long q3), (.long q4), (.long q5)] maxLocals)) t := by
          by_cases hc2972 : (v11 (own_c q0) (own_z q2 q0) (own_z q4 q0) (own_Nn q2 q3) (j0_22 q0 q2 q3 q4) (j0_24 q0 q2 q3 q4)) = (0 : Int32)
          · skip
            have pre2973 := fun (t : State) (k : Steps p.tables e below (T2959.setTop (mkF m 380 L_2960 [(.int (0 : Int32))])) t) => pre2970 t (by
              show Steps p.tables e below (T2959.setTop (mkF m 344 L_2960 [(.int (v11 (own_c q0) (own_z q2 q0) (own_z q4 q0) (own_Nn q2 q3) (j0_22 q0 q2 q3 q4) (j0_24 q0 q2 q3 q4)))])) _
              refine XS.ifYes X2959.here hx rfl (pc0 := 344) (pc' := 379) rfl (hb hby at_344) rfl ((if0 _ _).trans (teq hc2972).1) (by decide) (by decide) ?_
              refine XS.iconst X2959.here hx rfl (hb hby at_379) ?_
              exact k)
            have hj2974 : (j0_26 q0 q1 q2 q3 q4 q5) = (0 : Int32) := by unfold j0_26; first | (rw [if_pos hc2972]) | (simp only [if_pos hc2972])
            exact ⟨T2959, _, X2959, e2959, N2959, fun t k => pre2973 t (by rw [hj2974] at k; exact k)⟩
          · skip
            obtain ⟨cl2975, Ar2975, q2975, S2975, M2975, H2975, G2975⟩ := id f2934
            have hin2976 : ¬ ((2 : Int32) < 0 ∨ cl2975.slots.size ≤ ((2 : Int32)).toNatClampNeg) := inb_of S2975 ⟨by decide, by decide⟩
            have hat2977 : cl2975.slots[((2 : Int32)).toNatClampNeg]? = some (.long (j0_23 q1 q2 q3 q5)) := H2975.at hin2976 rfl
            obtain ⟨cl2978, Ar2978, q2978, S2978, M2978, H2978, G2978⟩ := id f2935
            have hin2979 : ¬ ((2 : Int32) < 0 ∨ cl2978.slots.size ≤ ((2 : Int32)).toNatClampNeg) := inb_of S2978 ⟨by decide, by decide⟩
            have hat2980 : cl2978.slots[((2 : Int32)).toNatClampNeg]? = some (.long (j0_25 q1 q2 q3 q5)) := H2978.at hin2979 rfl
            obtain ⟨_, _, ⟨T2981, L2981, k2981, n2981⟩, -, X2981, ⟨Lc2981, hQ2981, l2981, y2981, z2981⟩, st2981⟩ := Jvm.LawKit.callS X2959 hx (y := (⟨"com/example/stowline/stowline/VolumeBoundCopyTotalsPinLaw", "check", "(JJJIJJ)Z"⟩ : MethodName)) hown (mvT hZ (own_m hw 81 rfl)) (mvT hZ (own_m hw 82 rfl)) (mvT hZ (own_m hw 7 rfl)) (mvT hZ (own_m hw 83 rfl)) (by decide) (backOf (W := 0) (rm11 l Z aw hw [] ((own_c q1)) ((own_z q3 q1)) ((own_z q5 q1)) ((own_Nn q2 q3)) ((j0_23 q1 q2 q3 q5)) ((j0_25 q1 q2 q3 q5)) h2933 n0 Z2933 ) hZ (own_m hw 83 rfl) (own_m hw 7 rfl) (by decide) (by decide)) (g := (mkF m 369 L_2960 [(.long (j0_25 q1 q2 q3 q5)), (.long (j0_23 q1 q2 q3 q5)), (.int (own_Nn q2 q3)), (.long (own_z q5 q1)), (.long (own_z q3 q1)), (.long (own_c q1))])) rfl (by rw [hml]; rfl) (argsL := [(.long (own_c q1)), (.long (own_z q3 q1)), (.long (own_z q5 q1)), (.int (own_Nn q2 q3)), (.long (j0_23 q1 q2 q3 q5)), (.long (j0_25 q1 q2 q3 q5))]) (rest := []) (lenOf pd_10 rfl) rfl (by show 2 * 0 + _ ≤ _; exact Nat.le_of_eq rfl) (hb hby at_369) (fun _ _ => ⟨rfl, e2959, (by decide : 17 + 0 ≤ _), (by decide : 139 + 0 ≤ _)⟩)
            dsimp only [Pt.U, Pt.locs, Pt.cells, Pt.slots] at X2981 l2981 y2981 z2981 st2981 hQ2981
            subst l2981 y2981 z2981
            obtain ⟨rfl, N2981q, e2981⟩ := hQ2981
            have N2981 := Fr.app N2959 N2981q
            have pre2983 := fun (t : State) (k : Steps p.tables e below (T2981.setTop (mkF m 372 L_2960 [(.int (v11 (own_c q1) (own_z q3 q1) (own_z q5 q1) (own_Nn q2 q3) (j0_23 q1 q2 q3 q5) (j0_25 q1 q2 q3 q5)))])) t) => pre2970 t (by
              show Steps p.tables e below (T2959.setTop (mkF m 344 L_2960 [(.int (v11 (own_c q0) (own_z q2 q0) (own_z q4 q0) (own_Nn q2 q3) (j0_22 q0 q2 q3 q4) (j0_24 q0 q2 q3 q4)))])) _
              refine XS.ifNo X2959.here hx rfl (hb hby at_344) rfl ((if0 _ _).trans (feq hc2972).1) ?_
              refine XS.lload X2959.here hx rfl (hb hby at_347) rfl ?_
              refine XS.lload X2959.here hx rfl (hb hby at_349) rfl ?_
              refine XS.lload X2959.here hx rfl (hb hby at_351) rfl ?_
              refine XS.iload X2959.here hx rfl (hb hby at_353) rfl ?_
              refine XS.aload X2959.here hx rfl (hb hby at_355) rfl rfl ?_
              show Steps p.tables e below (T2959.setTop (mkF m 357 L_2960 [(.ref b2465), (.int (own_Nn q2 q3)), (.long (own_z q5 q1)), (.long (own_z q3 q1)), (.long (own_c q1))])) _
              refine XS.iload X2959.here hx rfl (hb hby at_357) rfl ?_
              refine XS.iconst X2959.here hx rfl (hb hby at_359) ?_
              refine XS.iadd X2959.here hx rfl (hb hby at_360) rfl ?_
              show Steps p.tables e below (T2959.setTop (mkF m 361 L_2960 [(.int (2 : Int32)), (.ref b2465), (.int (own_Nn q2 q3)), (.long (own_z q5 q1)), (.long (own_z q3 q1)), (.long (own_c q1))])) _
              refine X2959.laload hx (j := (2 : Int32)) (v := (.long (j0_23 q1 q2 q3 q5))) (by rw [e2959]; exact Ar2975.1) (State.isArrayOf_alike hZ.alike Ar2975.2.1) Ar2975.2.2 hin2976 hat2977 (g := (mkF m 361 L_2960 [(.int (2 : Int32)), (.ref b2465), (.int (own_Nn q2 q3)), (.long (own_z q5 q1)), (.long (own_z q3 q1)), (.long (own_c q1))])) rfl rfl (hb hby at_361) _ ?_
              refine XS.aload X2959.here hx rfl (hb hby at_362) rfl rfl ?_
              refine XS.iload X2959.here hx rfl (hb hby at_364) rfl ?_
              refine XS.iconst X2959.here hx rfl (hb hby at_366) ?_
              refine XS.iadd X2959.here hx rfl (hb hby at_367) rfl ?_
              show Steps p.tables e below (T2959.setTop (mkF m 368 L_2960 [(.int (2 : Int32)), (.ref b2529), (.long (j0_23 q1 q2 q3 q5)), (.int (own_Nn q2 q3)), (.long (own_z q5 q1)), (.long (own_z q3 q1)), (.long (own_c q1))])) _
              refine X2959.laload hx (j := (2 : Int32)) (v := (.long (j0_25 q1 q2 q3 q5))) (by rw [e2959]; exact Ar2978.1) (State.isArrayOf_alike hZ.alike Ar2978.2.1) Ar2978.2.2 hin2979 hat2980 (g := (mkF m 368 L_2960 [(.int (2 : Int32)), (.ref b2529), (.long (j0_23 q1 q2 q3 q5)), (.int (own_Nn q2 q3)), (.long (own_z q5 q1)), (.long (own_z q3 q1)), (.long (own_c q1))])) rfl rfl (hb hby at_368) _ ?_
              show Steps p.tables e below (T2959.setTop (mkF m 369 L_2960 [(.long (j0_25 q1 q2 q3 q5)), (.long (j0_23 q1 q2 q3 q5)), (.int (own_Nn q2 q3)), (.long (own_z q5 q1)), (.long (own_z q3 q1)), (.long (own_c q1))])) _
              refine st2981 _ ?_
              exact k)
            by_cases hc2982 : (v11 (own_c q1) (own_z q3 q1) (own_z q5 q1) (own_Nn q2 q3) (j0_23 q1 q2 q3 q5) (j0_25 q1 q2 q3 q5)) = (0 : Int32)
            · skip
              have pre2984 := fun (t : State) (k : Steps p.tables e below (T2981.setTop (mkF m 380 L_2960 [(.int (0 : Int32))])) t) => pre2983 t (by
                show Steps p.tables e below (T2981.setTop (mkF m 372 L_2960 [(.int (v11 (own_c q1) (own_z q3 q1) (own_z q5 q1) (own_Nn q2 q3) (j0_23 q1 q2 q3 q5) (j0_25 q1 q2 q3 q5)))])) _
                refine XS.ifYes X2981.here hx rfl (pc0 := 372) (pc' := 379) rfl (hb hby at_372) rfl ((if0 _ _).trans (teq hc2982).1) (by decide) (by decide) ?_
                refine XS.iconst X2981.here hx rfl (hb hby at_379) ?_
                exact k)
              have hj2985 : (j0_26 q0 q1 q2 q3 q4 q5) = (0 : Int32) := by unfold j0_26; first | (rw [if_neg hc2972, if_pos hc2982]) | (simp only [if_neg hc2972, if_pos hc2982])
              exact ⟨T2981, _, X2981, e2981, N2981, fun t k => pre2984 t (by rw [hj2985] at k; exact k)⟩
            · skip
              have pre2986 := fun (t : State) (k : Steps p.tables e below (T2981.setTop (mkF m 380 L_2960 [(.int (1 : Int32))])) t) => pre2983 t (by
                show Steps p.tables e below (T2981.setTop (mkF m 372 L_2960 [(.int (v11 (own_c q1) (own_z q3 q1) (own_z q5 q1) (own_Nn q2 q3) (j0_23 q1 q2 q3 q5) (j0_25 q1 q2 q3 q5)))])) _
                refine XS.ifNo X2981.here hx rfl (hb hby at_372) rfl ((if0 _ _).trans (feq hc2982).1) ?_
                refine XS.iconst X2981.here hx rfl (hb hby at_375) ?_
                refine XS.goto X2981.here hx rfl (pc0 := 376) (pc' := 380) rfl (hb hby at_376) (by decide) (by decide) ?_
                exact k)
              have hj2987 : (j0_26 q0 q1 q2 q3 q4 q5) = (1 : Int32) := by unfold j0_26; first | (rw [if_neg hc2972, if_neg hc2982]) | (simp only [if_neg hc2972, if_neg hc2982])
              exact ⟨T2981, _, X2981, e2981, N2981, fun t k => pre2986 t (by rw [hj2987] at k; exact k)⟩
        let L_2988 : Array Slot := #[.val (.long q0), .second, .val (.long q1), .second, .val (.long q2), .second, .val (.long q3), .second, .val (.long q4), .second, .val (.long q5), .second, .val (.int (2 : Int32)), .val (.int (own_Nn q2 q3)), .val (.int ((j0_2 q4) + (j0_3 q5))), .val (.int (1 : Int32)), .val (.long (own_c q0)), .second, .val (.long (own_c q1)), .second, .val (.long (own_z q2 q0)), .second, .val (.long (own_z q3 q1)), .second, .val (.long (own_z q4 q0)), .second, .val (.long (own_z q5 q1)), .second, .val (.ref b2381), .val (.ref b2384), .val (.ref b2390), .val (.ref b2465), .val (.ref b2529), .val (.ref b2604), .val (.int (j0_26 q0 q1 q2 q3 q4 q5))]
        have pre2990 := fun (t : State) (k : Steps p.tables e below (T2971.setTop (mkF m 384 L_2988 [(.int (j0_26 q0 q1 q2 q3 q4 q5))])) t) => pre2971 t (by
          show Steps p.tables e below (T2971.setTop (mkF m 380 L_2960 [(.int (j0_26 q0 q1 q2 q3 q4 q5))])) _
          refine XS.istore X2971.here hx rfl (hb hby at_380) rfl (l' := L_2988) rfl ?_
          refine XS.iload X2971.here hx rfl (hb hby at_382) rfl ?_
          exact k)
        obtain ⟨T2991, L2991, X2991, e2991, N2991, pre2991⟩ : ∃ (T2991 : State) (L2991 : List Loc), Stand p l e room_1 (s.setVm vm2798) m #[(.long q0), (.long q1), (.long q2), (.long q3), (.long q4), (.long q5)] below meth c T2991 L2991 17 139 ∧ T2991.heap = h2933 ∧ Fr n0 L2991 ∧ ∀ t, Steps p.tables e below (T2991.setTop (mkF m 407 L_2988 [(.int (j0_27 q0 q1 q2 q3 q4 q5))])) t → Steps p.tables e below (s₁.setTop (entryFrame m #[(.long q0), (.long q1), (.long q2), (.long q3), (.long q4), (.long q5)] maxLocals)) t := by
          by_cases hc2992 : (j0_26 q0 q1 q2 q3 q4 q5) = (0 : Int32)
          · skip
            have pre2993 := fun (t : State) (k : Steps p.tables e below (T2971.setTop (mkF m 407 L_2988 [(.int (0 : Int32))])) t) => pre2990 t (by
              show Steps p.tables e below (T2971.setTop (mkF m 384 L_2988 [(.int (j0_26 q0 q1 q2 q3 q4 q5))])) _
              refine XS.ifYes X2971.here hx rfl (pc0 := 384) (pc' := 406) rfl (hb hby at_384) rfl ((if0 _ _).trans (teq hc2992).1) (by decide) (by decide) ?_
              refine XS.iconst X2971.here hx rfl (hb hby at_406) ?_
              exact k)
            have hj2994 : (j0_27 q0 q1 q2 q3 q4 q5) = (0 : Int32) := by unfold j0_27; first | (rw [if_pos hc2992]) | (simp only [if_pos hc2992])
            exact ⟨T2971, _, X2971, e2971, N2971, fun t k => pre2993 t (by rw [hj2994] at k; exact k)⟩
          · skip
            obtain ⟨_, _, ⟨T2995, L2995, k2995, n2995⟩, -, X2995, ⟨Lc2995, hQ2995, l2995, y2995, z2995⟩, st2995⟩ := Jvm.LawKit.callS X2971 hx (y := (⟨"com/example/stowline/stowline/VolumeBoundCopyTotalsPinLaw", "untouched", "([J[JIII)Z"⟩ : MethodName)) hown (mvT hZ (own_m hw 84 rfl)) (mvT hZ (own_m hw 85 rfl)) (mvT hZ (own_m hw 7 rfl)) (mvT hZ (own_m hw 86 rfl)) (by decide) (backOf (W := 0) (rm12_lo0 l Z aw hw [] b2465 b2529 ((1 : Int32)) ((2 : Int32)) ((j0_22 q0 q2 q3 q4)) ((j0_23 q1 q2 q3 q5)) ((-4 : Int64)) ((j0_24 q0 q2 q3 q4)) ((j0_25 q1 q2 q3 q5)) ((-14 : Int64)) k2465 k2529 h2933 n0 Z2933 f2934 f2935 (by decide)) hZ (own_m hw 86 rfl) (own_m hw 7 rfl) (by decide) (by decide)) (g := (mkF m 396 L_2988 [(.int (2 : Int32)), (.int (1 : Int32)), (.int (0 : Int32)), (.ref b2529), (.ref b2465)])) rfl (by rw [hml]; rfl) (argsL := [(.ref b2465), (.ref b2529), (.int (0 : Int32)), (.int (1 : Int32)), (.int (2 : Int32))]) (rest := []) (lenOf pd_11 rfl) rfl (by show 2 * 0 + _ ≤ _; exact Nat.le_of_eq rfl) (hb hby at_396) (fun _ _ => ⟨rfl, e2971, (by decide : 17 + 0 ≤ _), (by decide : 139 + 0 ≤ _)⟩)
            dsimp only [Pt.U, Pt.locs, Pt.cells, Pt.slots] at X2995 l2995 y2995 z2995 st2995 hQ2995
            subst l2995 y2995 z2995
            obtain ⟨rfl, N2995q, e2995⟩ := hQ2995
            have N2995 := Fr.app N2971 N2995q
            have pre2996 := fun (t : State) (k : Steps p.tables e below (T2995.setTop (mkF m 407 L_2988 [(.int (1 : Int32))])) t) => pre2990 t (by
              show Steps p.tables e below (T2971.setTop (mkF m 384 L_2988 [(.int (j0_26 q0 q1 q2 q3 q4 q5))])) _
              refine XS.ifNo X2971.here hx rfl (hb hby at_384) rfl ((if0 _ _).trans (feq hc2992).1) ?_
              refine XS.aload X2971.here hx rfl (hb hby at_387) rfl rfl ?_
              refine XS.aload X2971.here hx rfl (hb hby at_389) rfl rfl ?_
              refine XS.iconst X2971.here hx rfl (hb hby at_391) ?_
              refine XS.iload X2971.here hx rfl (hb hby at_392) rfl ?_
              refine XS.iload X2971.here hx rfl (hb hby at_394) rfl ?_
              show Steps p.tables e below (T2971.setTop (mkF m 396 L_2988 [(.int (2 : Int32)), (.int (1 : Int32)), (.int (0 : Int32)), (.ref b2529), (.ref b2465)])) _
              refine st2995 _ ?_
              refine XS.ifNo X2995.here hx rfl (hb hby at_399) rfl ((if0 _ _).trans (feq (by decide : ¬ ((1 : Int32) = (0 : Int32)))).1) ?_
              refine XS.iconst X2995.here hx rfl (hb hby at_402) ?_
              refine XS.goto X2995.here hx rfl (pc0 := 403) (pc' := 407) rfl (hb hby at_403) (by decide) (by decide) ?_
              exact k)
            have hj2997 : (j0_27 q0 q1 q2 q3 q4 q5) = (1 : Int32) := by unfold j0_27; first | (rw [if_neg hc2992]) | (simp only [if_neg hc2992])
            exact ⟨T2995, _, X2995, e2995, N2995, fun t k => pre2996 t (by rw [hj2997] at k; exact k)⟩
        let L_2998 : Array Slot := #[.val (.long q0), .second, .val (.long q1), .second, .val (.long q2), .second, .val (.long q3), .second, .val (.long q4), .second, .val (.long q5), .second, .val (.int (2 : Int32)), .val (.int (own_Nn q2 q3)), .val (.int ((j0_2 q4) + (j0_3 q5))), .val (.int (1 : Int32)), .val (.long (own_c q0)), .second, .val (.long (own_c q1)), .second, .val (.long (own_z q2 q0)), .second, .val (.long (own_z q3 q1)), .second, .val (.long (own_z q4 q0)), .second, .val (.long (own_z q5 q1)), .second, .val (.ref b2381), .val (.ref b2384), .val (.ref b2390), .val (.ref b2465), .val (.ref b2529), .val (.ref b2604), .val (.int (j0_27 q0 q1 q2 q3 q4 q5))]
        have pre3000 := fun (t : State) (k : Steps p.tables e below (T2991.setTop (mkF m 411 L_2998 [(.int (j0_27 q0 q1 q2 q3 q4 q5))])) t) => pre2991 t (by
          show Steps p.tables e below (T2991.setTop (mkF m 407 L_2988 [(.int (j0_27 q0 q1 q2 q3 q4 q5))])) _
          refine XS.istore X2991.here hx rfl (hb hby at_407) rfl (l' := L_2998) rfl ?_
          refine XS.iload X2991.here hx rfl (hb hby at_409) rfl ?_
          exact k)
        obtain ⟨T3001, L3001, X3001, e3001, N3001, pre3001⟩ : ∃ (T3001 : State) (L3001 : List Loc), Stand p l e room_1 (s.setVm vm2798) m #[(.long q0), (.long q1), (.long q2), (.long q3), (.long q4), (.long q5)] below meth c T3001 L3001 17 139 ∧ T3001.heap = h2933 ∧ Fr n0 L3001 ∧ ∀ t, Steps p.tables e below (T3001.setTop (mkF m 434 L_2998 [(.int (j0_28 q0 q1 q2 q3 q4 q5))])) t → Steps p.tables e below (s₁.setTop (entryFrame m #[(.long q0), (.long q1), (.long q2), (.long q3), (.long q4), (.long q5)] maxLocals)) t := by
          by_cases hc3002 : (j0_27 q0 q1 q2 q3 q4 q5) = (0 : Int32)
          · skip
            have pre3003 := fun (t : State) (k : Steps p.tables e below (T2991.setTop (mkF m 434 L_2998 [(.int (0 : Int32))])) t) => pre3000 t (by
              show Steps p.tables e below (T2991.setTop (mkF m 411 L_2998 [(.int (j0_27 q0 q1 q2 q3 q4 q5))])) _
              refine XS.ifYes X2991.here hx rfl (pc0 := 411) (pc' := 433) rfl (hb hby at_411) rfl ((if0 _ _).trans (teq hc3002).1) (by decide) (by decide) ?_
              refine XS.iconst X2991.here hx rfl (hb hby at_433) ?_
              exact k)
            have hj3004 : (j0_28 q0 q1 q2 q3 q4 q5) = (0 : Int32) := by unfold j0_28; first | (rw [if_pos hc3002]) | (simp only [if_pos hc3002])
            exact ⟨T2991, _, X2991, e2991, N2991, fun t k => pre3003 t (by rw [hj3004] at k; exact k)⟩
          · skip
            obtain ⟨_, _, ⟨T3005, L3005, k3005, n3005⟩, -, X3005, ⟨Lc3005, hQ3005, l3005, y3005, z3005⟩, st3005⟩ := Jvm.LawKit.callS X2991 hx (y := (⟨"com/example/stowline/stowline/VolumeBoundCopyTotalsPinLaw", "untouched", "([J[JIII)Z"⟩ : MethodName)) hown (mvT hZ (own_m hw 84 rfl)) (mvT hZ (own_m hw 85 rfl)) (mvT hZ (own_m hw 7 rfl)) (mvT hZ (own_m hw 86 rfl)) (by decide) (backOf (W := 0) (rm12_in l Z aw hw [] b2465 b2529 ((1 : Int32)) ((1 : Int32)) ((2 : Int32)) h2933 n0 Z2933 (by decide) (by decide)) hZ (own_m hw 86 rfl) (own_m hw 7 rfl) (by decide) (by decide)) (g := (mkF m 423 L_2998 [(.int (2 : Int32)), (.int (1 : Int32)), (.int (1 : Int32)), (.ref b2529), (.ref b2465)])) rfl (by rw [hml]; rfl) (argsL := [(.ref b2465), (.ref b2529), (.int (1 : Int32)), (.int (1 : Int32)), (.int (2 : Int32))]) (rest := []) (lenOf pd_11 rfl) rfl (by show 2 * 0 + _ ≤ _; exact Nat.le_of_eq rfl) (hb hby at_423) (fun _ _ => ⟨rfl, e2991, (by decide : 17 + 0 ≤ _), (by decide : 139 + 0 ≤ _)⟩)
            dsimp only [Pt.U, Pt.locs, Pt.cells, Pt.slots] at X3005 l3005 y3005 z3005 st3005 hQ3005
            subst l3005 y3005 z3005
            obtain ⟨rfl, N3005q, e3005⟩ := hQ3005
            have N3005 := Fr.app N2991 N3005q
            have pre3006 := fun (t : State) (k : Steps p.tables e below (T3005.setTop (mkF m 434 L_2998 [(.int (1 : Int32))])) t) => pre3000 t (by
              show Steps p.tables e below (T2991.setTop (mkF m 411 L_2998 [(.int (j0_27 q0 q1 q2 q3 q4 q5))])) _
              refine XS.ifNo X2991.here hx rfl (hb hby at_411) rfl ((if0 _ _).trans (feq hc3002).1) ?_
              refine XS.aload X2991.here hx rfl (hb hby at_414) rfl rfl ?_
              refine XS.aload X2991.here hx rfl (hb hby at_416) rfl rfl ?_
              refine XS.iconst X2991.here hx rfl (hb hby at_418) ?_
              refine XS.iload X2991.here hx rfl (hb hby at_419) rfl ?_
              refine XS.iload X2991.here hx rfl (hb hby at_421) rfl ?_
              show Steps p.tables e below (T2991.setTop (mkF m 423 L_2998 [(.int (2 : Int32)), (.int (1 : Int32)), (.int (1 : Int32)), (.ref b2529), (.ref b2465)])) _
              refine st3005 _ ?_
              refine XS.ifNo X3005.here hx rfl (hb hby at_426) rfl ((if0 _ _).trans (feq (by decide : ¬ ((1 : Int32) = (0 : Int32)))).1) ?_
              refine XS.iconst X3005.here hx rfl (hb hby at_429) ?_
              refine XS.goto X3005.here hx rfl (pc0 := 430) (pc' := 434) rfl (hb hby at_430) (by decide) (by decide) ?_
              exact k)
            have hj3007 : (j0_28 q0 q1 q2 q3 q4 q5) = (1 : Int32) := by unfold j0_28; first | (rw [if_neg hc3002]) | (simp only [if_neg hc3002])
            exact ⟨T3005, _, X3005, e3005, N3005, fun t k => pre3006 t (by rw [hj3007] at k; exact k)⟩
        let L_3008 : Array Slot := #[.val (.long q0), .second, .val (.long q1), .second, .val (.long q2), .second, .val (.long q3), .second, .val (.long q4), .second, .val (.long q5), .second, .val (.int (2 : Int32)), .val (.int (own_Nn q2 q3)), .val (.int ((j0_2 q4) + (j0_3 q5))), .val (.int (1 : Int32)), .val (.long (own_c q0)), .second, .val (.long (own_c q1)), .second, .val (.long (own_z q2 q0)), .second, .val (.long (own_z q3 q1)), .second, .val (.long (own_z q4 q0)), .second, .val (.long (own_z q5 q1)), .second, .val (.ref b2381), .val (.ref b2384), .val (.ref b2390), .val (.ref b2465), .val (.ref b2529), .val (.ref b2604), .val (.int (j0_28 q0 q1 q2 q3 q4 q5))]
        have pre3010 := fun (t : State) (k : Steps p.tables e below (T3001.setTop (mkF m 438 L_3008 [(.int (j0_28 q0 q1 q2 q3 q4 q5))])) t) => pre3001 t (by
          show Steps p.tables e below (T3001.setTop (mkF m 434 L_2998 [(.int (j0_28 q0 q1 q2 q3 q4 q5))])) _
          refine XS.istore X3001.here hx rfl (hb hby at_434) rfl (l' := L_3008) rfl ?_
          refine XS.iload X3001.here hx rfl (hb hby at_436) rfl ?_
          exact k)
        obtain ⟨T3011, L3011, X3011, e3011, N3011, pre3011⟩ : ∃ (T3011 : State) (L3011 : List Loc), Stand p l e room_1 (s.setVm vm2798) m #[(.long q0), (.long q1), (.long q2), (.long q3), (.long q4), (.long q5)] below meth c T3011 L3011 17 139 ∧ T3011.heap = h2933 ∧ Fr n0 L3011 ∧ ∀ t, Steps p.tables e below (T3011.setTop (mkF m 461 L_3008 [(.int (j0_29 q0 q1 q2 q3 q4 q5))])) t → Steps p.tables e below (s₁.setTop (entryFrame m #[(.long q0), (.long q1), (.long q2), (.long q3), (.long q4), (.long q5)] maxLocals)) t := by
          by_cases hc3012 : (j0_28 q0 q1 q2 q3 q4 q5) = (0 : Int32)
          · skip
            have pre3013 := fun (t : State) (k : Steps p.tables e below (T3001.setTop (mkF m 461 L_3008 [(.int (0 : Int32))])) t) => pre3010 t (by
              show Steps p.tables e below (T3001.setTop (mkF m 438 L_3008 [(.int (j0_28 q0 q1 q2 q3 q4 q5))])) _
              refine XS.ifYes X3001.here hx rfl (pc0 := 438) (pc' := 460) rfl (hb hby at_438) rfl ((if0 _ _).trans (teq hc3012).1) (by decide) (by decide) ?_
              refine XS.iconst X3001.here hx rfl (hb hby at_460) ?_
              exact k)
            have hj3014 : (j0_29 q0 q1 q2 q3 q4 q5) = (0 : Int32) := by unfold j0_29; first | (rw [if_pos hc3012]) | (simp only [if_pos hc3012])
            exact ⟨T3001, _, X3001, e3001, N3001, fun t k => pre3013 t (by rw [hj3014] at k; exact k)⟩
          · skip
            obtain ⟨_, _, ⟨T3015, L3015, k3015, n3015⟩, -, X3015, ⟨Lc3015, hQ3015, l3015, y3015, z3015⟩, st3015⟩ := Jvm.LawKit.callS X3001 hx (y := (⟨"com/example/stowline/stowline/VolumeBoundCopyTotalsPinLaw", "untouched", "([J[JIII)Z"⟩ : MethodName)) hown (mvT hZ (own_m hw 84 rfl)) (mvT hZ (own_m hw 85 rfl)) (mvT hZ (own_m hw 7 rfl)) (mvT hZ (own_m hw 86 rfl)) (by decide) (backOf (W := 0) (rm12_in l Z aw hw [] b2465 b2529 ((2 : Int32)) ((1 : Int32)) ((2 : Int32)) h2933 n0 Z2933 (by decide) (by decide)) hZ (own_m hw 86 rfl) (own_m hw 7 rfl) (by decide) (by decide)) (g := (mkF m 450 L_3008 [(.int (2 : Int32)), (.int (1 : Int32)), (.int (2 : Int32)), (.ref b2529), (.ref b2465)])) rfl (by rw [hml]; rfl) (argsL := [(.ref b2465), (.ref b2529), (.int (2 : Int32)), (.int (1 : Int32)), (.int (2 : Int32))]) (rest := []) (lenOf pd_11 rfl) rfl (by show 2 * 0 + _ ≤ _; exact Nat.le_of_eq rfl) (hb hby at_450) (fun _ _ => ⟨rfl, e3001, (by decide : 17 + 0 ≤ _), (by decide : 139 + 0 ≤ _)⟩)
            dsimp only [Pt.U, Pt.locs, Pt.cells, Pt.slots] at X3015 l3015 y3015 z3015 st3015 hQ3015
            subst l3015 y3015 z3015
            obtain ⟨rfl, N3015q, e3015⟩ := hQ3015
            have N3015 := Fr.app N3001 N3015q
            have pre3016 := fun (t : State) (k : Steps p.tables e below (T3015.setTop (mkF m 461 L_3008 [(.int (1 : Int32))])) t) => pre3010 t (by
              show Steps p.tables e below (T3001.setTop (mkF m 438 L_3008 [(.int (j0_28 q0 q1 q2 q3 q4 q5))])) _
              refine XS.ifNo X3001.here hx rfl (hb hby at_438) rfl ((if0 _ _).trans (feq hc3012).1) ?_
              refine XS.aload X3001.here hx rfl (hb hby at_441) rfl rfl ?_
              refine XS.aload X3001.here hx rfl (hb hby at_443) rfl rfl ?_
              refine XS.iconst X3001.here hx rfl (hb hby at_445) ?_
              refine XS.iload X3001.here hx rfl (hb hby at_446) rfl ?_
              refine XS.iload X3001.here hx rfl (hb hby at_448) rfl ?_
              show Steps p.tables e below (T3001.setTop (mkF m 450 L_3008 [(.int (2 : Int32)), (.int (1 : Int32)), (.int (2 : Int32)), (.ref b2529), (.ref b2465)])) _
              refine st3015 _ ?_
              refine XS.ifNo X3015.here hx rfl (hb hby at_453) rfl ((if0 _ _).trans (feq (by decide : ¬ ((1 : Int32) = (0 : Int32)))).1) ?_
              refine XS.iconst X3015.here hx rfl (hb hby at_456) ?_
              refine XS.goto X3015.here hx rfl (pc0 := 457) (pc' := 461) rfl (hb hby at_457) (by decide) (by decide) ?_
              exact k)
            have hj3017 : (j0_29 q0 q1 q2 q3 q4 q5) = (1 : Int32) := by unfold j0_29; first | (rw [if_neg hc3012]) | (simp only [if_neg hc3012])
            exact ⟨T3015, _, X3015, e3015, N3015, fun t k => pre3016 t (by rw [hj3017] at k; exact k)⟩
        let L_3018 : Array Slot := #[.val (.long q0), .second, .val (.long q1), .second, .val (.long q2), .second, .val (.long q3), .second, .val (.long q4), .second, .val (.long q5), .second, .val (.int (2 : Int32)), .val (.int (own_Nn q2 q3)), .val (.int ((j0_2 q4) + (j0_3 q5))), .val (.int (1 : Int32)), .val (.long (own_c q0)), .second, .val (.long (own_c q1)), .second, .val (.long (own_z q2 q0)), .second, .val (.long (own_z q3 q1)), .second, .val (.long (own_z q4 q0)), .second, .val (.long (own_z q5 q1)), .second, .val (.ref b2381), .val (.ref b2384), .val (.ref b2390), .val (.ref b2465), .val (.ref b2529), .val (.ref b2604), .val (.int (j0_29 q0 q1 q2 q3 q4 q5))]
        have pre3020 := fun (t : State) (k : Steps p.tables e below (T3011.setTop (mkF m 465 L_3018 [(.int (j0_29 q0 q1 q2 q3 q4 q5))])) t) => pre3011 t (by
          show Steps p.tables e below (T3011.setTop (mkF m 461 L_3008 [(.int (j0_29 q0 q1 q2 q3 q4 q5))])) _
          refine XS.istore X3011.here hx rfl (hb hby at_461) rfl (l' := L_3018) rfl ?_
          refine XS.iload X3011.here hx rfl (hb hby at_463) rfl ?_
          exact k)
        obtain ⟨T3021, L3021, X3021, e3021, N3021, pre3021⟩ : ∃ (T3021 : State) (L3021 : List Loc), Stand p l e room_1 (s.setVm vm2798) m #[(.long q0), (.long q1), (.long q2), (.long q3), (.long q4), (.long q5)] below meth c T3021 L3021 17 139 ∧ T3021.heap = h2933 ∧ Fr n0 L3021 ∧ ∀ t, Steps p.tables e below (T3021.setTop (mkF m 488 L_3018 [(.int (j0_30 q0 q1 q2 q3 q4 q5))])) t → Steps p.tables e below (s₁.setTop (entryFrame m #[(.long q0), (.long q1), (.long q2), (.long q3), (.long q4), (.long q5)] maxLocals)) t := by
          by_cases hc3022 : (j0_29 q0 q1 q2 q3 q4 q5) = (0 : Int32)
          · skip
            have pre3023 := fun (t : State) (k : Steps p.tables e below (T3011.setTop (mkF m 488 L_3018 [(.int (0 : Int32))])) t) => pre3020 t (by
              show Steps p.tables e below (T3011.setTop (mkF m 465 L_3018 [(.int (j0_29 q0 q1 q2 q3 q4 q5))])) _
              refine XS.ifYes X3011.here hx rfl (pc0 := 465) (pc' := 487) rfl (hb hby at_465) rfl ((if0 _ _).trans (teq hc3022).1) (by decide) (by decide) ?_
              refine XS.iconst X3011.here hx rfl (hb hby at_487) ?_
              exact k)
            have hj3024 : (j0_30 q0 q1 q2 q3 q4 q5) = (0 : Int32) := by unfold j0_30; first | (rw [if_pos hc3022]) | (simp only [if_pos hc3022])
            exact ⟨T3011, _, X3011, e3011, N3011, fun t k => pre3023 t (by rw [hj3024] at k; exact k)⟩
          · skip
            obtain ⟨_, _, ⟨T3025, L3025, k3025, n3025⟩, -, X3025, ⟨Lc3025, hQ3025, l3025, y3025, z3025⟩, st3025⟩ := Jvm.LawKit.callS X3011 hx (y := (⟨"com/example/stowline/stowline/VolumeBoundCopyTotalsPinLaw", "untouched", "([J[JIII)Z"⟩ : MethodName)) hown (mvT hZ (own_m hw 84 rfl)) (mvT hZ (own_m hw 85 rfl)) (mvT hZ (own_m hw 7 rfl)) (mvT hZ (own_m hw 86 rfl)) (by decide) (backOf (W := 0) (rm12_hi3 l Z aw hw [] b2465 b2529 ((1 : Int32)) ((2 : Int32)) ((-1 : Int64)) ((j0_22 q0 q2 q3 q4)) ((j0_23 q1 q2 q3 q5)) ((-11 : Int64)) ((j0_24 q0 q2 q3 q4)) ((j0_25 q1 q2 q3 q5)) k2465 k2529 h2933 n0 Z2933 f2934 f2935 (by decide) (by decide)) hZ (own_m hw 86 rfl) (own_m hw 7 rfl) (by decide) (by decide)) (g := (mkF m 477 L_3018 [(.int (2 : Int32)), (.int (1 : Int32)), (.int (3 : Int32)), (.ref b2529), (.ref b2465)])) rfl (by rw [hml]; rfl) (argsL := [(.ref b2465), (.ref b2529), (.int (3 : Int32)), (.int (1 : Int32)), (.int (2 : Int32))]) (rest := []) (lenOf pd_11 rfl) rfl (by show 2 * 0 + _ ≤ _; exact Nat.le_of_eq rfl) (hb hby at_477) (fun _ _ => ⟨rfl, e3011, (by decide : 17 + 0 ≤ _), (by decide : 139 + 0 ≤ _)⟩)
            dsimp only [Pt.U, Pt.locs, Pt.cells, Pt.slots] at X3025 l3025 y3025 z3025 st3025 hQ3025
            subst l3025 y3025 z3025
            obtain ⟨rfl, N3025q, e3025⟩ := hQ3025
            have N3025 := Fr.app N3011 N3025q
            have pre3026 := fun (t : State) (k : Steps p.tables e below (T3025.setTop (mkF m 488 L_3018 [(.int (1 : Int32))])) t) => pre3020 t (by
              show Steps p.tables e below (T3011.setTop (mkF m 465 L_3018 [(.int (j0_29 q0 q1 q2 q3 q4 q5))])) _
              refine XS.ifNo X3011.here hx rfl (hb hby at_465) rfl ((if0 _ _).trans (feq hc3022).1) ?_
              refine XS.aload X3011.here hx rfl (hb hby at_468) rfl rfl ?_
              refine XS.aload X3011.here hx rfl (hb hby at_470) rfl rfl ?_
              refine XS.iconst X3011.here hx rfl (hb hby at_472) ?_
              refine XS.iload X3011.here hx rfl (hb hby at_473) rfl ?_
              refine XS.iload X3011.here hx rfl (hb hby at_475) rfl ?_
              show Steps p.tables e below (T3011.setTop (mkF m 477 L_3018 [(.int (2 : Int32)), (.int (1 : Int32)), (.int (3 : Int32)), (.ref b2529), (.ref b2465)])) _
              refine st3025 _ ?_
              refine XS.ifNo X3025.here hx rfl (hb hby at_480) rfl ((if0 _ _).trans (feq (by decide : ¬ ((1 : Int32) = (0 : Int32)))).1) ?_
              refine XS.iconst X3025.here hx rfl (hb hby at_483) ?_
              refine XS.goto X3025.here hx rfl (pc0 := 484) (pc' := 488) rfl (hb hby at_484) (by decide) (by decide) ?_
              exact k)
            have hj3027 : (j0_30 q0 q1 q2 q3 q4 q5) = (1 : Int32) := by unfold j0_30; first | (rw [if_neg hc3022]) | (simp only [if_neg hc3022])
            exact ⟨T3025, _, X3025, e3025, N3025, fun t k => pre3026 t (by rw [hj3027] at k; exact k)⟩
        let L_3028 : Array Slot := #[.val (.long q0), .second, .val (.long q1), .second, .val (.long q2), .second, .val (.long q3), .second, .val (.long q4), .second, .val (.long q5), .second, .val (.int (2 : Int32)), .val (.int (own_Nn q2 q3)), .val (.int ((j0_2 q4) + (j0_3 q5))), .val (.int (1 : Int32)), .val (.long (own_c q0)), .second, .val (.long (own_c q1)), .second, .val (.long (own_z q2 q0)), .second, .val (.long (own_z q3 q1)), .second, .val (.long (own_z q4 q0)), .second, .val (.long (own_z q5 q1)), .second, .val (.ref b2381), .val (.ref b2384), .val (.ref b2390), .val (.ref b2465), .val (.ref b2529), .val (.ref b2604), .val (.int (j0_30 q0 q1 q2 q3 q4 q5))]
        obtain ⟨fs, hr, hrun, hended, hRW⟩ := X3021.leaveW hS (own_hk hk e3021) (v := some (.int (nar .boolean (j0_30 q0 q1 q2 q3 q4 q5)))) (fun h => by rw [Bd.returns] at h; cases h)
        refine ⟨_, _, pre3021 _ ?_, hrun, hended, _, _, rfl, ?_, hRW.1, hRW.2.1, hRW.2.2.1, hRW.2.2.2.mono (by decide) (by decide)⟩
        · skip
          show Steps p.tables e below (T3021.setTop (mkF m 488 L_3018 [(.int (j0_30 q0 q1 q2 q3 q4 q5))])) _
          refine XS.istore X3021.here hx rfl (hb hby at_488) rfl (l' := L_3028) rfl ?_
          refine XS.iload X3021.here hx rfl (hb hby at_490) rfl ?_
          show Steps p.tables e below (T3021.setTop (mkF m 492 L_3028 [(.int (j0_30 q0 q1 q2 q3 q4 q5))])) _
          exact retN X3021 hx (t := .boolean) Bd.returns (by simp) (hb hby at_492) hr
        · show Q0 Z q0 q1 q2 q3 q4 q5 h0 n0 _ T3021.heap _
          rw [e3021]
          have hv : (nar .boolean (j0_30 q0 q1 q2 q3 q4 q5)) = (v0 q0 q1 q2 q3 q4 q5) := by unfold v0; first | (rw [if_neg hc1604, if_neg hs2831, if_pos hs2930]) | (simp only [if_neg hc1604, if_neg hs2831, if_pos hs2930])
          exact ⟨(by rw [← hv]), N3021⟩
      · skip
        have hs3029 : (((j0_2 q4) + (j0_3 q5)) % (3 : Int32)) = (2 : Int32) := own_off3 _ hs2831 hs2930 (own_offp q4 q5)
        let L_3031 : Array Slot := #[.val (.long q0), .second, .val (.long q1), .second, .val (.long q2), .second, .val (.long q3), .second, .val (.long q4), .second, .val (.long q5), .second, .val (.int (2 : Int32)), .val (.int (own_Nn q2 q3)), .val (.int ((j0_2 q4) + (j0_3 q5))), .val (.int (2 : Int32)), .val (.long (own_c q0)), .second, .val (.long (own_c q1)), .second, .val (.long (own_z q2 q0)), .second, .val (.long (own_z q3 q1)), .second, .val (.long (own_z q4 q0)), .second, .val (.long (own_z q5 q1)), .second, .val (.ref b2381), .val (.ref b2384), .val (.ref b2390), .val (.ref b2465), .val (.ref b2529), .val (.ref b2604), .unset]
        have pre3030 := fun (t : State) (k : Steps p.tables e below (T2798.setTop (mkF m 302 L_3031 [])) t) => pre2798 t (by show Steps p.tables e below (T2798.setTop (mkF m 302 #[.val (.long q0), .second, .val (.long q1), .second, .val (.long q2), .second, .val (.long q3), .second, .val (.long q4), .second, .val (.long q5), .second, .val (.int (2 : Int32)), .val (.int (own_Nn q2 q3)), .val (.int ((j0_2 q4) + (j0_3 q5))), .val (.int (((j0_2 q4) + (j0_3 q5)) % (3 : Int32))), .val (.long (own_c q0)), .second, .val (.long (own_c q1)), .second, .val (.long (own_z q2 q0)), .second, .val (.long (own_z q3 q1)), .second, .val (.long (own_z q4 q0)), .second, .val (.long (own_z q5 q1)), .second, .val (.ref b2381), .val (.ref b2384), .val (.ref b2390), .val (.ref b2465), .val (.ref b2529), .val (.ref b2604), .unset] [])) t; rw [hs3029]; exact k)
        obtain ⟨cq3032, kq3032, q3032a, q3032b, q3032c⟩ := isOf hZ e2798 f2798_10
        obtain ⟨_, _, ⟨T3032, L3032, k3032, n3032⟩, -, X3032, ⟨Lc3032, hQ3032, l3032, y3032, z3032⟩, st3032⟩ := X2798.virtualBack hx (y := (⟨"com/example/stowline/stowline/VolumeBound", "copyTotals", "([J[JI)V"⟩ : MethodName)) (z := (⟨"com/example/stowline/stowline/VolumeBound", "copyTotals", "([J[JI)V"⟩ : MethodName)) hown (mvT hZ (own_m hw 72 rfl)) (mvT hZ (own_m hw 73 rfl)) (notFace_of_selects (args := #[]) (mvT hZ (own_m hw 75 rfl))) (mvT hZ (own_m hw 75 rfl)) (mvT hZ (own_m hw 74 rfl)) (by decide) (backOf (W := 0) (rm10_2_2 l Z aw hw [] b2604 b2465 b2529 cx12624 cx22624 ((j0_22 q0 q2 q3 q4)) ((j0_23 q1 q2 q3 q5)) ((j0_24 q0 q2 q3 q4)) ((j0_25 q1 q2 q3 q5)) ((-1 : Int64)) ((-2 : Int64)) ((-3 : Int64)) ((-4 : Int64)) ((-11 : Int64)) ((-12 : Int64)) ((-13 : Int64)) ((-14 : Int64)) cy12624 cy22624 k2465 k2529 h2798 n0 Z2798 f2798_10 f2798_12 f2798_13 f2798_15 f2798_16 f2798_7 f2798_9 g_b2465 g_b2529 (Ne.symm ne2618) (Ne.symm ne2619) (Ne.symm ne2656) (Ne.symm ne2657) (Ne.symm ne2662) (Ne.symm ne2663) ne2541) hZ (own_m hw 76 rfl) (own_m hw 20 rfl) (by decide) (by decide)) q3032a q3032c (g := (mkF m 310 L_3031 [(.int (2 : Int32)), (.ref b2529), (.ref b2465), (.ref b2604)])) rfl (by rw [hml]; rfl) (Steps.refl _) (argsL := [(.ref b2465), (.ref b2529), (.int (2 : Int32))]) (rest := []) (lenOf pd_9 rfl) rfl (by show 2 * 0 + _ ≤ _; exact Nat.le_of_eq rfl) (hb hby at_310) (fun _ _ => ⟨rfl, e2798, (by decide : 17 + 0 ≤ _), (by decide : 139 + 0 ≤ _)⟩)
        dsimp only [Pt.U, Pt.locs, Pt.cells, Pt.slots] at X3032 l3032 y3032 z3032 st3032 hQ3032
        subst l3032 y3032 z3032
        obtain ⟨h3032, e3032⟩ : ∃ z, T3032.heap = z := ⟨_, rfl⟩
        rw [e3032] at hQ3032
        obtain ⟨rfl, N3032q, K3032q, f3033, f3034⟩ := hQ3032
        have f3035 := f2798_0.keep K3032q
        have f3036 := f2798_1.keep K3032q (ninS ne2472 (ninS ne2538 nin0))
        have f3037 := f2798_2.keep K3032q
        have f3038 := f2798_3.keep K3032q (ninS ne2473 (ninS ne2539 nin0))
        have f3039 := f2798_4.keep K3032q
        have f3040 := f2798_5.keep K3032q (ninS ne2474 (ninS ne2540 nin0))
        have f3041 := f2798_6.keep K3032q
        have f3043 := f2798_8.keep K3032q
        have f3045 := f2798_10.keep K3032q
        have f3046 := f2798_11.keep K3032q (ninS (Ne.symm ne2618) (ninS (Ne.symm ne2619) nin0))
        have f3047 := f2798_12.keep K3032q (ninS (Ne.symm ne2618) (ninS (Ne.symm ne2619) nin0))
        have f3048 := f2798_13.keep K3032q (ninS (Ne.symm ne2618) (ninS (Ne.symm ne2619) nin0))
        have f3049 := f2798_14.keep K3032q (ninS (Ne.symm ne2650) (ninS (Ne.symm ne2651) nin0))
        have f3050 := f2798_15.keep K3032q (ninS (Ne.symm ne2656) (ninS (Ne.symm ne2657) nin0))
        have f3051 := f2798_16.keep K3032q (ninS (Ne.symm ne2662) (ninS (Ne.symm ne2663) nin0))
        have Z3032 := Nat.le_trans Z2798 K3032q.1
        have hk := Nat.le_trans hk K3032q.1
        have N3032 := Fr.app N2798 N3032q
        obtain ⟨cl3052, Ar3052, q3052, S3052, M3052, H3052, G3052⟩ := id f3033
        have hin3053 : ¬ ((2 : Int32) < 0 ∨ cl3052.slots.size ≤ ((2 : Int32)).toNatClampNeg) := inb_of S3052 ⟨by decide, by decide⟩
        have hat3054 : cl3052.slots[((2 : Int32)).toNatClampNeg]? = some (.long (j0_22 q0 q2 q3 q4)) := H3052.at hin3053 rfl
        obtain ⟨cl3055, Ar3055, q3055, S3055, M3055, H3055, G3055⟩ := id f3034
        have hin3056 : ¬ ((2 : Int32) < 0 ∨ cl3055.slots.size ≤ ((2 : Int32)).toNatClampNeg) := inb_of S3055 ⟨by decide, by decide⟩
        have hat3057 : cl3055.slots[((2 : Int32)).toNatClampNeg]? = some (.long (j0_24 q0 q2 q3 q4)) := H3055.at hin3056 rfl
        obtain ⟨_, _, ⟨T3058, L3058, k3058, n3058⟩, -, X3058, ⟨Lc3058, hQ3058, l3058, y3058, z3058⟩, st3058⟩ := Jvm.LawKit.callS X3032 hx (y := (⟨"com/example/stowline/stowline/VolumeBoundCopyTotalsPinLaw", "check", "(JJJIJJ)Z"⟩ : MethodName)) hown (mvT hZ (own_m hw 81 rfl)) (mvT hZ (own_m hw 82 rfl)) (mvT hZ (own_m hw 7 rfl)) (mvT hZ (own_m hw 83 rfl)) (by decide) (backOf (W := 0) (rm11 l Z aw hw [] ((own_c q0)) ((own_z q2 q0)) ((own_z q4 q0)) ((own_Nn q2 q3)) ((j0_22 q0 q2 q3 q4)) ((j0_24 q0 q2 q3 q4)) h3032 n0 Z3032 ) hZ (own_m hw 83 rfl) (own_m hw 7 rfl) (by decide) (by decide)) (g := (mkF m 331 L_3031 [(.long (j0_24 q0 q2 q3 q4)), (.long (j0_22 q0 q2 q3 q4)), (.int (own_Nn q2 q3)), (.long (own_z q4 q0)), (.long (own_z q2 q0)), (.long (own_c q0))])) rfl (by rw [hml]; rfl) (argsL := [(.long (own_c q0)), (.long (own_z q2 q0)), (.long (own_z q4 q0)), (.int (own_Nn q2 q3)), (.long (j0_22 q0 q2 q3 q4)), (.long (j0_24 q0 q2 q3 q4))]) (rest := []) (lenOf pd_10 rfl) rfl (by show 2 * 0 + _ ≤ _; exact Nat.le_of_eq rfl) (hb hby at_331) (fun _ _ => ⟨rfl, e3032, (by decide : 17 + 0 ≤ _), (by decide : 139 + 0 ≤ _)⟩)
        dsimp only [Pt.U, Pt.locs, Pt.cells, Pt.slots] at X3058 l3058 y3058 z3058 st3058 hQ3058
        subst l3058 y3058 z3058
        obtain ⟨rfl, N3058q, e3058⟩ := hQ3058
        have N3058 := Fr.app N3032 N3058q
        let L_3059 : Array Slot := #[.val (.long q0), .second, .val (.long q1), .second, .val (.long q2), .second, .val (.long q3), .second, .val (.long q4), .second, .val (.long q5), .second, .val (.int (2 : Int32)), .val (.int (own_Nn q2 q3)), .val (.int ((j0_2 q4) + (j0_3 q5))), .val (.int (2 : Int32)), .val (.long (own_c q0)), .second, .val (.long (own_c q1)), .second, .val (.long (own_z q2 q0)), .second, .val (.long (own_z q3 q1)), .second, .val (.long (own_z q4 q0)), .second, .val (.long (own_z q5 q1)), .second, .val (.ref b2381), .val (.ref b2384), .val (.ref b2390), .val (.ref b2465), .val (.ref b2529), .val (.ref b2604), .val (.int (v11 (own_c q0) (own_z q2 q0) (own_z q4 q0) (own_Nn q2 q3) (j0_22 q0 q2 q3 q4) (j0_24 q0 q2 q3 q4)))]
        have pre3069 := fun (t : State) (k : Steps p.tables e below (T3058.setTop (mkF m 344 L_3059 [(.int (v11 (own_c q0) (own_z q2 q0) (own_z q4 q0) (own_Nn q2 q3) (j0_22 q0 q2 q3 q4) (j0_24 q0 q2 q3 q4)))])) t) => pre3030 t (by
          show Steps p.tables e below (T2798.setTop (mkF m 302 L_3031 [])) _
          refine XS.aload X2798.here hx rfl (hb hby at_302) rfl rfl ?_
          refine XS.aload X2798.here hx rfl (hb hby at_304) rfl rfl ?_
          refine XS.aload X2798.here hx rfl (hb hby at_306) rfl rfl ?_
          refine XS.iload X2798.here hx rfl (hb hby at_308) rfl ?_
          show Steps p.tables e below (T2798.setTop (mkF m 310 L_3031 [(.int (2 : Int32)), (.ref b2529), (.ref b2465), (.ref b2604)])) _
          refine st3032.trans ?_
          refine XS.lload X3032.here hx rfl (hb hby at_313) rfl ?_
          refine XS.lload X3032.here hx rfl (hb hby at_315) rfl ?_
          refine XS.lload X3032.here hx rfl (hb hby at_317) rfl ?_
          refine XS.iload X3032.here hx rfl (hb hby at_319) rfl ?_
          refine XS.aload X3032.here hx rfl (hb hby at_321) rfl rfl ?_
          show Steps p.tables e below (T3032.setTop (mkF m 323 L_3031 [(.ref b2465), (.int (own_Nn q2 q3)), (.long (own_z q4 q0)), (.long (own_z q2 q0)), (.long (own_c q0))])) _
          refine XS.iload X3032.here hx rfl (hb hby at_323) rfl ?_
          show Steps p.tables e below (T3032.setTop (mkF m 325 L_3031 [(.int (2 : Int32)), (.ref b2465), (.int (own_Nn q2 q3)), (.long (own_z q4 q0)), (.long (own_z q2 q0)), (.long (own_c q0))])) _
          refine X3032.laload hx (j := (2 : Int32)) (v := (.long (j0_22 q0 q2 q3 q4))) (by rw [e3032]; exact Ar3052.1) (State.isArrayOf_alike hZ.alike Ar3052.2.1) Ar3052.2.2 hin3053 hat3054 (g := (mkF m 325 L_3031 [(.int (2 : Int32)), (.ref b2465), (.int (own_Nn q2 q3)), (.long (own_z q4 q0)), (.long (own_z q2 q0)), (.long (own_c q0))])) rfl rfl (hb hby at_325) _ ?_
          refine XS.aload X3032.here hx rfl (hb hby at_326) rfl rfl ?_
          refine XS.iload X3032.here hx rfl (hb hby at_328) rfl ?_
          show Steps p.tables e below (T3032.setTop (mkF m 330 L_3031 [(.int (2 : Int32)), (.ref b2529), (.long (j0_22 q0 q2 q3 q4)), (.int (own_Nn q2 q3)), (.long (own_z q4 q0)), (.long (own_z q2 q0)), (.long (own_c q0))])) _
          refine X3032.laload hx (j := (2 : Int32)) (v := (.long (j0_24 q0 q2 q3 q4))) (by rw [e3032]; exact Ar3055.1) (State.isArrayOf_alike hZ.alike Ar3055.2.1) Ar3055.2.2 hin3056 hat3057 (g := (mkF m 330 L_3031 [(.int (2 : Int32)), (.ref b2529), (.long (j0_22 q0 q2 q3 q4)), (.int (own_Nn q2 q3)), (.long (own_z q4 q0)), (.long (own_z q2 q0)), (.long (own_c q0))])) rfl rfl (hb hby at_330) _ ?_
          show Steps p.tables e below (T3032.setTop (mkF m 331 L_3031 [(.long (j0_24 q0 q2 q3 q4)), (.long (j0_22 q0 q2 q3 q4)), (.int (own_Nn q2 q3)), (.long (own_z q4 q0)), (.long (own_z q2 q0)), (.long (own_c q0))])) _
          refine st3058 _ ?_
          refine XS.istore X3058.here hx rfl (hb hby at_334) rfl (l' := L_3059) rfl ?_
          refine XS.iload X3058.here hx rfl (hb hby at_336) rfl ?_
          refine XS.iconst X3058.here hx rfl (hb hby at_338) ?_
          refine XS.icmpNo X3058.here hx rfl (hb hby at_339) rfl (teq (rfl : (2 : Int32) = (2 : Int32))).2 ?_
          refine XS.iload X3058.here hx rfl (hb hby at_342) rfl ?_
          exact k)
        obtain ⟨T3070, L3070, X3070, e3070, N3070, pre3070⟩ : ∃ (T3070 : State) (L3070 : List Loc), Stand p l e room_1 (s.setVm vm2798) m #[(.long q0), (.long q1), (.long q2), (.long q3), (.long q4), (.long q5)] below meth c T3070 L3070 17 139 ∧ T3070.heap = h3032 ∧ Fr n0 L3070 ∧ ∀ t, Steps p.tables e below (T3070.setTop (mkF m 380 L_3059 [(.int (j0_26 q0 q1 q2 q3 q4 q5))])) t → Steps p.tables e below (s₁.setTop (entryFrame m #[(.long q0), (.long q1), (.long q2), (.long q3), (.long q4), (.long q5)] maxLocals)) t := by
          by_cases hc3071 : (v11 (own_c q0) (own_z q2 q0) (own_z q4 q0) (own_Nn q2 q3) (j0_22 q0 q2 q3 q4) (j0_24 q0 q2 q3 q4)) = (0 : Int32)
          · skip
            have pre3072 := fun (t : State) (k : Steps p.tables e below (T3058.setTop (mkF m 380 L_3059 [(.int (0 : Int32))])) t) => pre3069 t (by
              show Steps p.tables e below (T3058.setTop (mkF m 344 L_3059 [(.int (v11 (own_c q0) (own_z q2 q0) (own_z q4 q0) (own_Nn q2 q3) (j0_22 q0 q2 q3 q4) (j0_24 q0 q2 q3 q4)))])) _
              refine XS.ifYes X3058.here hx rfl (pc0 := 344) (pc' := 379) rfl (hb hby at_344) rfl ((if0 _ _).trans (teq hc3071).1) (by decide) (by decide) ?_
              refine XS.iconst X3058.here hx rfl (hb hby at_379) ?_
              exact k)
            have hj3073 : (j0_26 q0 q1 q2 q3 q4 q5) = (0 : Int32) := by unfold j0_26; first | (rw [if_pos hc3071]) | (simp only [if_pos hc3071])
            exact ⟨T3058, _, X3058, e3058, N3058, fun t k => pre3072 t (by rw [hj3073] at k; exact k)⟩
          · skip
            obtain ⟨cl3074, Ar3074, q3074, S3074, M3074, H3074, G3074⟩ := id f3033
            have hin3075 : ¬ ((3 : Int32) < 0 ∨ cl3074.slots.size ≤ ((3 : Int32)).toNatClampNeg) := inb_of S3074 ⟨by decide, by decide⟩
            have hat3076 : cl3074.slots[((3 : Int32)).toNatClampNeg]? = some (.long (j0_23 q1 q2 q3 q5)) := H3074.at hin3075 rfl
            obtain ⟨cl3077, Ar3077, q3077, S3077, M3077, H3077, G3077⟩ := id f3034
            have hin3078 : ¬ ((3 : Int32) < 0 ∨ cl3077.slots.size ≤ ((3 : Int32)).toNatClampNeg) := inb_of S3077 ⟨by decide, by decide⟩
            have hat3079 : cl3077.slots[((3 : Int32)).toNatClampNeg]? = some (.long (j0_25 q1 q2 q3 q5)) := H3077.at hin3078 rfl
            obtain ⟨_, _, ⟨T3080, L3080, k3080, n3080⟩, -, X3080, ⟨Lc3080, hQ3080, l3080, y3080, z3080⟩, st3080⟩ := Jvm.LawKit.callS X3058 hx (y := (⟨"com/example/stowline/stowline/VolumeBoundCopyTotalsPinLaw", "check", "(JJJIJJ)Z"⟩ : MethodName)) hown (mvT hZ (own_m hw 81 rfl)) (mvT hZ (own_m hw 82 rfl)) (mvT hZ (own_m hw 7 rfl)) (mvT hZ (own_m hw 83 rfl)) (by decide) (backOf (W := 0) (rm11 l Z aw hw [] ((own_c q1)) ((own_z q3 q1)) ((own_z q5 q1)) ((own_Nn q2 q3)) ((j0_23 q1 q2 q3 q5)) ((j0_25 q1 q2 q3 q5)) h3032 n0 Z3032 ) hZ (own_m hw 83 rfl) (own_m hw 7 rfl) (by decide) (by decide)) (g := (mkF m 369 L_3059 [(.long (j0_25 q1 q2 q3 q5)), (.long (j0_23 q1 q2 q3 q5)), (.int (own_Nn q2 q3)), (.long (own_z q5 q1)), (.long (own_z q3 q1)), (.long (own_c q1))])) rfl (by rw [hml]; rfl) (argsL := [(.long (own_c q1)), (.long (own_z q3 q1)), (.long (own_z q5 q1)), (.int (own_Nn q2 q3)), (.long (j0_23 q1 q2 q3 q5)), (.long (j0_25 q1 q2 q3 q5))]) (rest := []) (lenOf pd_10 rfl) rfl (by show 2 * 0 + _ ≤ _; exact Nat.le_of_eq rfl) (hb hby at_369) (fun _ _ => ⟨rfl, e3058, (by decide : 17 + 0 ≤ _), (by decide : 139 + 0 ≤ _)⟩)
            dsimp only [Pt.U, Pt.locs, Pt.cells, Pt.slots] at X3080 l3080 y3080 z3080 st3080 hQ3080
            subst l3080 y3080 z3080
            obtain ⟨rfl, N3080q, e3080⟩ := hQ3080
            have N3080 := Fr.app N3058 N3080q
            have pre3082 := fun (t : State) (k : Steps p.tables e below (T3080.setTop (mkF m 372 L_3059 [(.int (v11 (own_c q1) (own_z q3 q1) (own_z q5 q1) (own_Nn q2 q3) (j0_23 q1 q2 q3 q5) (j0_25 q1 q2 q3 q5)))])) t) => pre3069 t (by
              show Steps p.tables e below (T3058.setTop (mkF m 344 L_3059 [(.int (v11 (own_c q0) (own_z q2 q0) (own_z q4 q0) (own_Nn q2 q3) (j0_22 q0 q2 q3 q4) (j0_24 q0 q2 q3 q4)))])) _
              refine XS.ifNo X3058.here hx rfl (hb hby at_344) rfl ((if0 _ _).trans (feq hc3071).1) ?_
              refine XS.lload X3058.here hx rfl (hb hby at_347) rfl ?_
              refine XS.lload X3058.here hx rfl (hb hby at_349) rfl ?_
              refine XS.lload X3058.here hx rfl (hb hby at_351) rfl ?_
              refine XS.iload X3058.here hx rfl (hb hby at_353) rfl ?_
              refine XS.aload X3058.here hx rfl (hb hby at_355) rfl rfl ?_
              show Steps p.tables e below (T3058.setTop (mkF m 357 L_3059 [(.ref b2465), (.int (own_Nn q2 q3)), (.long (own_z q5 q1)), (.long (own_z q3 q1)), (.long (own_c q1))])) _
              refine XS.iload X3058.here hx rfl (hb hby at_357) rfl ?_
              refine XS.iconst X3058.here hx rfl (hb hby at_359) ?_
              refine XS.iadd X3058.here hx rfl (hb hby at_360) rfl ?_
              show Steps p.tables e below (T3058.setTop (mkF m 361 L_3059 [(.int (3 : Int32)), (.ref b2465), (.int (own_Nn q2 q3)), (.long (own_z q5 q1)), (.long (own_z q3 q1)), (.long (own_c q1))])) _
              refine X3058.laload hx (j := (3 : Int32)) (v := (.long (j0_23 q1 q2 q3 q5))) (by rw [e3058]; exact Ar3074.1) (State.isArrayOf_alike hZ.alike Ar3074.2.1) Ar3074.2.2 hin3075 hat3076 (g := (mkF m 361 L_3059 [(.int (3 : Int32)), (.ref b2465), (.int (own_Nn q2 q3)), (.long (own_z q5 q1)), (.long (own_z q3 q1)), (.long (own_c q1))])) rfl rfl (hb hby at_361) _ ?_
              refine XS.aload X3058.here hx rfl (hb hby at_362) rfl rfl ?_
              refine XS.iload X3058.here hx rfl (hb hby at_364) rfl ?_
              refine XS.iconst X3058.here hx rfl (hb hby at_366) ?_
              refine XS.iadd X3058.here hx rfl (hb hby at_367) rfl ?_
              show Steps p.tables e below (T3058.setTop (mkF m 368 L_3059 [(.int (3 : Int32)), (.ref b2529), (.long (j0_23 q1 q2 q3 q5)), (.int (own_Nn q2 q3)), (.long (own_z q5 q1)), (.long (own_z q3 q1)), (.long (own_c q1))])) _
              refine X3058.laload hx (j := (3 : Int32)) (v := (.long (j0_25 q1 q2 q3 q5))) (by rw [e3058]; exact Ar3077.1) (State.isArrayOf_alike hZ.alike Ar3077.2.1) Ar3077.2.2 hin3078 hat3079 (g := (mkF m 368 L_3059 [(.int (3 : Int32)), (.ref b2529), (.long (j0_23 q1 q2 q3 q5)), (.int (own_Nn q2 q3)), (.long (own_z q5 q1)), (.long (own_z q3 q1)), (.long (own_c q1))])) rfl rfl (hb hby at_368) _ ?_
              show Steps p.tables e below (T3058.setTop (mkF m 369 L_3059 [(.long (j0_25 q1 q2 q3 q5)), (.long (j0_23 q1 q2 q3 q5)), (.int (own_Nn q2 q3)), (.long (own_z q5 q1)), (.long (own_z q3 q1)), (.long (own_c q1))])) _
              refine st3080 _ ?_
              exact k)
            by_cases hc3081 : (v11 (own_c q1) (own_z q3 q1) (own_z q5 q1) (own_Nn q2 q3) (j0_23 q1 q2 q3 q5) (j0_25 q1 q2 q3 q5)) = (0 : Int32)
            · skip
              have pre3083 := fun (t : State) (k : Steps p.tables e below (T3080.setTop (mkF m 380 L_3059 [(.int (0 : Int32))])) t) => pre3082 t (by
                show Steps p.tables e below (T3080.setTop (mkF m 372 L_3059 [(.int (v11 (own_c q1) (own_z q3 q1) (own_z q5 q1) (own_Nn q2 q3) (j0_23 q1 q2 q3 q5) (j0_25 q1 q2 q3 q5)))])) _
                refine XS.ifYes X3080.here hx rfl (pc0 := 372) (pc' := 379) rfl (hb hby at_372) rfl ((if0 _ _).trans (teq hc3081).1) (by decide) (by decide) ?_
                refine XS.iconst X3080.here hx rfl (hb hby at_379) ?_
                exact k)
              have hj3084 : (j0_26 q0 q1 q2 q3 q4 q5) = (0 : Int32) := by unfold j0_26; first | (rw [if_neg hc3071, if_pos hc3081]) | (simp only [if_neg hc3071, if_pos hc3081])
              exact ⟨T3080, _, X3080, e3080, N3080, fun t k => pre3083 t (by rw [hj3084] at k; exact k)⟩
            · skip
              have pre3085 := fun (t : State) (k : Steps p.tables e below (T3080.setTop (mkF m 380 L_3059 [(.int (1 : Int32))])) t) => pre3082 t (by
                show Steps p.tables e below (T3080.setTop (mkF m 372 L_3059 [(.int (v11 (own_c q1) (own_z q3 q1) (own_z q5 q1) (own_Nn q2 q3) (j0_23 q1 q2 q3 q5) (j0_25 q1 q2 q3 q5)))])) _
                refine XS.ifNo X3080.here hx rfl (hb hby at_372) rfl ((if0 _ _).trans (feq hc3081).1) ?_
                refine XS.iconst X3080.here hx rfl (hb hby at_375) ?_
                refine XS.goto X3080.here hx rfl (pc0 := 376) (pc' := 380) rfl (hb hby at_376) (by decide) (by decide) ?_
                exact k)
              have hj3086 : (j0_26 q0 q1 q2 q3 q4 q5) = (1 : Int32) := by unfold j0_26; first | (rw [if_neg hc3071, if_neg hc3081]) | (simp only [if_neg hc3071, if_neg hc3081])
              exact ⟨T3080, _, X3080, e3080, N3080, fun t k => pre3085 t (by rw [hj3086] at k; exact k)⟩
        let L_3087 : Array Slot := #[.val (.long q0), .second, .val (.long q1), .second, .val (.long q2), .second, .val (.long q3), .second, .val (.long q4), .second, .val (.long q5), .second, .val (.int (2 : Int32)), .val (.int (own_Nn q2 q3)), .val (.int ((j0_2 q4) + (j0_3 q5))), .val (.int (2 : Int32)), .val (.long (own_c q0)), .second, .val (.long (own_c q1)), .second, .val (.long (own_z q2 q0)), .second, .val (.long (own_z q3 q1)), .second, .val (.long (own_z q4 q0)), .second, .val (.long (own_z q5 q1)), .second, .val (.ref b2381), .val (.ref b2384), .val (.ref b2390), .val (.ref b2465), .val (.ref b2529), .val (.ref b2604), .val (.int (j0_26 q0 q1 q2 q3 q4 q5))]
        have pre3089 := fun (t : State) (k : Steps p.tables e below (T3070.setTop (mkF m 384 L_3087 [(.int (j0_26 q0 q1 q2 q3 q4 q5))])) t) => pre3070 t (by
          show Steps p.tables e below (T3070.setTop (mkF m 380 L_3059 [(.int (j0_26 q0 q1 q2 q3 q4 q5))])) _
          refine XS.istore X3070.here hx rfl (hb hby at_380) rfl (l' := L_3087) rfl ?_
          refine XS.iload X3070.here hx rfl (hb hby at_382) rfl ?_
          exact k)
        obtain ⟨T3090, L3090, X3090, e3090, N3090, pre3090⟩ : ∃ (T3090 : State) (L3090 : List Loc), Stand p l e room_1 (s.setVm vm2798) m #[(.long q0), (.long q1), (.long q2), (.long q3), (.long q4), (.long q5)] below meth c T3090 L3090 17 139 ∧ T3090.heap = h3032 ∧ Fr n0 L3090 ∧ ∀ t, Steps p.tables e below (T3090.setTop (mkF m 407 L_3087 [(.int (j0_27 q0 q1 q2 q3 q4 q5))])) t → Steps p.tables e below (s₁.setTop (entryFrame m #[(.long q0), (.long q1), (.long q2), (.long q3), (.long q4), (.long q5)] maxLocals)) t := by
          by_cases hc3091 : (j0_26 q0 q1 q2 q3 q4 q5) = (0 : Int32)
          · skip
            have pre3092 := fun (t : State) (k : Steps p.tables e below (T3070.setTop (mkF m 407 L_3087 [(.int (0 : Int32))])) t) => pre3089 t (by
              show Steps p.tables e below (T3070.setTop (mkF m 384 L_3087 [(.int (j0_26 q0 q1 q2 q3 q4 q5))])) _
              refine XS.ifYes X3070.here hx rfl (pc0 := 384) (pc' := 406) rfl (hb hby at_384) rfl ((if0 _ _).trans (teq hc3091).1) (by decide) (by decide) ?_
              refine XS.iconst X3070.here hx rfl (hb hby at_406) ?_
              exact k)
            have hj3093 : (j0_27 q0 q1 q2 q3 q4 q5) = (0 : Int32) := by unfold j0_27; first | (rw [if_pos hc3091]) | (simp only [if_pos hc3091])
            exact ⟨T3070, _, X3070, e3070, N3070, fun t k => pre3092 t (by rw [hj3093] at k; exact k)⟩
          · skip
            obtain ⟨_, _, ⟨T3094, L3094, k3094, n3094⟩, -, X3094, ⟨Lc3094, hQ3094, l3094, y3094, z3094⟩, st3094⟩ := Jvm.LawKit.callS X3070 hx (y := (⟨"com/example/stowline/stowline/VolumeBoundCopyTotalsPinLaw", "untouched", "([J[JIII)Z"⟩ : MethodName)) hown (mvT hZ (own_m hw 84 rfl)) (mvT hZ (own_m hw 85 rfl)) (mvT hZ (own_m hw 7 rfl)) (mvT hZ (own_m hw 86 rfl)) (by decide) (backOf (W := 0) (rm12_lo0 l Z aw hw [] b2465 b2529 ((2 : Int32)) ((2 : Int32)) ((-2 : Int64)) ((j0_22 q0 q2 q3 q4)) ((j0_23 q1 q2 q3 q5)) ((-12 : Int64)) ((j0_24 q0 q2 q3 q4)) ((j0_25 q1 q2 q3 q5)) k2465 k2529 h3032 n0 Z3032 f3033 f3034 (by decide)) hZ (own_m hw 86 rfl) (own_m hw 7 rfl) (by decide) (by decide)) (g := (mkF m 396 L_3087 [(.int (2 : Int32)), (.int (2 : Int32)), (.int (0 : Int32)), (.ref b2529), (.ref b2465)])) rfl (by rw [hml]; rfl) (argsL := [(.ref b2465), (.ref b2529), (.int (0 : Int32)), (.int (2 : Int32)), (.int (2 : Int32))]) (rest := []) (lenOf pd_11 rfl) rfl (by show 2 * 0 + _ ≤ _; exact Nat.le_of_eq rfl) (hb hby at_396) (fun _ _ => ⟨rfl, e3070, (by decide : 17 + 0 ≤ _), (by decide : 139 + 0 ≤ _)⟩)
            dsimp only [Pt.U, Pt.locs, Pt.cells, Pt.slots] at X3094 l3094 y3094 z3094 st3094 hQ3094
            subst l3094 y3094 z3094
            obtain ⟨rfl, N3094q, e3094⟩ := hQ3094
            have N3094 := Fr.app N3070 N3094q
            have pre3095 := fun (t : State) (k : Steps p.tables e below (T3094.setTop (mkF m 407 L_3087 [(.int (1 : Int32))])) t) => pre3089 t (by
              show Steps p.tables e below (T3070.setTop (mkF m 384 L_3087 [(.int (j0_26 q0 q1 q2 q3 q4 q5))])) _
              refine XS.ifNo X3070.here hx rfl (hb hby at_384) rfl ((if0 _ _).trans (feq hc3091).1) ?_
              refine XS.aload X3070.here hx rfl (hb hby at_387) rfl rfl ?_
              refine XS.aload X3070.here hx rfl (hb hby at_389) rfl rfl ?_
              refine XS.iconst X3070.here hx rfl (hb hby at_391) ?_
              refine XS.iload X3070.here hx rfl (hb hby at_392) rfl ?_
              refine XS.iload X3070.here hx rfl (hb hby at_394) rfl ?_
              show Steps p.tables e below (T3070.setTop (mkF m 396 L_3087 [(.int (2 : Int32)), (.int (2 : Int32)), (.int (0 : Int32)), (.ref b2529), (.ref b2465)])) _
              refine st3094 _ ?_
              refine XS.ifNo X3094.here hx rfl (hb hby at_399) rfl ((if0 _ _).trans (feq (by decide : ¬ ((1 : Int32) = (0 : Int32)))).1) ?_
              refine XS.iconst X3094.here hx rfl (hb hby at_402) ?_
              refine XS.goto X3094.here hx rfl (pc0 := 403) (pc' := 407) rfl (hb hby at_403) (by decide) (by decide) ?_
              exact k)
            have hj3096 : (j0_27 q0 q1 q2 q3 q4 q5) = (1 : Int32) := by unfold j0_27; first | (rw [if_neg hc3091]) | (simp only [if_neg hc3091])
            exact ⟨T3094, _, X3094, e3094, N3094, fun t k => pre3095 t (by rw [hj3096] at k; exact k)⟩
        let L_3097 : Array Slot := #[.val (.long q0), .second, .val (.long q1), .second, .val (.long q2), .second, .val (.long q3), .second, .val (.long q4), .second, .val (.long q5), .second, .val (.int (2 : Int32)), .val (.int (own_Nn q2 q3)), .val (.int ((j0_2 q4) + (j0_3 q5))), .val (.int (2 : Int32)), .val (.long (own_c q0)), .second, .val (.long (own_c q1)), .second, .val (.long (own_z q2 q0)), .second, .val (.long (own_z q3 q1)), .second, .val (.long (own_z q4 q0)), .second, .val (.long (own_z q5 q1)), .second, .val (.ref b2381), .val (.ref b2384), .val (.ref b2390), .val (.ref b2465), .val (.ref b2529), .val (.ref b2604), .val (.int (j0_27 q0 q1 q2 q3 q4 q5))]
        have pre3099 := fun (t : State) (k : Steps p.tables e below (T3090.setTop (mkF m 411 L_3097 [(.int (j0_27 q0 q1 q2 q3 q4 q5))])) t) => pre3090 t (by
          show Steps p.tables e below (T3090.setTop (mkF m 407 L_3087 [(.int (j0_27 q0 q1 q2 q3 q4 q5))])) _
          refine XS.istore X3090.here hx rfl (hb hby at_407) rfl (l' := L_3097) rfl ?_
          refine XS.iload X3090.here hx rfl (hb hby at_409) rfl ?_
          exact k)
        obtain ⟨T3100, L3100, X3100, e3100, N3100, pre3100⟩ : ∃ (T3100 : State) (L3100 : List Loc), Stand p l e room_1 (s.setVm vm2798) m #[(.long q0), (.long q1), (.long q2), (.long q3), (.long q4), (.long q5)] below meth c T3100 L3100 17 139 ∧ T3100.heap = h3032 ∧ Fr n0 L3100 ∧ ∀ t, Steps p.tables e below (T3100.setTop (mkF m 434 L_3097 [(.int (j0_28 q0 q1 q2 q3 q4 q5))])) t → Steps p.tables e below (s₁.setTop (entryFrame m #[(.long q0), (.long q1), (.long q2), (.long q3), (.long q4), (.long q5)] maxLocals)) t := by
          by_cases hc3101 : (j0_27 q0 q1 q2 q3 q4 q5) = (0 : Int32)
          · skip
            have pre3102 := fun (t : State) (k : Steps p.tables e below (T3090.setTop (mkF m 434 L_3097 [(.int (0 : Int32))])) t) => pre3099 t (by
              show Steps p.tables e below (T3090.setTop (mkF m 411 L_3097 [(.int (j0_27 q0 q1 q2 q3 q4 q5))])) _
              refine XS.ifYes X3090.here hx rfl (pc0 := 411) (pc' := 433) rfl (hb hby at_411) rfl ((if0 _ _).trans (teq hc3101).1) (by decide) (by decide) ?_
              refine XS.iconst X3090.here hx rfl (hb hby at_433) ?_
              exact k)
            have hj3103 : (j0_28 q0 q1 q2 q3 q4 q5) = (0 : Int32) := by unfold j0_28; first | (rw [if_pos hc3101]) | (simp only [if_pos hc3101])
            exact ⟨T3090, _, X3090, e3090, N3090, fun t k => pre3102 t (by rw [hj3103] at k; exact k)⟩
          · skip
            obtain ⟨_, _, ⟨T3104, L3104, k3104, n3104⟩, -, X3104, ⟨Lc3104, hQ3104, l3104, y3104, z3104⟩, st3104⟩ := Jvm.LawKit.callS X3090 hx (y := (⟨"com/example/stowline/stowline/VolumeBoundCopyTotalsPinLaw", "untouched", "([J[JIII)Z"⟩ : MethodName)) hown (mvT hZ (own_m hw 84 rfl)) (mvT hZ (own_m hw 85 rfl)) (mvT hZ (own_m hw 7 rfl)) (mvT hZ (own_m hw 86 rfl)) (by decide) (backOf (W := 0) (rm12_lo1 l Z aw hw [] b2465 b2529 ((2 : Int32)) ((2 : Int32)) ((-1 : Int64)) ((j0_22 q0 q2 q3 q4)) ((j0_23 q1 q2 q3 q5)) ((-11 : Int64)) ((j0_24 q0 q2 q3 q4)) ((j0_25 q1 q2 q3 q5)) k2465 k2529 h3032 n0 Z3032 f3033 f3034 (by decide)) hZ (own_m hw 86 rfl) (own_m hw 7 rfl) (by decide) (by decide)) (g := (mkF m 423 L_3097 [(.int (2 : Int32)), (.int (2 : Int32)), (.int (1 : Int32)), (.ref b2529), (.ref b2465)])) rfl (by rw [hml]; rfl) (argsL := [(.ref b2465), (.ref b2529), (.int (1 : Int32)), (.int (2 : Int32)), (.int (2 : Int32))]) (rest := []) (lenOf pd_11 rfl) rfl (by show 2 * 0 + _ ≤ _; exact Nat.le_of_eq rfl) (hb hby at_423) (fun _ _ => ⟨rfl, e3090, (by decide : 17 + 0 ≤ _), (by decide : 139 + 0 ≤ _)⟩)
            dsimp only [Pt.U, Pt.locs, Pt.cells, Pt.slots] at X3104 l3104 y3104 z3104 st3104 hQ3104
            subst l3104 y3104 z3104
            obtain ⟨rfl, N3104q, e3104⟩ := hQ3104
            have N3104 := Fr.app N3090 N3104q
            have pre3105 := fun (t : State) (k : Steps p.tables e below (T3104.setTop (mkF m 434 L_3097 [(.int (1 : Int32))])) t) => pre3099 t (by
              show Steps p.tables e below (T3090.setTop (mkF m 411 L_3097 [(.int (j0_27 q0 q1 q2 q3 q4 q5))])) _
              refine XS.ifNo X3090.here hx rfl (hb hby at_411) rfl ((if0 _ _).trans (feq hc3101).1) ?_
              refine XS.aload X3090.here hx rfl (hb hby at_414) rfl rfl ?_
              refine XS.aload X3090.here hx rfl (hb hby at_416) rfl rfl ?_
              refine XS.iconst X3090.here hx rfl (hb hby at_418) ?_
              refine XS.iload X3090.here hx rfl (hb hby at_419) rfl ?_
              refine XS.iload X3090.here hx rfl (hb hby at_421) rfl ?_
              show Steps p.tables e below (T3090.setTop (mkF m 423 L_3097 [(.int (2 : Int32)), (.int (2 : Int32)), (.int (1 : Int32)), (.ref b2529), (.ref b2465)])) _
              refine st3104 _ ?_
              refine XS.ifNo X3104.here hx rfl (hb hby at_426) rfl ((if0 _ _).trans (feq (by decide : ¬ ((1 : Int32) = (0 : Int32)))).1) ?_
              refine XS.iconst X3104.here hx rfl (hb hby at_429) ?_
              refine XS.goto X3104.here hx rfl (pc0 := 430) (pc' := 434) rfl (hb hby at_430) (by decide) (by decide) ?_
              exact k)
            have hj3106 : (j0_28 q0 q1 q2 q3 q4 q5) = (1 : Int32) := by unfold j0_28; first | (rw [if_neg hc3101]) | (simp only [if_neg hc3101])
            exact ⟨T3104, _, X3104, e3104, N3104, fun t k => pre3105 t (by rw [hj3106] at k; exact k)⟩
        let L_3107 : Array Slot := #[.val (.long q0), .second, .val (.long q1), .second, .val (.long q2), .second, .val (.long q3), .second, .val (.long q4), .second, .val (.long q5), .second, .val (.int (2 : Int32)), .val (.int (own_Nn q2 q3)), .val (.int ((j0_2 q4) + (j0_3 q5))), .val (.int (2 : Int32)), .val (.long (own_c q0)), .second, .val (.long (own_c q1)), .second, .val (.long (own_z q2 q0)), .second, .val (.long (own_z q3 q1)), .second, .val (.long (own_z q4 q0)), .second, .val (.long (own_z q5 q1)), .second, .val (.ref b2381), .val (.ref b2384), .val (.ref b2390), .val (.ref b2465), .val (.ref b2529), .val (.ref b2604), .val (.int (j0_28 q0 q1 q2 q3 q4 q5))]
        have pre3109 := fun (t : State) (k : Steps p.tables e below (T3100.setTop (mkF m 438 L_3107 [(.int (j0_28 q0 q1 q2 q3 q4 q5))])) t) => pre3100 t (by
          show Steps p.tables e below (T3100.setTop (mkF m 434 L_3097 [(.int (j0_28 q0 q1 q2 q3 q4 q5))])) _
          refine XS.istore X3100.here hx rfl (hb hby at_434) rfl (l' := L_3107) rfl ?_
          refine XS.iload X3100.here hx rfl (hb hby at_436) rfl ?_
          exact k)
        obtain ⟨T3110, L3110, X3110, e3110, N3110, pre3110⟩ : ∃ (T3110 : State) (L3110 : List Loc), Stand p l e room_1 (s.setVm vm2798) m #[(.long q0), (.long q1), (.long q2), (.long q3), (.long q4), (.long q5)] below meth c T3110 L3110 17 139 ∧ T3110.heap = h3032 ∧ Fr n0 L3110 ∧ ∀ t, Steps p.tables e below (T3110.setTop (mkF m 461 L_3107 [(.int (j0_29 q0 q1 q2 q3 q4 q5))])) t → Steps p.tables e below (s₁.setTop (entryFrame m #[(.long q0), (.long q1), (.long q2), (.long q3), (.long q4), (.long q5)] maxLocals)) t := by
          by_cases hc3111 : (j0_28 q0 q1 q2 q3 q4 q5) = (0 : Int32)
          · skip
            have pre3112 := fun (t : State) (k : Steps p.tables e below (T3100.setTop (mkF m 461 L_3107 [(.int (0 : Int32))])) t) => pre3109 t (by
              show Steps p.tables e below (T3100.setTop (mkF m 438 L_3107 [(.int (j0_28 q0 q1 q2 q3 q4 q5))])) _
              refine XS.ifYes X3100.here hx rfl (pc0 := 438) (pc' := 460) rfl (hb hby at_438) rfl ((if0 _ _).trans (teq hc3111).1) (by decide) (by decide) ?_
              refine XS.iconst X3100.here hx rfl (hb hby at_460) ?_
              exact k)
            have hj3113 : (j0_29 q0 q1 q2 q3 q4 q5) = (0 : Int32) := by unfold j0_29; first | (rw [if_pos hc3111]) | (simp only [if_pos hc3111])
            exact ⟨T3100, _, X3100, e3100, N3100, fun t k => pre3112 t (by rw [hj3113] at k; exact k)⟩
          · skip
            obtain ⟨_, _, ⟨T3114, L3114, k3114, n3114⟩, -, X3114, ⟨Lc3114, hQ3114, l3114, y3114, z3114⟩, st3114⟩ := Jvm.LawKit.callS X3100 hx (y := (⟨"com/example/stowline/stowline/VolumeBoundCopyTotalsPinLaw", "untouched", "([J[JIII)Z"⟩ : MethodName)) hown (mvT hZ (own_m hw 84 rfl)) (mvT hZ (own_m hw 85 rfl)) (mvT hZ (own_m hw 7 rfl)) (mvT hZ (own_m hw 86 rfl)) (by decide) (backOf (W := 0) (rm12_in l Z aw hw [] b2465 b2529 ((2 : Int32)) ((2 : Int32)) ((2 : Int32)) h3032 n0 Z3032 (by decide) (by decide)) hZ (own_m hw 86 rfl) (own_m hw 7 rfl) (by decide) (by decide)) (g := (mkF m 450 L_3107 [(.int (2 : Int32)), (.int (2 : Int32)), (.int (2 : Int32)), (.ref b2529), (.ref b2465)])) rfl (by rw [hml]; rfl) (argsL := [(.ref b2465), (.ref b2529), (.int (2 : Int32)), (.int (2 : Int32)), (.int (2 : Int32))]) (rest := []) (lenOf pd_11 rfl) rfl (by show 2 * 0 + _ ≤ _; exact Nat.le_of_eq rfl) (hb hby at_450) (fun _ _ => ⟨rfl, e3100, (by decide : 17 + 0 ≤ _), (by decide : 139 + 0 ≤ _)⟩)
            dsimp only [Pt.U, Pt.locs, Pt.cells, Pt.slots] at X3114 l3114 y3114 z3114 st3114 hQ3114
            subst l3114 y3114 z3114
            obtain ⟨rfl, N3114q, e3114⟩ := hQ3114
            have N3114 := Fr.app N3100 N3114q
            have pre3115 := fun (t : State) (k : Steps p.tables e below (T3114.setTop (mkF m 461 L_3107 [(.int (1 : Int32))])) t) => pre3109 t (by
              show Steps p.tables e below (T3100.setTop (mkF m 438 L_3107 [(.int (j0_28 q0 q1 q2 q3 q4 q5))])) _
              refine XS.ifNo X3100.here hx rfl (hb hby at_438) rfl ((if0 _ _).trans (feq hc3111).1) ?_
              refine XS.aload X3100.here hx rfl (hb hby at_441) rfl rfl ?_
              refine XS.aload X3100.here hx rfl (hb hby at_443) rfl rfl ?_
              refine XS.iconst X3100.here hx rfl (hb hby at_445) ?_
              refine XS.iload X3100.here hx rfl (hb hby at_446) rfl ?_
              refine XS.iload X3100.here hx rfl (hb hby at_448) rfl ?_
              show Steps p.tables e below (T3100.setTop (mkF m 450 L_3107 [(.int (2 : Int32)), (.int (2 : Int32)), (.int (2 : Int32)), (.ref b2529), (.ref b2465)])) _
              refine st3114 _ ?_
              refine XS.ifNo X3114.here hx rfl (hb hby at_453) rfl ((if0 _ _).trans (feq (by decide : ¬ ((1 : Int32) = (0 : Int32)))).1) ?_
              refine XS.iconst X3114.here hx rfl (hb hby at_456) ?_
              refine XS.goto X3114.here hx rfl (pc0 := 457) (pc' := 461) rfl (hb hby at_457) (by decide) (by decide) ?_
              exact k)
            have hj3116 : (j0_29 q0 q1 q2 q3 q4 q5) = (1 : Int32) := by unfold j0_29; first | (rw [if_neg hc3111]) | (simp only [if_neg hc3111])
            exact ⟨T3114, _, X3114, e3114, N3114, fun t k => pre3115 t (by rw [hj3116] at k; exact k)⟩
        let L_3117 : Array Slot := #[.val (.long q0), .second, .val (.long q1), .second, .val (.long q2), .second, .val (.long q3), .second, .val (.long q4), .second, .val (.long q5), .second, .val (.int (2 : Int32)), .val (.int (own_Nn q2 q3)), .val (.int ((j0_2 q4) + (j0_3 q5))), .val (.int (2 : Int32)), .val (.long (own_c q0)), .second, .val (.long (own_c q1)), .second, .val (.long (own_z q2 q0)), .second, .val (.long (own_z q3 q1)), .second, .val (.long (own_z q4 q0)), .second, .val (.long (own_z q5 q1)), .second, .val (.ref b2381), .val (.ref b2384), .val (.ref b2390), .val (.ref b2465), .val (.ref b2529), .val (.ref b2604), .val (.int (j0_29 q0 q1 q2 q3 q4 q5))]
        have pre3119 := fun (t : State) (k : Steps p.tables e below (T3110.setTop (mkF m 465 L_3117 [(.int (j0_29 q0 q1 q2 q3 q4 q5))])) t) => pre3110 t (by
          show Steps p.tables e below (T3110.setTop (mkF m 461 L_3107 [(.int (j0_29 q0 q1 q2 q3 q4 q5))])) _
          refine XS.istore X3110.here hx rfl (hb hby at_461) rfl (l' := L_3117) rfl ?_
          refine XS.iload X3110.here hx rfl (hb hby at_463) rfl ?_
          exact k)
        obtain ⟨T3120, L3120, X3120, e3120, N3120, pre3120⟩ : ∃ (T3120 : State) (L3120 : List Loc), Stand p l e room_1 (s.setVm vm2798) m #[(.long q0), (.long q1), (.long q2), (.long q3), (.long q4), (.long q5)] below meth c T3120 L3120 17 139 ∧ T3120.heap = h3032 ∧ Fr n0 L3120 ∧ ∀ t, Steps p.tables e below (T3120.setTop (mkF m 488 L_3117 [(.int (j0_30 q0 q1 q2 q3 q4 q5))])) t → Steps p.tables e below (s₁.setTop (entryFrame m #[(.long q0), (.long q1), (.long q2), (.long q3), (.long q4), (.long q5)] maxLocals)) t := by
          by_cases hc3121 : (j0_29 q0 q1 q2 q3 q4 q5) = (0 : Int32)
          · skip
            have pre3122 := fun (t : State) (k : Steps p.tables e below (T3110.setTop (mkF m 488 L_3117 [(.int (0 : Int32))])) t) => pre3119 t (by
              show Steps p.tables e below (T3110.setTop (mkF m 465 L_3117 [(.int (j0_29 q0 q1 q2 q3 q4 q5))])) _
              refine XS.ifYes X3110.here hx rfl (pc0 := 465) (pc' := 487) rfl (hb hby at_465) rfl ((if0 _ _).trans (teq hc3121).1) (by decide) (by decide) ?_
              refine XS.iconst X3110.here hx rfl (hb hby at_487) ?_
              exact k)
            have hj3123 : (j0_30 q0 q1 q2 q3 q4 q5) = (0 : Int32) := by unfold j0_30; first | (rw [if_pos hc3121]) | (simp only [if_pos hc3121])
            exact ⟨T3110, _, X3110, e3110, N3110, fun t k => pre3122 t (by rw [hj3123] at k; exact k)⟩
          · skip
            obtain ⟨_, _, ⟨T3124, L3124, k3124, n3124⟩, -, X3124, ⟨Lc3124, hQ3124, l3124, y3124, z3124⟩, st3124⟩ := Jvm.LawKit.callS X3110 hx (y := (⟨"com/example/stowline/stowline/VolumeBoundCopyTotalsPinLaw", "untouched", "([J[JIII)Z"⟩ : MethodName)) hown (mvT hZ (own_m hw 84 rfl)) (mvT hZ (own_m hw 85 rfl)) (mvT hZ (own_m hw 7 rfl)) (mvT hZ (own_m hw 86 rfl)) (by decide) (backOf (W := 0) (rm12_in l Z aw hw [] b2465 b2529 ((3 : Int32)) ((2 : Int32)) ((2 : Int32)) h3032 n0 Z3032 (by decide) (by decide)) hZ (own_m hw 86 rfl) (own_m hw 7 rfl) (by decide) (by decide)) (g := (mkF m 477 L_3117 [(.int (2 : Int32)), (.int (2 : Int32)), (.int (3 : Int32)), (.ref b2529), (.ref b2465)])) rfl (by rw [hml]; rfl) (argsL := [(.ref b2465), (.ref b2529), (.int (3 : Int32)), (.int (2 : Int32)), (.int (2 : Int32))]) (rest := []) (lenOf pd_11 rfl) rfl (by show 2 * 0 + _ ≤ _; exact Nat.le_of_eq rfl) (hb hby at_477) (fun _ _ => ⟨rfl, e3110, (by decide : 17 + 0 ≤ _), (by decide : 139 + 0 ≤ _)⟩)
            dsimp only [Pt.U, Pt.locs, Pt.cells, Pt.slots] at X3124 l3124 y3124 z3124 st3124 hQ3124
            subst l3124 y3124 z3124
            obtain ⟨rfl, N3124q, e3124⟩ := hQ3124
            have N3124 := Fr.app N3110 N3124q
            have pre3125 := fun (t : State) (k : Steps p.tables e below (T3124.setTop (mkF m 488 L_3117 [(.int (1 : Int32))])) t) => pre3119 t (by
              show Steps p.tables e below (T3110.setTop (mkF m 465 L_3117 [(.int (j0_29 q0 q1 q2 q3 q4 q5))])) _
              refine XS.ifNo X3110.here hx rfl (hb hby at_465) rfl ((if0 _ _).trans (feq hc3121).1) ?_
              refine XS.aload X3110.here hx rfl (hb hby at_468) rfl rfl ?_
              refine XS.aload X3110.here hx rfl (hb hby at_470) rfl rfl ?_
              refine XS.iconst X3110.here hx rfl (hb hby at_472) ?_
              refine XS.iload X3110.here hx rfl (hb hby at_473) rfl ?_
              refine XS.iload X3110.here hx rfl (hb hby at_475) rfl ?_
              show Steps p.tables e below (T3110.setTop (mkF m 477 L_3117 [(.int (2 : Int32)), (.int (2 : Int32)), (.int (3 : Int32)), (.ref b2529), (.ref b2465)])) _
              refine st3124 _ ?_
              refine XS.ifNo X3124.here hx rfl (hb hby at_480) rfl ((if0 _ _).trans (feq (by decide : ¬ ((1 : Int32) = (0 : Int32)))).1) ?_
              refine XS.iconst X3124.here hx rfl (hb hby at_483) ?_
              refine XS.goto X3124.here hx rfl (pc0 := 484) (pc' := 488) rfl (hb hby at_484) (by decide) (by decide) ?_
              exact k)
            have hj3126 : (j0_30 q0 q1 q2 q3 q4 q5) = (1 : Int32) := by unfold j0_30; first | (rw [if_neg hc3121]) | (simp only [if_neg hc3121])
            exact ⟨T3124, _, X3124, e3124, N3124, fun t k => pre3125 t (by rw [hj3126] at k; exact k)⟩
        let L_3127 : Array Slot := #[.val (.long q0), .second, .val (.long q1), .second, .val (.long q2), .second, .val (.long q3), .second, .val (.long q4), .second, .val (.long q5), .second, .val (.int (2 : Int32)), .val (.int (own_Nn q2 q3)), .val (.int ((j0_2 q4) + (j0_3 q5))), .val (.int (2 : Int32)), .val (.long (own_c q0)), .second, .val (.long (own_c q1)), .second, .val (.long (own_z q2 q0)), .second, .val (.long (own_z q3 q1)), .second, .val (.long (own_z q4 q0)), .second, .val (.long (own_z q5 q1)), .second, .val (.ref b2381), .val (.ref b2384), .val (.ref b2390), .val (.ref b2465), .val (.ref b2529), .val (.ref b2604), .val (.int (j0_30 q0 q1 q2 q3 q4 q5))]
        obtain ⟨fs, hr, hrun, hended, hRW⟩ := X3120.leaveW hS (own_hk hk e3120) (v := some (.int (nar .boolean (j0_30 q0 q1 q2 q3 q4 q5)))) (fun h => by rw [Bd.returns] at h; cases h)
        refine ⟨_, _, pre3120 _ ?_, hrun, hended, _, _, rfl, ?_, hRW.1, hRW.2.1, hRW.2.2.1, hRW.2.2.2.mono (by decide) (by decide)⟩
        · skip
          show Steps p.tables e below (T3120.setTop (mkF m 488 L_3117 [(.int (j0_30 q0 q1 q2 q3 q4 q5))])) _
          refine XS.istore X3120.here hx rfl (hb hby at_488) rfl (l' := L_3127) rfl ?_
          refine XS.iload X3120.here hx rfl (hb hby at_490) rfl ?_
          show Steps p.tables e below (T3120.setTop (mkF m 492 L_3127 [(.int (j0_30 q0 q1 q2 q3 q4 q5))])) _
          exact retN X3120 hx (t := .boolean) Bd.returns (by simp) (hb hby at_492) hr
        · show Q0 Z q0 q1 q2 q3 q4 q5 h0 n0 _ T3120.heap _
          rw [e3120]
          have hv : (nar .boolean (j0_30 q0 q1 q2 q3 q4 q5)) = (v0 q0 q1 q2 q3 q4 q5) := by unfold v0; first | (rw [if_neg hc1604, if_neg hs2831, if_neg hs2930]) | (simp only [if_neg hc1604, if_neg hs2831, if_neg hs2930])
          exact ⟨(by rw [← hv]), N3120⟩
theorem own_N (q2 q3 : Int64) : own_Nn q2 q3 = 0 ∨ own_Nn q2 q3 = 1 ∨ own_Nn q2 q3 = 2 ∨ own_Nn q2 q3 = 3 := by
  unfold own_Nn
  repeat' split
  all_goals decide
theorem law_one (q0 q1 q2 q3 q4 q5 : Int64) : (v0 q0 q1 q2 q3 q4 q5) = 1 := by
  have c0 := own_cp q0
  have c1 := own_cp q1
  obtain ⟨a0, a0'⟩ := own_zb q2 q0
  obtain ⟨a1, a1'⟩ := own_zb q3 q1
  obtain ⟨b0, b0'⟩ := own_zb q4 q0
  obtain ⟨b1, b1'⟩ := own_zb q5 q1
  have k0 := own_chk _ _ _ _ (own_N q2 q3) c0 a0 a0' b0 b0'
  have k1 := own_chk _ _ _ _ (own_N q2 q3) c1 a1 a1' b1 b1'
  have nz : ¬ (1 : Int32) = 0 := by decide
  have x13 : j0_13 q0 q2 q3 q4 = 1 := by
    have h10 : j0_10 q0 q2 q3 q4 = 1 := by
      unfold j0_10
      rw [show v11 (own_c q0) (own_z q2 q0) (own_z q4 q0) (own_Nn q2 q3) (j0_8 q0 q2 q3 q4) (j0_9 q0 q2 q3 q4) = 1 from k0, if_neg nz]
    unfold j0_13 j0_12 j0_11
    rw [h10]; rfl
  have x30 : j0_30 q0 q1 q2 q3 q4 q5 = 1 := by
    have h26 : j0_26 q0 q1 q2 q3 q4 q5 = 1 := by
      unfold j0_26
      rw [show v11 (own_c q0) (own_z q2 q0) (own_z q4 q0) (own_Nn q2 q3) (j0_22 q0 q2 q3 q4) (j0_24 q0 q2 q3 q4) = 1 from k0, show v11 (own_c q1) (own_z q3 q1) (own_z q5 q1) (own_Nn q2 q3) (j0_23 q1 q2 q3 q5) (j0_25 q1 q2 q3 q5) = 1 from k1, if_neg nz, if_neg nz]
    unfold j0_30 j0_29 j0_28 j0_27
    rw [h26]; rfl
  unfold v0
  rw [x13, x30]
  repeat' split
  all_goals rfl
set_option maxRecDepth 65536 in
set_option maxHeartbeats 40000000 in
theorem comes_1 {Post : Tables → Env → Array Value → State → Outcome → State → Prop} (hpost : ∀ tb e args s v u, (limb_1_1.after args s (.returned v) u = true ∧ limb_1_2.after args s (.returned v) u = true ∧ True) → ReturnedEndW s (.returned v) u (Jvm.fieldLocs frame_1_writes args s ++ Jvm.arrayLocs frame_1_arrays args s ++ Jvm.staticLocs frame_1_statics s) 32 2176 → Post tb e args s (.returned v) u) :
    ArmFor flags0 classFile x code maxLocals ret World_1 tables_1 room_1 Calls_1 rest_1 Pre_1 Post := by
  intro l hfl _ _ p e ha hc hk s m args below hf hA hF happ hP
  obtain ⟨hcalls, hrest, hpre⟩ := hP
  obtain ⟨-, -, -, hnamed, -, -, -, hat⟩ := (Spec.applies_iff hf).mp happ
  obtain ⟨hg, hn⟩ := and_e (Cond.before_iff.mp (show (Jvm.Cond.and given_1 narrow_1).before args s = true from hpre))
  obtain ⟨hcount, r0⟩ := and_e hg
  obtain ⟨k0, r1⟩ := and_e r0
  obtain ⟨k1, r2⟩ := and_e r1
  obtain ⟨k2, r3⟩ := and_e r2
  obtain ⟨k3, r4⟩ := and_e r3
  obtain ⟨k4, r5⟩ := and_e r4
  have k5 := r5
  obtain ⟨w0, w1, w2, w3, w4, w5, rfl⟩ : ∃ w0 w1 w2 w3 w4 w5 : Value, args = #[w0, w1, w2, w3, w4, w5] := by
    have hs : args.size = 6 := by simpa [Cond.value, given_1] using hcount
    obtain ⟨L⟩ := args
    match L, hs with
    | [w0, w1, w2, w3, w4, w5], _ => exact ⟨w0, w1, w2, w3, w4, w5, rfl⟩
  have hw := fun d (hd : d ∈ tables_1) => atoms_spec (ws := Jvm.Cond.code x code maxLocals ret :: tables_1) hat d (List.mem_cons_of_mem _ hd)
  obtain ⟨i0, ei0⟩ := isL_v k0
  obtain rfl : w0 = (.long i0) := Option.some.inj ei0
  obtain ⟨i1, ei1⟩ := isL_v k1
  obtain rfl : w1 = (.long i1) := Option.some.inj ei1
  obtain ⟨i2, ei2⟩ := isL_v k2
  obtain rfl : w2 = (.long i2) := Option.some.inj ei2
  obtain ⟨i3, ei3⟩ := isL_v k3
  obtain rfl : w3 = (.long i3) := Option.some.inj ei3
  obtain ⟨i4, ei4⟩ := isL_v k4
  obtain rfl : w4 = (.long i4) := Option.some.inj ei4
  obtain ⟨i5, ei5⟩ := isL_v k5
  obtain rfl : w5 = (.long i5) := Option.some.inj ei5
  obtain ⟨n, o, h1, h2, h3, v, L, rfl, ⟨hv, N⟩, hq⟩ := rm0 l s _ hw tables_1 i0 i1 i2 i3 i4 i5 s.heap s.heap.size (Nat.le_refl _) p e ha hc hk s m _ below hf ((Spec.applies_iff_loose hf).mp happ).1 ⟨rfl, State.Warmed39.refl s, rfl⟩ trivial
  rw [law_one i0 i1 i2 i3 i4 i5] at hv
  subst hv
  refine ⟨n, _, h1, h2, h3, hpost _ _ _ _ _ _ ⟨Cond.after_iff.mpr rfl, Cond.after_iff.mpr (eq_i res_at (Term.int_eval (1)) rfl), trivial⟩ ⟨hq.1, hq.2.1, hq.2.2.1, (hq.2.2.2.sift fun y hy => Or.inr (N y hy)).mono (by decide) (by decide)⟩⟩
theorem main_1_1 : Claimed_1_1 := comes_1 fun _ _ _ _ _ _ h hF => ⟨h.1, hF⟩
theorem main_1_2 : Claimed_1_2 := comes_1 fun _ _ _ _ _ _ h hF => ⟨h.2.1, hF⟩
end Jvm.Pilot.@@N@@
namespace Jvm.Pilot.@@N@@
open Jvm Jvm.ClassFile Sem Op Lib Jvm.Free Jvm.Stand Jvm.Pilot.@@N@@.Jvm.D
/-! MADE BY PROGRAM (witnessworld.py) out of the Statement's table words and the real class files: 20 classes; the members and pool entries that the words name. The judged class is class 1, her method 1. -/
namespace start1
open Jvm.ClassFile
def u (s : String) : CpInfo := .utf8 (stringToUtf16 s)
/-- a pool by its gaps: so many unusable entries, then the entry; so many at the end -/
def gap : Nat → List CpInfo → List CpInfo
  | 0, r => r
  | n + 1, r => .unusable :: gap n r
def poolList (es : List (Nat × CpInfo)) (last : Nat) : List CpInfo := es.foldr (fun e r => gap e.1 (e.2 :: r)) (gap last [])
def pool (es : List (Nat × CpInfo)) (last : Nat) : Array CpInfo := ⟨poolList es last⟩
def fileOf (pool : Array CpInfo) (this : Nat) (attrs : Array Attribute := #[]) (ms : Array MethodInfo := #[]) (fl : Nat := 33) (sup : Nat := 0) (ifs : Array Nat := #[]) (fds : Array FieldInfo := #[]) : ClassFile where
  minorVersion := 0
  majorVersion := 65
  constantPool := pool
  accessFlags := fl
  thisClass := this
  superClass := sup
  interfaces := ifs
  fields := fds
  methods := ms
  attributes := attrs
def plain (name : String) (sup : Option ClassId) : Class where
  name := name
  kind := .ordinary
  loader := none
  accessFlags := 33
  super := sup
  interfaces := #[]
  cf := none
  fields := #[]
  methods := #[]
  instanceTypes := #[]
  staticTypes := #[]
  resolved := #[]
  callSites := []
  init := .initialized
  statics := none
  mirror := none

def pool0 : Array CpInfo := pool [(5, u "<init>"), (0, u "()V"), (1, .class_ 10), (1, u "java/lang/Object"), (85, u "clone"), (0, u "()Ljava/lang/Object;")] 26

def k0c0 : Code := { maxStack := 0, maxLocals := 1, code := object_method_1_code, exceptionTable := #[], attributes := #[] }
def k0m0 : Method := { name := "<init>", desc := "()V", sig := { parameters := [], returnType := none }, accessFlags := 1, code := some k0c0 }
def k0m1 : Method := { name := "clone", desc := "()Ljava/lang/Object;", sig := { parameters := [], returnType := some (.object "java/lang/Object") }, accessFlags := 260, code := none }
/-- java/lang/Object -/
def k0 : Class := { plain "java/lang/Object" none with
  accessFlags := 33
  interfaces := #[]
  cf := some (fileOf pool0 8 #[] #[{ accessFlags := 1, nameIndex := 5, descriptorIndex := 6, attributes := #[] }, { accessFlags := 260, nameIndex := 96, descriptorIndex := 97, attributes := #[] }] 33 0 #[] #[])
  fields := #[]
  methods := #[k0m0, k0m1]
  instanceTypes := #[]
  staticTypes := #[]
  resolved := Array.replicate 124 none
  statics := none }

def pool1 : Array CpInfo := pool [(2, .class_ 4), (1, u "java/lang/Object"), (0, u "<init>"), (0, u "()V"), (2, .long 9223372036854775807), (1, .methodref 12 13), (0, .class_ 14), (0, .nameAndType 15 16), (0, u "java/lang/Math"), (0, u "max"), (0, u "(JJ)J"), (0, .methodref 18 19), (0, .class_ 20), (0, .nameAndType 21 16), (0, u "com/example/stowline/stowline/VolumeBoundCopyTotalsPinLaw"), (0, u "size"), (0, .long 18446744073709551615), (1, .long 18446744073709551614), (1, .long 18446744073709551613), (1, .long 18446744073709551612), (1, .long 18446744073709551605), (1, .long 18446744073709551604), (1, .long 18446744073709551603), (1, .long 18446744073709551602), (1, .class_ 39), (0, u "com/example/stowline/stowline/VolumeBound"), (0, .methodref 38 41), (0, .nameAndType 5 42), (0, u "([J)V"), (0, .methodref 38 44), (0, .nameAndType 45 42), (0, u "add"), (0, .methodref 38 47), (0, .nameAndType 48 42), (0, u "remove"), (0, .methodref 38 50), (0, .nameAndType 51 52), (0, u "copyTotals"), (0, u "([J[JI)V"), (0, .methodref 18 54), (0, .nameAndType 55 56), (0, u "check"), (0, u "(JJJIJJ)Z"), (0, .methodref 18 58), (0, .nameAndType 59 60), (0, u "untouched"), (0, u "([J[JIII)Z"), (0, .long 2), (3, u "law"), (0, u "(JJJJJJ)Z")] 5

def k1m0 : Method := { name := "<init>", desc := "()V", sig := { parameters := [], returnType := none }, accessFlags := 1, code := none }
def k1c1 : Code := { maxStack := 12, maxLocals := 35, code := code, exceptionTable := #[], attributes := #[] }
def k1m1 : Method := { name := "law", desc := "(JJJJJJ)Z", sig := { parameters := [.long, .long, .long, .long, .long, .long], returnType := some .boolean }, accessFlags := 9, code := some k1c1 }
def k1c2 : Code := { maxStack := 6, maxLocals := 6, code := method_3_code, exceptionTable := #[], attributes := #[] }
def k1m2 : Method := { name := "size", desc := "(JJ)J", sig := { parameters := [.long, .long], returnType := some .long }, accessFlags := 10, code := some k1c2 }
def k1c3 : Code := { maxStack := 8, maxLocals := 13, code := method_4_code, exceptionTable := #[], attributes := #[] }
def k1m3 : Method := { name := "check", desc := "(JJJIJJ)Z", sig := { parameters := [.long, .long, .long, .int, .long, .long], returnType := some .boolean }, accessFlags := 10, code := some k1c3 }
def k1c4 : Code := { maxStack := 6, maxLocals := 5, code := method_5_code, exceptionTable := #[], attributes := #[] }
def k1m4 : Method := { name := "untouched", desc := "([J[JIII)Z", sig := { parameters := [(.array .long), (.array .long), .int, .int, .int], returnType := some .boolean }, accessFlags := 10, code := some k1c4 }
/-- com/example/stowline/stowline/VolumeBoundCopyTotalsPinLaw -/
def k1 : Class := { plain "com/example/stowline/stowline/VolumeBoundCopyTotalsPinLaw" (some 0) with
  accessFlags := 49
  interfaces := #[]
  cf := some (fileOf pool1 18 #[] #[{ accessFlags := 1, nameIndex := 5, descriptorIndex := 6, attributes := #[] }, { accessFlags := 9, nameIndex := 65, descriptorIndex := 66, attributes := #[] }, { accessFlags := 10, nameIndex := 21, descriptorIndex := 16, attributes := #[] }, { accessFlags := 10, nameIndex := 55, descriptorIndex := 56, attributes := #[] }, { accessFlags := 10, nameIndex := 59, descriptorIndex := 60, attributes := #[] }] 49 2 #[] #[])
  fields := #[]
  methods := #[k1m0, k1m1, k1m2, k1m3, k1m4]
  instanceTypes := #[]
  staticTypes := #[]
  resolved := Array.replicate 72 none
  statics := none }

def pool2 : Array CpInfo := pool [(1, .class_ 2), (0, u "java/lang/Math"), (1, .class_ 6), (1, u "java/lang/Object"), (0, u "<init>"), (0, u "()V"), (89, .class_ 100), (1, u "java/lang/Math$RandomNumberGeneratorHolder"), (20, u "(JJ)J"), (50, u "negativeZeroFloatBits"), (0, u "J"), (2, u "negativeZeroDoubleBits"), (21, u "max"), (46, u "$assertionsDisabled"), (0, u "Z"), (91, u "twoToTheDoubleScaleDown"), (0, u "D"), (4, u "twoToTheDoubleScaleUp"), (9, u "E"), (3, u "PI"), (2, u "TAU"), (2, u "DEGREES_TO_RADIANS"), (0, u "RADIANS_TO_DEGREES")] 94

def k2m0 : Method := { name := "<init>", desc := "()V", sig := { parameters := [], returnType := none }, accessFlags := 2, code := none }
def k2c1 : Code := { maxStack := 4, maxLocals := 4, code := jdk_29_method_66_code, exceptionTable := #[], attributes := #[] }
def k2m1 : Method := { name := "max", desc := "(JJ)J", sig := { parameters := [.long, .long], returnType := some .long }, accessFlags := 9, code := some k2c1 }
/-- java/lang/Math -/
def k2 : Class := { plain "java/lang/Math" (some 0) with
  accessFlags := 49
  interfaces := #[]
  cf := some (fileOf pool2 1 #[.nestMembers #[98]] #[{ accessFlags := 2, nameIndex := 7, descriptorIndex := 8, attributes := #[] }, { accessFlags := 9, nameIndex := 198, descriptorIndex := 121, attributes := #[] }] 49 4 #[] #[{ accessFlags := 25, nameIndex := 354, descriptorIndex := 339, attributes := #[] }, { accessFlags := 25, nameIndex := 358, descriptorIndex := 339, attributes := #[] }, { accessFlags := 25, nameIndex := 361, descriptorIndex := 339, attributes := #[] }, { accessFlags := 26, nameIndex := 364, descriptorIndex := 339, attributes := #[] }, { accessFlags := 26, nameIndex := 365, descriptorIndex := 339, attributes := #[] }, { accessFlags := 26, nameIndex := 172, descriptorIndex := 173, attributes := #[] }, { accessFlags := 26, nameIndex := 176, descriptorIndex := 173, attributes := #[] }, { accessFlags := 8, nameIndex := 344, descriptorIndex := 339, attributes := #[] }, { accessFlags := 8, nameIndex := 338, descriptorIndex := 339, attributes := #[] }, { accessFlags := 4120, nameIndex := 245, descriptorIndex := 246, attributes := #[] }])
  fields := #[{ name := "E", type := .double, accessFlags := 25, slot := 0, constantValue := 0 }, { name := "PI", type := .double, accessFlags := 25, slot := 1, constantValue := 0 }, { name := "TAU", type := .double, accessFlags := 25, slot := 2, constantValue := 0 }, { name := "DEGREES_TO_RADIANS", type := .double, accessFlags := 26, slot := 3, constantValue := 0 }, { name := "RADIANS_TO_DEGREES", type := .double, accessFlags := 26, slot := 4, constantValue := 0 }, { name := "negativeZeroFloatBits", type := .long, accessFlags := 26, slot := 5, constantValue := 0 }, { name := "negativeZeroDoubleBits", type := .long, accessFlags := 26, slot := 6, constantValue := 0 }, { name := "twoToTheDoubleScaleUp", type := .double, accessFlags := 8, slot := 7, constantValue := 0 }, { name := "twoToTheDoubleScaleDown", type := .double, accessFlags := 8, slot := 8, constantValue := 0 }, { name := "$assertionsDisabled", type := .boolean, accessFlags := 4120, slot := 9, constantValue := 0 }]
  methods := #[k2m0, k2m1]
  instanceTypes := #[]
  staticTypes := #[.double, .double, .double, .double, .double, .long, .long, .double, .double, .boolean]
  resolved := Array.replicate 460 none
  statics := none }

def pool3 : Array CpInfo := pool [(1, .methodref 2 3), (0, .class_ 4), (0, .nameAndType 5 6), (0, u "java/lang/Object"), (0, u "<init>"), (0, u "()V"), (0, .methodref 8 9), (0, .class_ 10), (0, .nameAndType 11 12), (0, u "com/example/stowline/stowline/Capacities"), (0, u "checkedCopy"), (0, u "([J)[J"), (0, .fieldref 14 15), (0, .class_ 16), (0, .nameAndType 17 18), (0, u "com/example/stowline/stowline/VolumeBound"), (0, u "capacities"), (0, u "[J"), (0, .fieldref 14 20), (0, .nameAndType 21 18), (0, u "wholeCapacities"), (0, .fieldref 14 23), (0, .nameAndType 24 18), (0, u "remainders"), (0, .methodref 14 26), (0, .nameAndType 27 28), (0, u "checkSizes"), (0, u "([J)V"), (44, u "add"), (43, .methodref 118 119), (0, .class_ 120), (0, .nameAndType 121 122), (0, u "java/lang/System"), (0, u "arraycopy"), (0, u "(Ljava/lang/Object;ILjava/lang/Object;II)V"), (0, .methodref 8 124), (0, .nameAndType 27 125), (0, u "([J[J)V"), (4, u "remove"), (5, u "copyTotals"), (0, u "([J[JI)V")] 17

def k3c0 : Code := { maxStack := 2, maxLocals := 2, code := prog_29_method_1_code, exceptionTable := #[], attributes := #[] }
def k3m0 : Method := { name := "<init>", desc := "([J)V", sig := { parameters := [(.array .long)], returnType := none }, accessFlags := 1, code := some k3c0 }
def k3c1 : Code := { maxStack := 6, maxLocals := 5, code := prog_29_method_3_code, exceptionTable := #[], attributes := #[] }
def k3m1 : Method := { name := "add", desc := "([J)V", sig := { parameters := [(.array .long)], returnType := none }, accessFlags := 1, code := some k3c1 }
def k3c2 : Code := { maxStack := 8, maxLocals := 3, code := prog_29_method_4_code, exceptionTable := #[], attributes := #[] }
def k3m2 : Method := { name := "remove", desc := "([J)V", sig := { parameters := [(.array .long)], returnType := none }, accessFlags := 1, code := some k3c2 }
def k3c3 : Code := { maxStack := 5, maxLocals := 4, code := prog_29_method_9_code, exceptionTable := #[], attributes := #[] }
def k3m3 : Method := { name := "copyTotals", desc := "([J[JI)V", sig := { parameters := [(.array .long), (.array .long), .int], returnType := none }, accessFlags := 0, code := some k3c3 }
def k3c4 : Code := { maxStack := 2, maxLocals := 2, code := prog_29_method_10_code, exceptionTable := #[], attributes := #[] }
def k3m4 : Method := { name := "checkSizes", desc := "([J)V", sig := { parameters := [(.array .long)], returnType := none }, accessFlags := 0, code := some k3c4 }
/-- com/example/stowline/stowline/VolumeBound -/
def k3 : Class := { plain "com/example/stowline/stowline/VolumeBound" (some 0) with
  accessFlags := 49
  interfaces := #[]
  cf := some (fileOf pool3 14 #[] #[{ accessFlags := 1, nameIndex := 5, descriptorIndex := 28, attributes := #[] }, { accessFlags := 1, nameIndex := 73, descriptorIndex := 28, attributes := #[] }, { accessFlags := 1, nameIndex := 130, descriptorIndex := 28, attributes := #[] }, { accessFlags := 0, nameIndex := 136, descriptorIndex := 137, attributes := #[] }, { accessFlags := 0, nameIndex := 27, descriptorIndex := 28, attributes := #[] }] 49 2 #[] #[{ accessFlags := 18, nameIndex := 17, descriptorIndex := 18, attributes := #[] }, { accessFlags := 18, nameIndex := 21, descriptorIndex := 18, attributes := #[] }, { accessFlags := 18, nameIndex := 24, descriptorIndex := 18, attributes := #[] }])
  fields := #[{ name := "capacities", type := (.array .long), accessFlags := 18, slot := 0, constantValue := 0 }, { name := "wholeCapacities", type := (.array .long), accessFlags := 18, slot := 1, constantValue := 0 }, { name := "remainders", type := (.array .long), accessFlags := 18, slot := 2, constantValue := 0 }]
  methods := #[k3m0, k3m1, k3m2, k3m3, k3m4]
  instanceTypes := #[(.array .long), (.array .long), (.array .long)]
  staticTypes := #[]
  resolved := Array.replicate 155 none
  statics := none }

def pool4 : Array CpInfo := pool [(2, .class_ 4), (1, u "java/lang/Object"), (0, u "<init>"), (0, u "()V"), (0, .string 8), (0, u "capacities"), (0, .methodref 10 11), (0, .class_ 12), (0, .nameAndType 13 14), (0, u "java/util/Objects"), (0, u "requireNonNull"), (0, u "(Ljava/lang/Object;Ljava/lang/String;)Ljava/lang/Object;"), (11, .methodref 27 28), (0, .class_ 29), (0, .nameAndType 30 31), (0, u "[J"), (0, u "clone"), (0, u "()Ljava/lang/Object;"), (0, .string 33), (0, u "sizes"), (6, .class_ 41), (0, u "com/example/stowline/stowline/Capacities"), (2, u "checkedCopy"), (0, u "([J)[J"), (1, u "checkSizes"), (0, u "([J[J)V")] 21

def k4m0 : Method := { name := "<init>", desc := "()V", sig := { parameters := [], returnType := none }, accessFlags := 2, code := none }
def k4c1 : Code := { maxStack := 5, maxLocals := 2, code := prog_4_method_2_code, exceptionTable := #[], attributes := #[] }
def k4m1 : Method := { name := "checkedCopy", desc := "([J)[J", sig := { parameters := [(.array .long)], returnType := some (.array .long) }, accessFlags := 8, code := some k4c1 }
def k4c2 : Code := { maxStack := 7, maxLocals := 3, code := prog_4_method_3_code, exceptionTable := #[], attributes := #[] }
def k4m2 : Method := { name := "checkSizes", desc := "([J[J)V", sig := { parameters := [(.array .long), (.array .long)], returnType := none }, accessFlags := 8, code := some k4c2 }
/-- com/example/stowline/stowline/Capacities -/
def k4 : Class := { plain "com/example/stowline/stowline/Capacities" (some 0) with
  accessFlags := 48
  interfaces := #[]
  cf := some (fileOf pool4 40 #[] #[{ accessFlags := 2, nameIndex := 5, descriptorIndex := 6, attributes := #[] }, { accessFlags := 8, nameIndex := 44, descriptorIndex := 45, attributes := #[] }, { accessFlags := 8, nameIndex := 47, descriptorIndex := 48, attributes := #[] }] 48 2 #[] #[])
  fields := #[]
  methods := #[k4m0, k4m1, k4m2]
  instanceTypes := #[]
  staticTypes := #[]
  resolved := Array.replicate 70 none
  statics := none }

def pool5 : Array CpInfo := pool [(1, .class_ 2), (0, u "java/io/Serializable"), (0, .class_ 4), (0, u "java/lang/Object")] 2

/-- java/io/Serializable -/
def k5 : Class := { plain "java/io/Serializable" (some 0) with
  accessFlags := 1537
  interfaces := #[]
  cf := some (fileOf pool5 1 #[] #[] 1537 3 #[] #[])
  fields := #[]
  methods := #[]
  instanceTypes := #[]
  staticTypes := #[]
  resolved := Array.replicate 7 none
  statics := none }

def pool6 : Array CpInfo := pool [(1, .class_ 2), (0, u "java/lang/Comparable"), (0, .class_ 4), (0, u "java/lang/Object")] 7

/-- java/lang/Comparable -/
def k6 : Class := { plain "java/lang/Comparable" (some 0) with
  accessFlags := 1537
  interfaces := #[]
  cf := some (fileOf pool6 1 #[] #[] 1537 3 #[] #[])
  fields := #[]
  methods := #[]
  instanceTypes := #[]
  staticTypes := #[]
  resolved := Array.replicate 12 none
  statics := none }

def pool7 : Array CpInfo := pool [(2, .class_ 4), (1, u "java/lang/CharSequence"), (42, .class_ 48), (0, u "java/lang/CharSequence$1CodePointIterator"), (10, .class_ 60), (0, u "java/lang/CharSequence$1CharIterator"), (5, .class_ 67), (0, u "java/lang/Object")] 63

/-- java/lang/CharSequence -/
def k7 : Class := { plain "java/lang/CharSequence" (some 0) with
  accessFlags := 1537
  interfaces := #[]
  cf := some (fileOf pool7 2 #[.nestMembers #[47, 59]] #[] 1537 66 #[] #[])
  fields := #[]
  methods := #[]
  instanceTypes := #[]
  staticTypes := #[]
  resolved := Array.replicate 131 none
  statics := none }

def pool8 : Array CpInfo := pool [(1, .class_ 2), (0, u "java/lang/constant/Constable"), (0, .class_ 4), (0, u "java/lang/Object")] 6

/-- java/lang/constant/Constable -/
def k8 : Class := { plain "java/lang/constant/Constable" (some 0) with
  accessFlags := 1537
  interfaces := #[]
  cf := some (fileOf pool8 1 #[] #[] 1537 3 #[] #[])
  fields := #[]
  methods := #[]
  instanceTypes := #[]
  staticTypes := #[]
  resolved := Array.replicate 11 none
  statics := none }

def pool9 : Array CpInfo := pool [(1, .class_ 2), (0, u "java/lang/constant/ConstantDesc"), (0, .class_ 4), (0, u "java/lang/Object")] 32

/-- java/lang/constant/ConstantDesc -/
def k9 : Class := { plain "java/lang/constant/ConstantDesc" (some 0) with
  accessFlags := 1537
  interfaces := #[]
  cf := some (fileOf pool9 1 #[] #[] 1537 3 #[] #[])
  fields := #[]
  methods := #[]
  instanceTypes := #[]
  staticTypes := #[]
  resolved := Array.replicate 37 none
  statics := none }

def pool10 : Array CpInfo := pool [(2, .class_ 4), (1, u "java/lang/Object"), (0, u "<init>"), (0, u "()V"), (3, .class_ 12), (1, u "java/lang/String"), (0, u "value"), (0, u "[B"), (2, u "coder"), (0, u "B"), (2, u "hash"), (0, u "I"), (2, u "hashIsZero"), (0, u "Z"), (13, u "COMPACT_STRINGS"), (534, .class_ 576), (0, u "java/lang/CharSequence"), (22, u "CASE_INSENSITIVE_ORDER"), (0, u "Ljava/util/Comparator;"), (500, u "serialPersistentFields"), (0, u "[Ljava/io/ObjectStreamField;"), (0, .class_ 1104), (0, u "java/lang/String$CaseInsensitiveComparator"), (1, .class_ 1107), (0, u "java/io/Serializable"), (0, .class_ 1109), (0, u "java/lang/Comparable"), (0, .class_ 1111), (0, u "java/lang/constant/Constable"), (0, .class_ 1113), (0, u "java/lang/constant/ConstantDesc"), (2, u "serialVersionUID"), (0, u "J"), (3, u "REPL"), (0, u "C"), (2, u "LATIN1"), (1, u "UTF16")] 323

def k10m0 : Method := { name := "<init>", desc := "()V", sig := { parameters := [], returnType := none }, accessFlags := 1, code := none }
/-- java/lang/String -/
def k10 : Class := { plain "java/lang/String" (some 0) with
  accessFlags := 49
  interfaces := #[5, 6, 7, 8, 9]
  cf := some (fileOf pool10 10 #[.nestMembers #[1103]] #[{ accessFlags := 1, nameIndex := 5, descriptorIndex := 6, attributes := #[] }] 49 2 #[1106, 1108, 575, 1110, 1112] #[{ accessFlags := 18, nameIndex := 13, descriptorIndex := 14, attributes := #[] }, { accessFlags := 18, nameIndex := 17, descriptorIndex := 18, attributes := #[] }, { accessFlags := 2, nameIndex := 21, descriptorIndex := 22, attributes := #[] }, { accessFlags := 2, nameIndex := 25, descriptorIndex := 26, attributes := #[] }, { accessFlags := 26, nameIndex := 1116, descriptorIndex := 1117, attributes := #[] }, { accessFlags := 24, nameIndex := 40, descriptorIndex := 26, attributes := #[] }, { accessFlags := 26, nameIndex := 1101, descriptorIndex := 1102, attributes := #[] }, { accessFlags := 26, nameIndex := 1121, descriptorIndex := 1122, attributes := #[] }, { accessFlags := 25, nameIndex := 599, descriptorIndex := 600, attributes := #[] }, { accessFlags := 24, nameIndex := 1125, descriptorIndex := 18, attributes := #[] }, { accessFlags := 24, nameIndex := 1127, descriptorIndex := 18, attributes := #[] }])
  fields := #[{ name := "value", type := (.array .byte), accessFlags := 18, slot := 0, constantValue := 0 }, { name := "coder", type := .byte, accessFlags := 18, slot := 1, constantValue := 0 }, { name := "hash", type := .int, accessFlags := 2, slot := 2, constantValue := 0 }, { name := "hashIsZero", type := .boolean, accessFlags := 2, slot := 3, constantValue := 0 }, { name := "serialVersionUID", type := .long, accessFlags := 26, slot := 0, constantValue := 0 }, { name := "COMPACT_STRINGS", type := .boolean, accessFlags := 24, slot := 1, constantValue := 0 }, { name := "serialPersistentFields", type := (.array (.object "java/io/ObjectStreamField")), accessFlags := 26, slot := 2, constantValue := 0 }, { name := "REPL", type := .char, accessFlags := 26, slot := 3, constantValue := 0 }, { name := "CASE_INSENSITIVE_ORDER", type := (.object "java/util/Comparator"), accessFlags := 25, slot := 4, constantValue := 0 }, { name := "LATIN1", type := .byte, accessFlags := 24, slot := 5, constantValue := 0 }, { name := "UTF16", type := .byte, accessFlags := 24, slot := 6, constantValue := 0 }]
  methods := #[k10m0]
  instanceTypes := #[(.array .byte), .byte, .int, .boolean]
  staticTypes := #[.long, .boolean, (.array (.object "java/io/ObjectStreamField")), .char, (.object "java/util/Comparator"), .byte, .byte]
  resolved := Array.replicate 1451 none
  statics := none }

def pool11 : Array CpInfo := pool [(2, .class_ 4), (1, u "java/lang/Object"), (0, u "<init>"), (0, u "()V"), (35, .class_ 44), (1, u "java/util/Objects"), (0, u "requireNonNull"), (48, u "(Ljava/lang/Object;Ljava/lang/String;)Ljava/lang/Object;")] 89

def k11m0 : Method := { name := "<init>", desc := "()V", sig := { parameters := [], returnType := none }, accessFlags := 2, code := none }
def k11c1 : Code := { maxStack := 3, maxLocals := 2, code := jdk_31_method_11_code, exceptionTable := #[], attributes := #[] }
def k11m1 : Method := { name := "requireNonNull", desc := "(Ljava/lang/Object;Ljava/lang/String;)Ljava/lang/Object;", sig := { parameters := [(.object "java/lang/Object"), (.object "java/lang/String")], returnType := some (.object "java/lang/Object") }, accessFlags := 9, code := some k11c1 }
/-- java/util/Objects -/
def k11 : Class := { plain "java/util/Objects" (some 0) with
  accessFlags := 49
  interfaces := #[]
  cf := some (fileOf pool11 42 #[] #[{ accessFlags := 2, nameIndex := 5, descriptorIndex := 6, attributes := #[] }, { accessFlags := 9, nameIndex := 45, descriptorIndex := 94, attributes := #[] }] 49 2 #[] #[])
  fields := #[]
  methods := #[k11m0, k11m1]
  instanceTypes := #[]
  staticTypes := #[]
  resolved := Array.replicate 184 none
  statics := none }

def pool12 : Array CpInfo := pool [(1, .class_ 2), (0, u "java/lang/Cloneable"), (0, .class_ 4), (0, u "java/lang/Object")] 2

/-- java/lang/Cloneable -/
def k12 : Class := { plain "java/lang/Cloneable" (some 0) with
  accessFlags := 1537
  interfaces := #[]
  cf := some (fileOf pool12 1 #[] #[] 1537 3 #[] #[])
  fields := #[]
  methods := #[]
  instanceTypes := #[]
  staticTypes := #[]
  resolved := Array.replicate 7 none
  statics := none }

def pool13 : Array CpInfo := pool [(2, .class_ 4), (1, u "java/lang/Object"), (0, u "<init>"), (0, u "()V"), (1, .class_ 10), (1, u "java/lang/System"), (0, u "allowSecurityManager"), (0, u "I"), (16, u "cons"), (0, u "Ljava/io/Console;"), (77, .class_ 110), (1, u "java/lang/System$CallersHolder"), (43, u "initialErrStream"), (0, u "Ljava/io/PrintStream;"), (19, u "security"), (0, u "Ljava/lang/SecurityManager;"), (31, .class_ 209), (0, u "java/lang/System$1"), (7, u "props"), (0, u "Ljava/util/Properties;"), (2, u "lineSeparator"), (0, u "Ljava/lang/String;"), (96, .class_ 321), (1, u "java/lang/System$LoggerFinder"), (5, .class_ 328), (0, u "java/lang/System$Logger"), (67, u "err"), (2, u "out"), (91, u "notSupportedJnuEncoding"), (15, u "in"), (17, u "initialIn"), (0, u "Ljava/io/InputStream;"), (35, u "bootLayer"), (0, u "Ljava/lang/ModuleLayer;"), (99, .class_ 664), (0, u "java/lang/System$2"), (9, u "NEVER"), (2, u "MAYBE"), (49, u "arraycopy"), (0, u "(Ljava/lang/Object;ILjava/lang/Object;II)V"), (72, .class_ 802), (0, u "java/lang/System$Logger$Level")] 31

def k13m0 : Method := { name := "<init>", desc := "()V", sig := { parameters := [], returnType := none }, accessFlags := 2, code := none }
def k13m1 : Method := { name := "arraycopy", desc := "(Ljava/lang/Object;ILjava/lang/Object;II)V", sig := { parameters := [(.object "java/lang/Object"), .int, (.object "java/lang/Object"), .int, .int], returnType := none }, accessFlags := 265, code := none }
/-- java/lang/System -/
def k13 : Class := { plain "java/lang/System" (some 0) with
  accessFlags := 49
  interfaces := #[]
  cf := some (fileOf pool13 8 #[.nestMembers #[319, 327, 801, 108, 663, 208]] #[{ accessFlags := 2, nameIndex := 5, descriptorIndex := 6, attributes := #[] }, { accessFlags := 265, nameIndex := 727, descriptorIndex := 728, attributes := #[] }] 49 2 #[] #[{ accessFlags := 25, nameIndex := 507, descriptorIndex := 526, attributes := #[] }, { accessFlags := 25, nameIndex := 399, descriptorIndex := 155, attributes := #[] }, { accessFlags := 25, nameIndex := 396, descriptorIndex := 155, attributes := #[] }, { accessFlags := 10, nameIndex := 525, descriptorIndex := 526, attributes := #[] }, { accessFlags := 26, nameIndex := 674, descriptorIndex := 12, attributes := #[] }, { accessFlags := 26, nameIndex := 677, descriptorIndex := 12, attributes := #[] }, { accessFlags := 10, nameIndex := 11, descriptorIndex := 12, attributes := #[] }, { accessFlags := 74, nameIndex := 175, descriptorIndex := 176, attributes := #[] }, { accessFlags := 10, nameIndex := 491, descriptorIndex := 222, attributes := #[] }, { accessFlags := 74, nameIndex := 29, descriptorIndex := 30, attributes := #[] }, { accessFlags := 74, nameIndex := 154, descriptorIndex := 155, attributes := #[] }, { accessFlags := 10, nameIndex := 217, descriptorIndex := 218, attributes := #[] }, { accessFlags := 10, nameIndex := 221, descriptorIndex := 222, attributes := #[] }, { accessFlags := 8, nameIndex := 562, descriptorIndex := 563, attributes := #[] }])
  fields := #[{ name := "in", type := (.object "java/io/InputStream"), accessFlags := 25, slot := 0, constantValue := 0 }, { name := "out", type := (.object "java/io/PrintStream"), accessFlags := 25, slot := 1, constantValue := 0 }, { name := "err", type := (.object "java/io/PrintStream"), accessFlags := 25, slot := 2, constantValue := 0 }, { name := "initialIn", type := (.object "java/io/InputStream"), accessFlags := 10, slot := 3, constantValue := 0 }, { name := "NEVER", type := .int, accessFlags := 26, slot := 4, constantValue := 0 }, { name := "MAYBE", type := .int, accessFlags := 26, slot := 5, constantValue := 0 }, { name := "allowSecurityManager", type := .int, accessFlags := 10, slot := 6, constantValue := 0 }, { name := "security", type := (.object "java/lang/SecurityManager"), accessFlags := 74, slot := 7, constantValue := 0 }, { name := "notSupportedJnuEncoding", type := (.object "java/lang/String"), accessFlags := 10, slot := 8, constantValue := 0 }, { name := "cons", type := (.object "java/io/Console"), accessFlags := 74, slot := 9, constantValue := 0 }, { name := "initialErrStream", type := (.object "java/io/PrintStream"), accessFlags := 74, slot := 10, constantValue := 0 }, { name := "props", type := (.object "java/util/Properties"), accessFlags := 10, slot := 11, constantValue := 0 }, { name := "lineSeparator", type := (.object "java/lang/String"), accessFlags := 10, slot := 12, constantValue := 0 }, { name := "bootLayer", type := (.object "java/lang/ModuleLayer"), accessFlags := 8, slot := 13, constantValue := 0 }]
  methods := #[k13m0, k13m1]
  instanceTypes := #[]
  staticTypes := #[(.object "java/io/InputStream"), (.object "java/io/PrintStream"), (.object "java/io/PrintStream"), (.object "java/io/InputStream"), .int, .int, .int, (.object "java/lang/SecurityManager"), (.object "java/lang/String"), (.object "java/io/Console"), (.object "java/io/PrintStream"), (.object "java/util/Properties"), (.object "java/lang/String"), (.object "java/lang/ModuleLayer")]
  resolved := Array.replicate 834 none
  statics := none }

/-- the primitive byte -/
def k14 : Class := { plain "byte" none with kind := .primitive 'B', accessFlags := 0x411 }
/-- [B -/
def k15 : Class := { plain "[B" (some 0) with kind := .array 14 .byte, interfaces := #[12, 5], accessFlags := 1041 }

/-- the primitive int -/
def k16 : Class := { plain "int" none with kind := .primitive 'I', accessFlags := 0x411 }
/-- [I -/
def k17 : Class := { plain "[I" (some 0) with kind := .array 16 .int, interfaces := #[12, 5], accessFlags := 1041 }

/-- the primitive long -/
def k18 : Class := { plain "long" none with kind := .primitive 'J', accessFlags := 0x411 }
/-- [J -/
def k19 : Class := { plain "[J" (some 0) with kind := .array 18 .long, interfaces := #[12, 5], accessFlags := 1041 }

def heap : Heap := #[]
def classes : Array Class := #[k0, k1, k2, k3, k4, k5, k6, k7, k8, k9, k10, k11, k12, k13, k14, k15, k16, k17, k18, k19]
def interned : List (Array UInt16 × Addr) := []
def slotsUsed : Nat := 0
def theMethod : MethodId := ⟨1, 1⟩
def args0 : Array Value := #[.long 5, .long 5, .long 5, .long 5, .long 5, .long 5]
def aboutOver (below : List Frame) : State where
  vm := { classes := classes, interned := interned.toArray }
  heap := heap
  slotsUsed := slotsUsed
  threads := #[{ frames := .invoking theMethod args0 :: below }]
def below0 : List Frame := [.native { method := ⟨0, 0⟩, args := #[] }]
def about1 : State := aboutOver below0
def p0 : Program := .bare "" "" ""
def e0 : Env := launch0.env 0 0 0
theorem w_frames : about1.frames = Frame.invoking theMethod args0 :: below0 := rfl
set_option maxRecDepth 65536 in
theorem w_args : argsFit about1.vm theMethod args0 = true := by decide +kernel
set_option maxRecDepth 65536 in
theorem w_heap : heapFits about1 = true := by decide +kernel
set_option maxRecDepth 65536 in
theorem w_runnable : about1.curStatus? = some .runnable := by decide +kernel
set_option maxRecDepth 65536 in
theorem w_alone : about1.alone = true := by decide +kernel
set_option maxRecDepth 65536 in
theorem w_named : about1.methodNamed? x = some theMethod := by decide +kernel
set_option maxRecDepth 65536 in
theorem w_hears : about1.hears theMethod below0 = true := by decide +kernel
set_option maxRecDepth 65536 in
theorem w_ripe : about1.ripe theMethod args0 below0 = true := by decide +kernel
theorem w_running : about1.status = .running := rfl
set_option maxRecDepth 65536 in
theorem w_room : about1.hasRoom e0.platform room_1 = true :=
  launch0.hasRoom_least _ room_1 (by decide +kernel) (by decide +kernel) (by decide +kernel) (by decide +kernel) (by decide +kernel) (by decide +kernel)
theorem allAtoms_all (ts : List Jvm.Cond) (a : Array Jvm.Value) (st : Jvm.State) : (allAtoms ts).before a st = ts.all (fun c => c.before a st) := by
  induction ts with
  | nil => rfl
  | cons c t ih =>
    show (Jvm.Cond.and c (allAtoms t)).before a st = _
    rw [Jvm.Cond.before_and, ih, List.all_cons]
def words1 : List Jvm.Cond := Jvm.Cond.code x code maxLocals ret :: tables_1
/-- a 'code' word, met by the world's own term for the bytes: nothing is compared byte by byte -/
theorem code_word {y : MethodName} {bytes : ByteArray} {mx : Nat} {rt : Option FieldType} {a : Array Value} {s : State} {m : MethodId} {meth : Method} {c : Code} (h1 : s.methodNamed? y = some m) (h2 : s.vm.method? m = some meth) (h3 : meth.code = some c) (h4 : c.code = bytes)
    (h5 : (c.maxLocals == mx && c.exceptionTable.isEmpty && decide (c.maxStack ≤ mostOperands) && decide (meth.sig.returnType = rt) && !meth.locks && decide (parseMethodDescriptor y.desc = some meth.sig)) = true) : (Jvm.Cond.code y bytes mx rt).before a s = true := by
  simp only [Bool.and_eq_true, beq_iff_eq, Bool.not_eq_true', decide_eq_true_eq] at h5
  obtain ⟨⟨⟨⟨⟨g1, g2⟩, g3⟩, g4⟩, g5⟩, g6⟩ := h5
  simp [Cond.before, Cond.holds, Cond.value, h1, h2, h3, h4, g1, g2, g3, g4, g5, g6]
def isCode : Jvm.Cond → Bool
  | .code _ _ _ _ => true
  | _ => false
theorem all_split {L : List Jvm.Cond} {P : Jvm.Cond → Bool} (h1 : L.all (fun c => isCode c || P c) = true) (h2 : ∀ c ∈ L.filter isCode, P c = true) : L.all P = true := by
  refine List.all_eq_true.mpr fun c hc => ?_
  have h := List.all_eq_true.mp h1 c hc
  rcases Bool.eq_false_or_eq_true (isCode c) with hi | hi
  · exact h2 c (List.mem_filter.mpr ⟨hc, hi⟩)
  · simpa [hi] using h
set_option maxRecDepth 65536 in
theorem w_c0 : (Jvm.Cond.code x code maxLocals ret).before args0 about1 = true := code_word (m := ⟨1, 1⟩) (meth := k1m1) (c := k1c1) (by decide +kernel) rfl rfl rfl (by decide +kernel)
set_option maxRecDepth 65536 in
theorem w_c1 : (Jvm.Cond.code ({ cls := "java/lang/Math", name := "max", desc := "(JJ)J" } : Jvm.MethodName) jdk_29_method_66_code (4 : Nat) (Option.some Jvm.ClassFile.FieldType.long)).before args0 about1 = true := code_word (m := ⟨2, 1⟩) (meth := k2m1) (c := k2c1) (by decide +kernel) rfl rfl rfl (by decide +kernel)
set_option maxRecDepth 65536 in
theorem w_c2 : (Jvm.Cond.code ({ cls := "com/example/stowline/stowline/VolumeBoundCopyTotalsPinLaw", name := "size", desc := "(JJ)J" } : Jvm.MethodName) method_3_code (6 : Nat) (Option.some Jvm.ClassFile.FieldType.long)).before args0 about1 = true := code_word (m := ⟨1, 2⟩) (meth := k1m2) (c := k1c2) (by decide +kernel) rfl rfl rfl (by decide +kernel)
set_option maxRecDepth 65536 in
theorem w_c3 : (Jvm.Cond.code ({ cls := "com/example/stowline/stowline/VolumeBound", name := "<init>", desc := "([J)V" } : Jvm.MethodName) prog_29_method_1_code (2 : Nat) (Option.none : Option Jvm.ClassFile.FieldType)).before args0 about1 = true := code_word (m := ⟨3, 0⟩) (meth := k3m0) (c := k3c0) (by decide +kernel) rfl rfl rfl (by decide +kernel)
set_option maxRecDepth 65536 in
theorem w_c4 : (Jvm.Cond.code ({ cls := "java/lang/Object", name := "<init>", desc := "()V" } : Jvm.MethodName) object_method_1_code (1 : Nat) (Option.none : Option Jvm.ClassFile.FieldType)).before args0 about1 = true := code_word (m := ⟨0, 0⟩) (meth := k0m0) (c := k0c0) (by decide +kernel) rfl rfl rfl (by decide +kernel)
set_option maxRecDepth 65536 in
theorem w_c5 : (Jvm.Cond.code ({ cls := "com/example/stowline/stowline/Capacities", name := "checkedCopy", desc := "([J)[J" } : Jvm.MethodName) prog_4_method_2_code (2 : Nat) (Option.some (Jvm.ClassFile.FieldType.array Jvm.ClassFile.FieldType.long))).before args0 about1 = true := code_word (m := ⟨4, 1⟩) (meth := k4m1) (c := k4c1) (by decide +kernel) rfl rfl rfl (by decide +kernel)
set_option maxRecDepth 65536 in
theorem w_c6 : (Jvm.Cond.code ({ cls := "java/util/Objects", name := "requireNonNull", desc := "(Ljava/lang/Object;Ljava/lang/String;)Ljava/lang/Object;" } : Jvm.MethodName) jdk_31_method_11_code (2 : Nat) (Option.some (Jvm.ClassFile.FieldType.object "java/lang/Object"))).before args0 about1 = true := code_word (m := ⟨11, 1⟩) (meth := k11m1) (c := k11c1) (by decide +kernel) rfl rfl rfl (by decide +kernel)
set_option maxRecDepth 65536 in
theorem w_c7 : (Jvm.Cond.code ({ cls := "com/example/stowline/stowline/VolumeBound", name := "add", desc := "([J)V" } : Jvm.MethodName) prog_29_method_3_code (5 : Nat) (Option.none : Option Jvm.ClassFile.FieldType)).before args0 about1 = true := code_word (m := ⟨3, 1⟩) (meth := k3m1) (c := k3c1) (by decide +kernel) rfl rfl rfl (by decide +kernel)
set_option maxRecDepth 65536 in
theorem w_c8 : (Jvm.Cond.code ({ cls := "com/example/stowline/stowline/VolumeBound", name := "checkSizes", desc := "([J)V" } : Jvm.MethodName) prog_29_method_10_code (2 : Nat) (Option.none : Option Jvm.ClassFile.FieldType)).before args0 about1 = true := code_word (m := ⟨3, 4⟩) (meth := k3m4) (c := k3c4) (by decide +kernel) rfl rfl rfl (by decide +kernel)
set_option maxRecDepth 65536 in
theorem w_c9 : (Jvm.Cond.code ({ cls := "com/example/stowline/stowline/Capacities", name := "checkSizes", desc := "([J[J)V" } : Jvm.MethodName) prog_4_method_3_code (3 : Nat) (Option.none : Option Jvm.ClassFile.FieldType)).before args0 about1 = true := code_word (m := ⟨4, 2⟩) (meth := k4m2) (c := k4c2) (by decide +kernel) rfl rfl rfl (by decide +kernel)
set_option maxRecDepth 65536 in
theorem w_c10 : (Jvm.Cond.code ({ cls := "com/example/stowline/stowline/VolumeBound", name := "copyTotals", desc := "([J[JI)V" } : Jvm.MethodName) prog_29_method_9_code (4 : Nat) (Option.none : Option Jvm.ClassFile.FieldType)).before args0 about1 = true := code_word (m := ⟨3, 3⟩) (meth := k3m3) (c := k3c3) (by decide +kernel) rfl rfl rfl (by decide +kernel)
set_option maxRecDepth 65536 in
theorem w_c11 : (Jvm.Cond.code ({ cls := "com/example/stowline/stowline/VolumeBoundCopyTotalsPinLaw", name := "check", desc := "(JJJIJJ)Z" } : Jvm.MethodName) method_4_code (13 : Nat) (Option.some Jvm.ClassFile.FieldType.boolean)).before args0 about1 = true := code_word (m := ⟨1, 3⟩) (meth := k1m3) (c := k1c3) (by decide +kernel) rfl rfl rfl (by decide +kernel)
set_option maxRecDepth 65536 in
theorem w_c12 : (Jvm.Cond.code ({ cls := "com/example/stowline/stowline/VolumeBoundCopyTotalsPinLaw", name := "untouched", desc := "([J[JIII)Z" } : Jvm.MethodName) method_5_code (5 : Nat) (Option.some Jvm.ClassFile.FieldType.boolean)).before args0 about1 = true := code_word (m := ⟨1, 4⟩) (meth := k1m4) (c := k1c4) (by decide +kernel) rfl rfl rfl (by decide +kernel)
set_option maxRecDepth 65536 in
theorem w_c13 : (Jvm.Cond.code ({ cls := "com/example/stowline/stowline/VolumeBound", name := "remove", desc := "([J)V" } : Jvm.MethodName) prog_29_method_4_code (3 : Nat) (Option.none : Option Jvm.ClassFile.FieldType)).before args0 about1 = true := code_word (m := ⟨3, 2⟩) (meth := k3m2) (c := k3c2) (by decide +kernel) rfl rfl rfl (by decide +kernel)
def codes1 : List Jvm.Cond := [Jvm.Cond.code x code maxLocals ret, Jvm.Cond.code ({ cls := "java/lang/Math", name := "max", desc := "(JJ)J" } : Jvm.MethodName) jdk_29_method_66_code (4 : Nat) (Option.some Jvm.ClassFile.FieldType.long), Jvm.Cond.code ({ cls := "com/example/stowline/stowline/VolumeBoundCopyTotalsPinLaw", name := "size", desc := "(JJ)J" } : Jvm.MethodName) method_3_code (6 : Nat) (Option.some Jvm.ClassFile.FieldType.long), Jvm.Cond.code ({ cls := "com/example/stowline/stowline/VolumeBound", name := "<init>", desc := "([J)V" } : Jvm.MethodName) prog_29_method_1_code (2 : Nat) (Option.none : Option Jvm.ClassFile.FieldType), Jvm.Cond.code ({ cls := "java/lang/Object", name := "<init>", desc := "()V" } : Jvm.MethodName) object_method_1_code (1 : Nat) (Option.none : Option Jvm.ClassFile.FieldType), Jvm.Cond.code ({ cls := "com/example/stowline/stowline/Capacities", name := "checkedCopy", desc := "([J)[J" } : Jvm.MethodName) prog_4_method_2_code (2 : Nat) (Option.some (Jvm.ClassFile.FieldType.array Jvm.ClassFile.FieldType.long)), Jvm.Cond.code ({ cls := "java/util/Objects", name := "requireNonNull", desc := "(Ljava/lang/Object;Ljava/lang/String;)Ljava/lang/Object;" } : Jvm.MethodName) jdk_31_method_11_code (2 : Nat) (Option.some (Jvm.ClassFile.FieldType.object "java/lang/Object")), Jvm.Cond.code ({ cls := "com/example/stowline/stowline/VolumeBound", name := "add", desc := "([J)V" } : Jvm.MethodName) prog_29_method_3_code (5 : Nat) (Option.none : Option Jvm.ClassFile.FieldType), Jvm.Cond.code ({ cls := "com/example/stowline/stowline/VolumeBound", name := "checkSizes", desc := "([J)V" } : Jvm.MethodName) prog_29_method_10_code (2 : Nat) (Option.none : Option Jvm.ClassFile.FieldType), Jvm.Cond.code ({ cls := "com/example/stowline/stowline/Capacities", name := "checkSizes", desc := "([J[J)V" } : Jvm.MethodName) prog_4_method_3_code (3 : Nat) (Option.none : Option Jvm.ClassFile.FieldType), Jvm.Cond.code ({ cls := "com/example/stowline/stowline/VolumeBound", name := "copyTotals", desc := "([J[JI)V" } : Jvm.MethodName) prog_29_method_9_code (4 : Nat) (Option.none : Option Jvm.ClassFile.FieldType), Jvm.Cond.code ({ cls := "com/example/stowline/stowline/VolumeBoundCopyTotalsPinLaw", name := "check", desc := "(JJJIJJ)Z" } : Jvm.MethodName) method_4_code (13 : Nat) (Option.some Jvm.ClassFile.FieldType.boolean), Jvm.Cond.code ({ cls := "com/example/stowline/stowline/VolumeBoundCopyTotalsPinLaw", name := "untouched", desc := "([J[JIII)Z" } : Jvm.MethodName) method_5_code (5 : Nat) (Option.some Jvm.ClassFile.FieldType.boolean), Jvm.Cond.code ({ cls := "com/example/stowline/stowline/VolumeBound", name := "remove", desc := "([J)V" } : Jvm.MethodName) prog_29_method_4_code (3 : Nat) (Option.none : Option Jvm.ClassFile.FieldType)]
set_option maxRecDepth 65536 in
theorem codes_eq : words1.filter isCode = codes1 := rfl
theorem w_codes : ∀ c ∈ words1.filter isCode, c.before args0 about1 = true := by
  rw [codes_eq]
  intro c hc
  simp only [codes1, List.mem_cons, List.not_mem_nil, or_false] at hc
  rcases hc with rfl | rfl | rfl | rfl | rfl | rfl | rfl | rfl | rfl | rfl | rfl | rfl | rfl | rfl
  · exact w_c0
  · exact w_c1
  · exact w_c2
  · exact w_c3
  · exact w_c4
  · exact w_c5
  · exact w_c6
  · exact w_c7
  · exact w_c8
  · exact w_c9
  · exact w_c10
  · exact w_c11
  · exact w_c12
  · exact w_c13
set_option maxRecDepth 65536 in
theorem w_t1 : (words1.take 24).all (fun c => isCode c || c.before args0 about1) = true := by decide +kernel
set_option maxRecDepth 65536 in
theorem w_t2 : ((words1.drop 24).take 24).all (fun c => isCode c || c.before args0 about1) = true := by decide +kernel
set_option maxRecDepth 65536 in
theorem w_t3 : (((words1.drop 24).drop 24).take 24).all (fun c => isCode c || c.before args0 about1) = true := by decide +kernel
set_option maxRecDepth 65536 in
theorem w_t4 : (((words1.drop 24).drop 24).drop 24).all (fun c => isCode c || c.before args0 about1) = true := by decide +kernel
theorem w_tables : (allAtoms (Jvm.Cond.code x code maxLocals ret :: tables_1)).before args0 about1 = true := by
  rw [allAtoms_all]
  show words1.all (fun c => c.before args0 about1) = true
  refine all_split ?_ w_codes
  rw [← List.take_append_drop 24 words1, List.all_append, w_t1, ← List.take_append_drop 24 (words1.drop 24), List.all_append, w_t2, ← List.take_append_drop 24 ((words1.drop 24).drop 24), List.all_append, w_t3, w_t4]
  rfl
set_option maxRecDepth 65536 in
theorem w_case : (Jvm.Cond.and given_1 narrow_1).before args0 about1 = true := by decide +kernel
theorem w_applies : (headSpec (Jvm.Cond.code x code maxLocals ret :: tables_1) room_1).applies x e0.platform about1 = true :=
  (Spec.applies_iff w_frames).mpr ⟨w_running, w_runnable, w_alone, w_named, w_hears, w_ripe, w_room, w_tables⟩
theorem atStart : AtStart classFile x code maxLocals ret World_1 tables_1 room_1 Calls_1 rest_1 Pre_1 launch0 p0 e0 about1 theMethod args0 below0 :=
  ⟨lists_1, trivial, launch0.admits_env _ _ _, launch0.least_env, fairChoices_fair.cas, fairChoices_fair.clock, w_frames, w_args, w_heap, w_applies, trivial, trivial, w_case⟩
end start1
theorem witness_1 : WitnessClaimed_1 := ⟨start1.p0, start1.e0, start1.about1, start1.theMethod, start1.args0, start1.below0, start1.atStart⟩
end Jvm.Pilot.@@N@@
