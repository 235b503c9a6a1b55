import JvmDerived
import JvmDerived.Pilot.@@N@@Statement
import JvmDerived.Pilot.@@N@@Code
set_option linter.unusedVariables false
set_option linter.unusedSimpArgs false
@@BLOCK:NumsL.lean.txt@@
namespace Jvm.Pilot.@@N@@
open Jvm Jvm.ClassFile Sem Op Lib Jvm.Free Jvm.Stand Jvm.LawKit Jvm.RoadKit Bundle Jvm.Pilot.@@N@@.Jvm.D
theorem own_m {Z : State} {aw : Array Value} (hw : ∀ d ∈ tables_1, d.before aw Z = true) (i : Nat) {d : Jvm.Cond} (h : tables_1[i]? = some d) : d.before aw Z = true := hw d (List.mem_of_getElem? h)
theorem own_hk {α : Type} {k : Nat} {a b : Array α} (x : k ≤ b.size) (e : a = b) : k ≤ a.size := e ▸ x
theorem own_tnc (x : Int32) : x.toNatClampNeg = x.toInt.toNat := rfl
theorem own_lc (x y : Int64) : lcmpW x y = if x > y then 1 else if x = y then 0 else -1 := rfl
theorem own_lt (x y : Int64) : lcmpW x y < 0 ↔ x < y := by
  rw [own_lc]; split
  · rename_i h; exact ⟨fun q => absurd q (by decide), fun q => absurd h (Int64.lt_asymm q)⟩
  · split
    · rename_i h1 h2; subst h2; exact ⟨fun q => absurd q (by decide), fun q => absurd q Int64.lt_irrefl⟩
    · rename_i h1 h2; exact ⟨fun _ => (Int64.lt_or_lt_of_ne h2).resolve_right h1, fun _ => by decide⟩
theorem own_gt (x y : Int64) : 0 < lcmpW x y ↔ y < x := by
  rw [own_lc]; split
  · rename_i h; exact ⟨fun _ => h, fun _ => by decide⟩
  · split
    · rename_i h1 h2; exact ⟨fun q => absurd q (by decide), fun q => absurd q h1⟩
    · rename_i h1 h2; exact ⟨fun q => absurd q (by decide), fun q => absurd q h1⟩
theorem own_eq (x y : Int64) : lcmpW x y = 0 ↔ x = y := by
  rw [own_lc]; split
  · rename_i h; exact ⟨fun q => absurd q (by decide), fun q => absurd (q ▸ h) Int64.lt_irrefl⟩
  · split
    · rename_i h1 h2; exact ⟨fun _ => h2, fun _ => rfl⟩
    · rename_i h1 h2; exact ⟨fun q => absurd q (by decide), fun q => absurd q h2⟩
theorem d6_0 : decode jdk_31_method_11_code 0 = .ok (.aload_n 0, 1) := by decide +kernel
theorem d6_1 : decode jdk_31_method_11_code 1 = .ok (.ifnonnull 12, 3) := by decide +kernel
theorem d6_13 : decode jdk_31_method_11_code 13 = .ok (.aload_n 0, 1) := by decide +kernel
theorem d6_14 : decode jdk_31_method_11_code 14 = .ok (.areturn, 1) := by decide +kernel
theorem pn_1 : plainName "java/util/Objects" = true := by first | (simp [plainName, overriddenIn]; done) | decide +kernel
theorem ef6 (m : MethodId) (x0 : Addr) (x1 : Addr) : entryFrame m #[(.ref x0), (.ref x1)] 2 = mkF m 0 #[.val (.ref x0), .val (.ref x1)] [] := by first | (simp [entryFrame, mkF, argsToLocals, Value.category]; done) | rfl
abbrev rr6 : Room := { frames := 0, cells := 0, slots := 0, locals := 0 }
def Q6 (Z : State) (a0 : Addr) (a1 : Addr) (h0 : Heap) (n0 : Nat) (v : Option Value) (h : Heap) (L : List Loc) : Prop := v = some (.ref a0) ∧ Fr n0 L ∧ h = h0
set_option maxRecDepth 65536 in
set_option maxHeartbeats 40000000 in
theorem rm6 (l : Launch) (Z : State) (aw : Array Value) (hw : ∀ d ∈ tables_1, d.before aw Z = true) (ws : List Jvm.Cond) (a0 : Addr) (a1 : Addr) (h0 : Heap) (n0 : Nat) (Z0 : n0 ≤ h0.size)  :
    MetFree l (⟨"java/util/Objects", "requireNonNull", "(Ljava/lang/Object;Ljava/lang/String;)Ljava/lang/Object;"⟩ : MethodName) (head1 (Jvm.Cond.code (⟨"java/util/Objects", "requireNonNull", "(Ljava/lang/Object;Ljava/lang/String;)Ljava/lang/Object;"⟩ : MethodName) jdk_31_method_11_code 2 (some (.object "java/lang/Object")) :: ws) rr6) (fun a U => a = #[(.ref a0), (.ref a1)] ∧ Z.Warmed39 U.vm ∧ U.heap = h0) (fun _ _ _ _ _ => True) (fun _ U o U' => ∃ v L, o = .returned v ∧ Q6 Z a0 a1 h0 n0 v U'.heap L ∧ FrameEnd U o U' L rr6.cells rr6.slots) := by
  refine MetFree.of_bodySF (plainFor_of_name pn_1) hisR ?_
  intro p e s m args below meth c s₁ Bd hml0 hP hK
  obtain ⟨rfl, hZ, hh⟩ := hP
  have hx := Bd.exec
  have hby := Bd.bytes
  have hml : c.maxLocals = 2 := hml0
  have hown : s.vm.findClass "java/util/Objects" = some m.cls := findClass_of_methodNamed Bd.named
  have hnm := (name_of_methodNamed Bd.named Bd.method).1
  have X0 : Stand p l e rr6 s m #[(.ref a0), (.ref a1)] below meth c s₁ [] 0 0 := Stand.of_body Bd
  have e0 : s₁.heap = h0 := by rw [← hh, Bd.state]; rfl
  have N0 := Fr.nil n0
  have pre0 : ∀ t, Steps p.tables e below (s₁.setTop (mkF m 0 #[.val (.ref a0), .val (.ref a1)] [])) t → Steps p.tables e below (s₁.setTop (entryFrame m #[(.ref a0), (.ref a1)] 2)) t := fun t k => castTop (ef6 m a0 a1) k
  obtain ⟨fs, hr, hrun, hended, hW, hsame⟩ := X0.leave (v := some (.ref a0)) (fun h => by rw [Bd.returns] at h; cases h)
  refine ⟨_, _, pre0 _ ?_, hrun, hended, _, _, rfl, ?_, ⟨_, rfl⟩, hW, hsame.mono (by decide) (by decide)⟩
  · skip
    show Steps p.tables e below (s₁.setTop (mkF m 0 #[.val (.ref a0), .val (.ref a1)] [])) _
    refine XS.aloadN X0.here hx rfl (hb hby d6_0) rfl rfl ?_
    show Steps p.tables e below (s₁.setTop (mkF m 1 #[.val (.ref a0), .val (.ref a1)] [(.ref a0)])) _
    refine XS.ifnonnullYes X0.here hx rfl (pc0 := 1) (pc' := 13) rfl (hb hby d6_1) rfl (by decide) (by decide) ?_
    show Steps p.tables e below (s₁.setTop (mkF m 13 #[.val (.ref a0), .val (.ref a1)] [])) _
    refine XS.aloadN X0.here hx rfl (hb hby d6_13) rfl rfl ?_
    show Steps p.tables e below (s₁.setTop (mkF m 14 #[.val (.ref a0), .val (.ref a1)] [(.ref a0)])) _
    exact retOut X0 hx Bd.returns rfl (Or.inr (Or.inr (Or.inr (Or.inr ⟨rfl, rfl, rfl⟩)))) (hb hby d6_14) hr
  · show Q6 Z a0 a1 h0 n0 _ s₁.heap _
    rw [e0]
    exact ⟨rfl, N0, rfl⟩
theorem d11_0 : decode jdk_29_method_66_code 0 = .ok (.lload_n 0, 1) := by decide +kernel
theorem d11_1 : decode jdk_29_method_66_code 1 = .ok (.lload_n 2, 1) := by decide +kernel
theorem d11_2 : decode jdk_29_method_66_code 2 = .ok (.lcmp, 1) := by decide +kernel
theorem d11_3 : decode jdk_29_method_66_code 3 = .ok (.ifCond .lt 7, 3) := by decide +kernel
theorem d11_10 : decode jdk_29_method_66_code 10 = .ok (.lload_n 2, 1) := by decide +kernel
theorem d11_6 : decode jdk_29_method_66_code 6 = .ok (.lload_n 0, 1) := by decide +kernel
theorem d11_7 : decode jdk_29_method_66_code 7 = .ok (.goto 4, 3) := by decide +kernel
theorem d11_11 : decode jdk_29_method_66_code 11 = .ok (.lreturn, 1) := by decide +kernel
def j11_0 (q0 : Int64) (q1 : Int64) : Int64 := (if q0 < q1 then q1 else q0)
theorem ef11 (m : MethodId) (x0 : Int64) (x1 : Int64) : entryFrame m #[(.long x0), (.long x1)] 4 = mkF m 0 #[.val (.long x0), .second, .val (.long x1), .second] [] := by first | (simp [entryFrame, mkF, argsToLocals, Value.category]; done) | rfl
abbrev rr11 : Room := { frames := 0, cells := 0, slots := 0, locals := 0 }
def Q11 (Z : State) (q0 : Int64) (q1 : Int64) (h0 : Heap) (n0 : Nat) (v : Option Value) (h : Heap) (L : List Loc) : Prop := v = some (.long (j11_0 q0 q1)) ∧ Fr n0 L ∧ h = h0
set_option maxRecDepth 65536 in
set_option maxHeartbeats 40000000 in
theorem rm11 (l : Launch) (Z : State) (aw : Array Value) (hw : ∀ d ∈ tables_1, d.before aw Z = true) (ws : List Jvm.Cond) (q0 : Int64) (q1 : Int64) (h0 : Heap) (n0 : Nat) (Z0 : n0 ≤ h0.size)  :
    MetFree l (⟨"java/lang/Math", "max", "(JJ)J"⟩ : MethodName) (head1 (Jvm.Cond.code (⟨"java/lang/Math", "max", "(JJ)J"⟩ : MethodName) jdk_29_method_66_code 4 (some .long) :: ws) rr11) (fun a U => a = #[(.long q0), (.long q1)] ∧ Z.Warmed39 U.vm ∧ U.heap = h0) (fun _ _ _ _ _ => True) (fun _ U o U' => ∃ v L, o = .returned v ∧ Q11 Z q0 q1 h0 n0 v U'.heap L ∧ FrameEnd U o U' L rr11.cells rr11.slots) := by
  refine MetFree.of_bodySF (Jvm.Free.JP.mathPlain rfl (by decide +kernel)) hisR ?_
  intro p e s m args below meth c s₁ Bd hml0 hP hK
  obtain ⟨rfl, hZ, hh⟩ := hP
  have hx := Bd.exec
  have hby := Bd.bytes
  have hml : c.maxLocals = 4 := hml0
  have hown : s.vm.findClass "java/lang/Math" = some m.cls := findClass_of_methodNamed Bd.named
  have hnm := (name_of_methodNamed Bd.named Bd.method).1
  have X0 : Stand p l e rr11 s m #[(.long q0), (.long q1)] below meth c s₁ [] 0 0 := Stand.of_body Bd
  have e0 : s₁.heap = h0 := by rw [← hh, Bd.state]; rfl
  have N0 := Fr.nil n0
  have pre0 : ∀ t, Steps p.tables e below (s₁.setTop (mkF m 0 #[.val (.long q0), .second, .val (.long q1), .second] [])) t → Steps p.tables e below (s₁.setTop (entryFrame m #[(.long q0), (.long q1)] 4)) t := fun t k => castTop (ef11 m q0 q1) k
  have pre1 := fun (t : State) (k : Steps p.tables e below (s₁.setTop (mkF m 3 #[.val (.long q0), .second, .val (.long q1), .second] [(.int (lcmpW q0 q1))])) t) => pre0 t (by
    show Steps p.tables e below (s₁.setTop (mkF m 0 #[.val (.long q0), .second, .val (.long q1), .second] [])) _
    refine XS.lloadN X0.here hx rfl (hb hby d11_0) rfl ?_
    show Steps p.tables e below (s₁.setTop (mkF m 1 #[.val (.long q0), .second, .val (.long q1), .second] [(.long q0)])) _
    refine XS.lloadN X0.here hx rfl (hb hby d11_1) rfl ?_
    show Steps p.tables e below (s₁.setTop (mkF m 2 #[.val (.long q0), .second, .val (.long q1), .second] [(.long q1), (.long q0)])) _
    refine XS.lcmp X0.here hx rfl (hb hby d11_2) rfl ?_
    exact k)
  have pre2 := fun (t : State) (k : Steps p.tables e below (s₁.setTop (mkF m 11 #[.val (.long q0), .second, .val (.long q1), .second] [(.long (j11_0 q0 q1))])) t) => pre1 t (by
    by_cases hc3 : q0 < q1
    · skip
      show Steps p.tables e below (s₁.setTop (mkF m 3 #[.val (.long q0), .second, .val (.long q1), .second] [(.int (lcmpW q0 q1))])) _
      refine XS.ifYes X0.here hx rfl (pc0 := 3) (pc' := 10) rfl (hb hby d11_3) rfl ((if0 _ _).trans (tlt ((own_lt q0 q1).mpr hc3)).1) (by decide) (by decide) ?_
      show Steps p.tables e below (s₁.setTop (mkF m 10 #[.val (.long q0), .second, .val (.long q1), .second] [])) _
      refine XS.lloadN X0.here hx rfl (hb hby d11_10) rfl ?_
      have hj4 : (j11_0 q0 q1) = q1 := by unfold j11_0; first | (rw [if_pos hc3]) | (simp only [if_pos hc3])
      rw [hj4] at k
      exact k
    · skip
      show Steps p.tables e below (s₁.setTop (mkF m 3 #[.val (.long q0), .second, .val (.long q1), .second] [(.int (lcmpW q0 q1))])) _
      refine XS.ifNo X0.here hx rfl (hb hby d11_3) rfl ((if0 _ _).trans (flt (mt (own_lt q0 q1).mp hc3)).1) ?_
      show Steps p.tables e below (s₁.setTop (mkF m 6 #[.val (.long q0), .second, .val (.long q1), .second] [])) _
      refine XS.lloadN X0.here hx rfl (hb hby d11_6) rfl ?_
      show Steps p.tables e below (s₁.setTop (mkF m 7 #[.val (.long q0), .second, .val (.long q1), .second] [(.long q0)])) _
      refine XS.goto X0.here hx rfl (pc0 := 7) (pc' := 11) rfl (hb hby d11_7) (by decide) (by decide) ?_
      have hj5 : (j11_0 q0 q1) = q0 := by unfold j11_0; first | (rw [if_neg hc3]) | (simp only [if_neg hc3])
      rw [hj5] at k
      exact k)
  obtain ⟨fs, hr, hrun, hended, hW, hsame⟩ := X0.leave (v := some (.long (j11_0 q0 q1))) (fun h => by rw [Bd.returns] at h; cases h)
  refine ⟨_, _, pre2 _ ?_, hrun, hended, _, _, rfl, ?_, ⟨_, rfl⟩, hW, hsame.mono (by decide) (by decide)⟩
  · skip
    show Steps p.tables e below (s₁.setTop (mkF m 11 #[.val (.long q0), .second, .val (.long q1), .second] [(.long (j11_0 q0 q1))])) _
    exact retOut X0 hx Bd.returns rfl (Or.inr (Or.inl ⟨rfl, rfl, _, rfl⟩)) (hb hby d11_11) hr
  · show Q11 Z q0 q1 h0 n0 _ s₁.heap _
    rw [e0]
    exact ⟨rfl, N0, rfl⟩
theorem d5_0 : decode prog_4_method_2_code 0 = .ok (.aload_n 0, 1) := by decide +kernel
theorem d5_1 : decode prog_4_method_2_code 1 = .ok (.ldc 7, 2) := by decide +kernel
theorem pd_1 : parseMethodDescriptor "(Ljava/lang/Object;Ljava/lang/String;)Ljava/lang/Object;" = some ⟨[(.object "java/lang/Object"), (.object "java/lang/String")], some (.object "java/lang/Object")⟩ := by decide +kernel
theorem d5_3 : decode prog_4_method_2_code 3 = .ok (.invokestatic 9, 3) := by decide +kernel
theorem d5_6 : decode prog_4_method_2_code 6 = .ok (.pop, 1) := by decide +kernel
theorem d5_7 : decode prog_4_method_2_code 7 = .ok (.aload_n 0, 1) := by decide +kernel
theorem d5_8 : decode prog_4_method_2_code 8 = .ok (.arraylength, 1) := by decide +kernel
theorem d5_9 : decode prog_4_method_2_code 9 = .ok (.ifCond .ne 13, 3) := by decide +kernel
theorem d5_22 : decode prog_4_method_2_code 22 = .ok (.iconst 0, 1) := by decide +kernel
theorem d5_23 : decode prog_4_method_2_code 23 = .ok (.istore_n 1, 1) := by decide +kernel
theorem d5_24 : decode prog_4_method_2_code 24 = .ok (.iload_n 1, 1) := by decide +kernel
theorem d5_25 : decode prog_4_method_2_code 25 = .ok (.aload_n 0, 1) := by decide +kernel
theorem d5_26 : decode prog_4_method_2_code 26 = .ok (.arraylength, 1) := by decide +kernel
theorem d5_27 : decode prog_4_method_2_code 27 = .ok (.if_icmp .ge 34, 3) := by decide +kernel
theorem d5_30 : decode prog_4_method_2_code 30 = .ok (.aload_n 0, 1) := by decide +kernel
theorem d5_31 : decode prog_4_method_2_code 31 = .ok (.iload_n 1, 1) := by decide +kernel
theorem d5_32 : decode prog_4_method_2_code 32 = .ok (.laload, 1) := by decide +kernel
theorem d5_33 : decode prog_4_method_2_code 33 = .ok (.lconst 1, 1) := by decide +kernel
theorem d5_34 : decode prog_4_method_2_code 34 = .ok (.lcmp, 1) := by decide +kernel
theorem d5_35 : decode prog_4_method_2_code 35 = .ok (.ifCond .ge 20, 3) := by decide +kernel
theorem d5_55 : decode prog_4_method_2_code 55 = .ok (.iinc 1 1, 3) := by decide +kernel
theorem d5_58 : decode prog_4_method_2_code 58 = .ok (.goto (-34), 3) := by decide +kernel
theorem d5_61 : decode prog_4_method_2_code 61 = .ok (.aload_n 0, 1) := by decide +kernel
theorem d5_62 : decode prog_4_method_2_code 62 = .ok (.invokevirtual 26, 3) := by decide +kernel
theorem d5_65 : decode prog_4_method_2_code 65 = .ok (.checkcast 27, 3) := by decide +kernel
theorem d5_68 : decode prog_4_method_2_code 68 = .ok (.areturn, 1) := by decide +kernel
theorem pn_2 : plainName "com/example/stowline/stowline/Capacities" = true := by first | (simp [plainName, overriddenIn]; done) | decide +kernel
theorem ef5_2 (m : MethodId) (x0 : Addr) : entryFrame m #[(.ref x0)] 2 = mkF m 0 #[.val (.ref x0), .unset] [] := by first | (simp [entryFrame, mkF, argsToLocals, Value.category]; done) | rfl
abbrev rr5_2 : Room := { frames := 1, cells := 3, slots := 46, locals := 14 }
def Q5_2 (Z : State) (a0 : Addr) (c0 : Int64) (c1 : Int64) (k_a0 : ClassId) (h0 : Heap) (n0 : Nat) (v : Option Value) (h : Heap) (L : List Loc) : Prop := ∃ (x0 : Addr) (y0 : ClassId), v = some (.ref x0) ∧ Fr n0 L ∧ Keep h0 h [] ∧ n0 ≤ x0 ∧ h0.size ≤ x0 ∧ Arv Z h x0 y0 .long (2 : Int32) [(.long c0), (.long c1)] (.long (0 : Int64)) ∧ Exa Z h x0 "[J"
set_option maxRecDepth 65536 in
set_option maxHeartbeats 40000000 in
theorem rm5_2 (l : Launch) (Z : State) (aw : Array Value) (hw : ∀ d ∈ tables_1, d.before aw Z = true) (ws : List Jvm.Cond) (a0 : Addr) (c0 : Int64) (c1 : Int64) (k_a0 : ClassId) (h0 : Heap) (n0 : Nat) (Z0 : n0 ≤ h0.size) (V_a0 : Arv Z h0 a0 k_a0 .long (2 : Int32) [(.long c0), (.long c1)] (.long (0 : Int64))) (E_a0 : Exa Z h0 a0 "[J") (hc0 : ¬ c0 < (1 : Int64)) (hc1 : ¬ c1 < (1 : Int64)) :
    MetFree l (⟨"com/example/stowline/stowline/Capacities", "checkedCopy", "([J)[J"⟩ : MethodName) (head1 (Jvm.Cond.code (⟨"com/example/stowline/stowline/Capacities", "checkedCopy", "([J)[J"⟩ : MethodName) prog_4_method_2_code 2 (some (.array .long)) :: ws) rr5_2) (fun a U => a = #[(.ref a0)] ∧ Z.Warmed39 U.vm ∧ U.heap = h0) (fun _ _ _ _ _ => True) (fun _ U o U' => ∃ v L, o = .returned v ∧ Q5_2 Z a0 c0 c1 k_a0 h0 n0 v U'.heap L ∧ ReturnedEndW U o U' L rr5_2.cells rr5_2.slots) := by
  refine MetFree.of_bodySF (plainFor_of_name pn_2) hisR ?_
  intro p e s m args below meth c s₁ Bd hml0 hP hK
  obtain ⟨rfl, hZ, hh⟩ := hP
  have hx := Bd.exec
  have hby := Bd.bytes
  have hml : c.maxLocals = 2 := hml0
  have hown : s.vm.findClass "com/example/stowline/stowline/Capacities" = some m.cls := findClass_of_methodNamed Bd.named
  have hnm := (name_of_methodNamed Bd.named Bd.method).1
  have X0 : Stand p l e rr5_2 (s.setVm s.vm) m #[(.ref a0)] below meth c s₁ [] 0 0 := Stand.of_body Bd
  have e0 : s₁.heap = h0 := by rw [← hh, Bd.state]; rfl
  have N0 := Fr.nil n0
  have K0 := Keep.refl h0 []
  have hS : s.Since s.vm 0 := (State.WarmedH.refl s).since 0
  have hk : 0 ≤ h0.size := Nat.zero_le _
  have hstr : ∀ a ∈ Bundle.stringAtoms, a.before aw Z = true := fun d hd => hw d ((by decide +kernel : ∀ d ∈ Bundle.stringAtoms, d ∈ tables_1) d hd)
  have pre0 : ∀ t, Steps p.tables e below (s₁.setTop (mkF m 0 #[.val (.ref a0), .unset] [])) t → Steps p.tables e below (s₁.setTop (entryFrame m #[(.ref a0)] 2)) t := fun t k => castTop (ef5_2 m a0) k
  have pre6 := fun (t : State) (k : Steps p.tables e below (s₁.setTop (mkF m 1 #[.val (.ref a0), .unset] [(.ref a0)])) t) => pre0 t (by
    show Steps p.tables e below (s₁.setTop (mkF m 0 #[.val (.ref a0), .unset] [])) _
    refine XS.aloadN X0.here hx rfl (hb hby d5_0) rfl rfl ?_
    exact k)
  obtain ⟨a7, T7, h7, k7, X7, e7, E7, hS, hk, hZ, hown, st7⟩ := ldcS X0 hx hZ hown (hw _ (List.mem_of_getElem? (i := 22) rfl)) hstr e0 hS hk (g := (mkF m 1 #[.val (.ref a0), .unset] [(.ref a0)])) rfl (hb hby d5_1) (n := 40) (by decide) (by decide) (by decide) (by decide)
  have f8 := V_a0.ext E7
  have f9 := E_a0.ext E7
  have K10 := K0.ext E7
  have Z11 := Nat.le_trans Z0 E7.1
  obtain ⟨_, _, ⟨T12, L12, k12, n12⟩, -, X12, ⟨Lc12, hQ12, l12, y12, z12⟩, st12⟩ := Jvm.LawKit.callS X7 hx (y := (⟨"java/util/Objects", "requireNonNull", "(Ljava/lang/Object;Ljava/lang/String;)Ljava/lang/Object;"⟩ : MethodName)) hown (mvT hZ (hw _ (List.mem_of_getElem? (i := 30) rfl))) (mvT hZ (hw _ (List.mem_of_getElem? (i := 31) rfl))) (mvT hZ (hw _ (List.mem_of_getElem? (i := 32) rfl))) (mvT hZ (hw _ (List.mem_of_getElem? (i := 33) rfl))) (by decide) (backOf (W := 0) (rm6 l Z aw hw [] a0 a7 h7 n0 Z11 ) hZ (hw _ (List.mem_of_getElem? (i := 33) rfl)) (hw _ (List.mem_of_getElem? (i := 32) rfl)) (by decide) (by decide)) (g := (mkF m 3 #[.val (.ref a0), .unset] [(.ref a7), (.ref a0)])) rfl (by rw [hml]; rfl) (argsL := [(.ref a0), (.ref a7)]) (rest := []) (lenOf pd_1 rfl) rfl (by show 2 * 0 + _ ≤ _; exact Nat.le_of_eq rfl) (hb hby d5_3) (fun _ _ => ⟨rfl, e7, (by decide : 2 + 0 ≤ _), (by decide : 44 + 0 ≤ _)⟩)
  dsimp only [Pt.U, Pt.locs, Pt.cells, Pt.slots] at X12 l12 y12 z12 st12 hQ12
  subst l12 y12 z12
  obtain ⟨rfl, N12q, e12⟩ := hQ12
  have N12 := Fr.app N0 N12q
  obtain ⟨cl13, Ar13, q13, S13, M13, H13, G13⟩ := id f8
  obtain ⟨cl14, Ar14, q14, S14, M14, H14, G14⟩ := id f8
  obtain ⟨cl15, Ar15, q15, S15, M15, H15, G15⟩ := id f8
  have hin16 : ¬ ((0 : Int32) < 0 ∨ cl15.slots.size ≤ ((0 : Int32)).toNatClampNeg) := inb_of S15 ⟨by decide, by decide⟩
  have hat17 : cl15.slots[((0 : Int32)).toNatClampNeg]? = some (.long c0) := H15.at hin16 rfl
  obtain ⟨cl18, Ar18, q18, S18, M18, H18, G18⟩ := id f8
  obtain ⟨cl19, Ar19, q19, S19, M19, H19, G19⟩ := id f8
  have hin20 : ¬ ((1 : Int32) < 0 ∨ cl19.slots.size ≤ ((1 : Int32)).toNatClampNeg) := inb_of S19 ⟨by decide, by decide⟩
  have hat21 : cl19.slots[((1 : Int32)).toNatClampNeg]? = some (.long c1) := H19.at hin20 rfl
  obtain ⟨cl22, Ar22, q22, S22, M22, H22, G22⟩ := id f8
  obtain ⟨cl24, Ar24, q24, S24, M24, H24, G24⟩ := id f8
  obtain ⟨T23, h23, X23, e23, E23, A23, B23, st23⟩ := cloneA X12 hx hZ hown (hw _ (List.mem_of_getElem? (i := 34) rfl)) (hw _ (List.mem_of_getElem? (i := 35) rfl)) (hw _ (List.mem_of_getElem? (i := 39) rfl)) (hw _ (List.mem_of_getElem? (i := 37) rfl)) (hw _ (List.mem_of_getElem? (i := 38) rfl)) (hw _ (List.mem_of_getElem? (i := 40) rfl)) e12 Ar24 f9 (fitC_of Ar24 fun i hi v hv => by rw [H24 i hi] at hv; cases hv; exact G24 i hi) (g := (mkF m 62 #[.val (.ref a0), .val (.int (2 : Int32))] [(.ref a0)])) rfl (by rw [hml]; rfl) rfl (hb hby d5_62) (by decide) (W := 0) (cap := 2) (by show 2 * 0 + _ ≤ _; exact Nat.le_of_eq rfl) (by decide) (by rw [S24]; decide) (by decide) (by decide)
  obtain ⟨b23, gg23⟩ : ∃ z, z = h7.size := ⟨_, rfl⟩
  rw [← gg23] at A23 B23 st23
  have f25 := f8.ext E23
  have f26 := f9.ext E23
  have ne27 : a0 ≠ b23 := Nat.ne_of_lt (Nat.lt_of_lt_of_le f8.lt (Nat.le_of_eq gg23.symm))
  have g_b23 : n0 ≤ b23 := Nat.le_trans Z11 (Nat.le_of_eq gg23.symm)
  have sz_b23 : h0.size ≤ b23 := Nat.le_trans K10.1 (Nat.le_of_eq gg23.symm)
  have K28 := K10.ext E23
  have Z29 := Nat.le_trans Z11 E23.1
  have hk := Nat.le_trans hk E23.1
  have V23 : Arv Z h23 b23 k_a0 .long (2 : Int32) [(.long c0), (.long c1)] (.long (0 : Int64)) := ⟨cloneOf cl24, A23, q24, S24, M24, H24, G24⟩
  obtain ⟨T30, X30, e30, st30⟩ := castY X23 hx hZ hown (hw _ (List.mem_of_getElem? (i := 41) rfl)) e23 (Ins.self B23) (g := (mkF m 65 #[.val (.ref a0), .val (.int (2 : Int32))] [(.ref b23)])) rfl rfl (hb hby d5_65)
  obtain ⟨fs, hr, hrun, hended, hRW⟩ := X30.leaveW hS (own_hk hk e30) (v := some (.ref b23)) (fun h => by rw [Bd.returns] at h; cases h)
  refine ⟨_, _, pre6 _ ?_, hrun, hended, _, _, rfl, ?_, hRW.1, hRW.2.1, hRW.2.2.1, hRW.2.2.2.mono (by decide) (by decide)⟩
  · skip
    show Steps p.tables e below (s₁.setTop (mkF m 1 #[.val (.ref a0), .unset] [(.ref a0)])) _
    refine st7 _ ?_
    show Steps p.tables e below (T7.setTop (mkF m 3 #[.val (.ref a0), .unset] [(.ref a7), (.ref a0)])) _
    refine st12 _ ?_
    show Steps p.tables e below (T12.setTop (mkF m 6 #[.val (.ref a0), .unset] [(.ref a0)])) _
    refine XS.pop X12.here hx rfl (hb hby d5_6) rfl rfl ?_
    show Steps p.tables e below (T12.setTop (mkF m 7 #[.val (.ref a0), .unset] [])) _
    refine XS.aloadN X12.here hx rfl (hb hby d5_7) rfl rfl ?_
    show Steps p.tables e below (T12.setTop (mkF m 8 #[.val (.ref a0), .unset] [(.ref a0)])) _
    refine X12.arraylength hx (by rw [e12]; exact Ar13.1) (State.isArrayOf_alike hZ.alike Ar13.2.1) (g := (mkF m 8 #[.val (.ref a0), .unset] [(.ref a0)])) rfl rfl (hb hby d5_8) _ ?_
    rw [len_of S13 M13]
    show Steps p.tables e below (T12.setTop (mkF m 9 #[.val (.ref a0), .unset] [(.int (2 : Int32))])) _
    refine XS.ifYes X12.here hx rfl (pc0 := 9) (pc' := 22) rfl (hb hby d5_9) rfl ((if0 _ _).trans (feq (by decide : ¬ ((2 : Int32) = (0 : Int32)))).2) (by decide) (by decide) ?_
    show Steps p.tables e below (T12.setTop (mkF m 22 #[.val (.ref a0), .unset] [])) _
    refine XS.iconst X12.here hx rfl (hb hby d5_22) ?_
    show Steps p.tables e below (T12.setTop (mkF m 23 #[.val (.ref a0), .unset] [(.int (0 : Int32))])) _
    refine XS.istoreN X12.here hx rfl (hb hby d5_23) rfl (l' := #[.val (.ref a0), .val (.int (0 : Int32))]) rfl ?_
    show Steps p.tables e below (T12.setTop (mkF m 24 #[.val (.ref a0), .val (.int (0 : Int32))] [])) _
    refine XS.iloadN X12.here hx rfl (hb hby d5_24) rfl ?_
    show Steps p.tables e below (T12.setTop (mkF m 25 #[.val (.ref a0), .val (.int (0 : Int32))] [(.int (0 : Int32))])) _
    refine XS.aloadN X12.here hx rfl (hb hby d5_25) rfl rfl ?_
    show Steps p.tables e below (T12.setTop (mkF m 26 #[.val (.ref a0), .val (.int (0 : Int32))] [(.ref a0), (.int (0 : Int32))])) _
    refine X12.arraylength hx (by rw [e12]; exact Ar14.1) (State.isArrayOf_alike hZ.alike Ar14.2.1) (g := (mkF m 26 #[.val (.ref a0), .val (.int (0 : Int32))] [(.ref a0), (.int (0 : Int32))])) rfl rfl (hb hby d5_26) _ ?_
    rw [len_of S14 M14]
    show Steps p.tables e below (T12.setTop (mkF m 27 #[.val (.ref a0), .val (.int (0 : Int32))] [(.int (2 : Int32)), (.int (0 : Int32))])) _
    refine XS.icmpNo X12.here hx rfl (hb hby d5_27) rfl (tlt (by decide : (0 : Int32) < (2 : Int32))).2.1 ?_
    show Steps p.tables e below (T12.setTop (mkF m 30 #[.val (.ref a0), .val (.int (0 : Int32))] [])) _
    refine XS.aloadN X12.here hx rfl (hb hby d5_30) rfl rfl ?_
    show Steps p.tables e below (T12.setTop (mkF m 31 #[.val (.ref a0), .val (.int (0 : Int32))] [(.ref a0)])) _
    refine XS.iloadN X12.here hx rfl (hb hby d5_31) rfl ?_
    show Steps p.tables e below (T12.setTop (mkF m 32 #[.val (.ref a0), .val (.int (0 : Int32))] [(.int (0 : Int32)), (.ref a0)])) _
    refine X12.laload hx (j := (0 : Int32)) (v := (.long c0)) (by rw [e12]; exact Ar15.1) (State.isArrayOf_alike hZ.alike Ar15.2.1) Ar15.2.2 hin16 hat17 (g := (mkF m 32 #[.val (.ref a0), .val (.int (0 : Int32))] [(.int (0 : Int32)), (.ref a0)])) rfl rfl (hb hby d5_32) _ ?_
    show Steps p.tables e below (T12.setTop (mkF m 33 #[.val (.ref a0), .val (.int (0 : Int32))] [(.long c0)])) _
    refine XS.lconst X12.here hx rfl (hb hby d5_33) ?_
    show Steps p.tables e below (T12.setTop (mkF m 34 #[.val (.ref a0), .val (.int (0 : Int32))] [(.long (1 : Int64)), (.long c0)])) _
    refine XS.lcmp X12.here hx rfl (hb hby d5_34) rfl ?_
    show Steps p.tables e below (T12.setTop (mkF m 35 #[.val (.ref a0), .val (.int (0 : Int32))] [(.int (lcmpW c0 (1 : Int64)))])) _
    refine XS.ifYes X12.here hx rfl (pc0 := 35) (pc' := 55) rfl (hb hby d5_35) rfl ((if0 _ _).trans (flt (mt (own_lt c0 (1 : Int64)).mp hc0)).2.1) (by decide) (by decide) ?_
    show Steps p.tables e below (T12.setTop (mkF m 55 #[.val (.ref a0), .val (.int (0 : Int32))] [])) _
    refine XS.iinc X12.here hx rfl (hb hby d5_55) rfl (l' := #[.val (.ref a0), .val (.int (1 : Int32))]) rfl ?_
    show Steps p.tables e below (T12.setTop (mkF m 58 #[.val (.ref a0), .val (.int (1 : Int32))] [])) _
    refine XS.goto X12.here hx rfl (pc0 := 58) (pc' := 24) rfl (hb hby d5_58) (by decide) (by decide) ?_
    show Steps p.tables e below (T12.setTop (mkF m 24 #[.val (.ref a0), .val (.int (1 : Int32))] [])) _
    refine XS.iloadN X12.here hx rfl (hb hby d5_24) rfl ?_
    show Steps p.tables e below (T12.setTop (mkF m 25 #[.val (.ref a0), .val (.int (1 : Int32))] [(.int (1 : Int32))])) _
    refine XS.aloadN X12.here hx rfl (hb hby d5_25) rfl rfl ?_
    show Steps p.tables e below (T12.setTop (mkF m 26 #[.val (.ref a0), .val (.int (1 : Int32))] [(.ref a0), (.int (1 : Int32))])) _
    refine X12.arraylength hx (by rw [e12]; exact Ar18.1) (State.isArrayOf_alike hZ.alike Ar18.2.1) (g := (mkF m 26 #[.val (.ref a0), .val (.int (1 : Int32))] [(.ref a0), (.int (1 : Int32))])) rfl rfl (hb hby d5_26) _ ?_
    rw [len_of S18 M18]
    show Steps p.tables e below (T12.setTop (mkF m 27 #[.val (.ref a0), .val (.int (1 : Int32))] [(.int (2 : Int32)), (.int (1 : Int32))])) _
    refine XS.icmpNo X12.here hx rfl (hb hby d5_27) rfl (tlt (by decide : (1 : Int32) < (2 : Int32))).2.1 ?_
    show Steps p.tables e below (T12.setTop (mkF m 30 #[.val (.ref a0), .val (.int (1 : Int32))] [])) _
    refine XS.aloadN X12.here hx rfl (hb hby d5_30) rfl rfl ?_
    show Steps p.tables e below (T12.setTop (mkF m 31 #[.val (.ref a0), .val (.int (1 : Int32))] [(.ref a0)])) _
    refine XS.iloadN X12.here hx rfl (hb hby d5_31) rfl ?_
    show Steps p.tables e below (T12.setTop (mkF m 32 #[.val (.ref a0), .val (.int (1 : Int32))] [(.int (1 : Int32)), (.ref a0)])) _
    refine X12.laload hx (j := (1 : Int32)) (v := (.long c1)) (by rw [e12]; exact Ar19.1) (State.isArrayOf_alike hZ.alike Ar19.2.1) Ar19.2.2 hin20 hat21 (g := (mkF m 32 #[.val (.ref a0), .val (.int (1 : Int32))] [(.int (1 : Int32)), (.ref a0)])) rfl rfl (hb hby d5_32) _ ?_
    show Steps p.tables e below (T12.setTop (mkF m 33 #[.val (.ref a0), .val (.int (1 : Int32))] [(.long c1)])) _
    refine XS.lconst X12.here hx rfl (hb hby d5_33) ?_
    show Steps p.tables e below (T12.setTop (mkF m 34 #[.val (.ref a0), .val (.int (1 : Int32))] [(.long (1 : Int64)), (.long c1)])) _
    refine XS.lcmp X12.here hx rfl (hb hby d5_34) rfl ?_
    show Steps p.tables e below (T12.setTop (mkF m 35 #[.val (.ref a0), .val (.int (1 : Int32))] [(.int (lcmpW c1 (1 : Int64)))])) _
    refine XS.ifYes X12.here hx rfl (pc0 := 35) (pc' := 55) rfl (hb hby d5_35) rfl ((if0 _ _).trans (flt (mt (own_lt c1 (1 : Int64)).mp hc1)).2.1) (by decide) (by decide) ?_
    show Steps p.tables e below (T12.setTop (mkF m 55 #[.val (.ref a0), .val (.int (1 : Int32))] [])) _
    refine XS.iinc X12.here hx rfl (hb hby d5_55) rfl (l' := #[.val (.ref a0), .val (.int (2 : Int32))]) rfl ?_
    show Steps p.tables e below (T12.setTop (mkF m 58 #[.val (.ref a0), .val (.int (2 : Int32))] [])) _
    refine XS.goto X12.here hx rfl (pc0 := 58) (pc' := 24) rfl (hb hby d5_58) (by decide) (by decide) ?_
    show Steps p.tables e below (T12.setTop (mkF m 24 #[.val (.ref a0), .val (.int (2 : Int32))] [])) _
    refine XS.iloadN X12.here hx rfl (hb hby d5_24) rfl ?_
    show Steps p.tables e below (T12.setTop (mkF m 25 #[.val (.ref a0), .val (.int (2 : Int32))] [(.int (2 : Int32))])) _
    refine XS.aloadN X12.here hx rfl (hb hby d5_25) rfl rfl ?_
    show Steps p.tables e below (T12.setTop (mkF m 26 #[.val (.ref a0), .val (.int (2 : Int32))] [(.ref a0), (.int (2 : Int32))])) _
    refine X12.arraylength hx (by rw [e12]; exact Ar22.1) (State.isArrayOf_alike hZ.alike Ar22.2.1) (g := (mkF m 26 #[.val (.ref a0), .val (.int (2 : Int32))] [(.ref a0), (.int (2 : Int32))])) rfl rfl (hb hby d5_26) _ ?_
    rw [len_of S22 M22]
    show Steps p.tables e below (T12.setTop (mkF m 27 #[.val (.ref a0), .val (.int (2 : Int32))] [(.int (2 : Int32)), (.int (2 : Int32))])) _
    refine XS.icmpYes X12.here hx rfl (pc0 := 27) (pc' := 61) rfl (hb hby d5_27) rfl (flt (by decide : ¬ ((2 : Int32) < (2 : Int32)))).2.1 (by decide) (by decide) ?_
    show Steps p.tables e below (T12.setTop (mkF m 61 #[.val (.ref a0), .val (.int (2 : Int32))] [])) _
    refine XS.aloadN X12.here hx rfl (hb hby d5_61) rfl rfl ?_
    show Steps p.tables e below (T12.setTop (mkF m 62 #[.val (.ref a0), .val (.int (2 : Int32))] [(.ref a0)])) _
    refine st23 _ ?_
    show Steps p.tables e below (T23.setTop (mkF m 65 #[.val (.ref a0), .val (.int (2 : Int32))] [(.ref b23)])) _
    refine st30 _ ?_
    show Steps p.tables e below (T30.setTop (mkF m 68 #[.val (.ref a0), .val (.int (2 : Int32))] [(.ref b23)])) _
    exact retOut X30 hx Bd.returns rfl (Or.inr (Or.inr (Or.inr (Or.inr ⟨rfl, rfl, rfl⟩)))) (hb hby d5_68) hr
  · show Q5_2 Z a0 c0 c1 k_a0 h0 n0 _ T30.heap _
    rw [e30]
    exact ⟨b23, k_a0, rfl, N12, K28, g_b23, sz_b23, V23, B23⟩
theorem d3_0 : decode prog_29_method_1_code 0 = .ok (.aload_n 0, 1) := by decide +kernel
theorem d3_1 : decode prog_29_method_1_code 1 = .ok (.invokespecial 1, 3) := by decide +kernel
theorem d3_4 : decode prog_29_method_1_code 4 = .ok (.aload_n 0, 1) := by decide +kernel
theorem d3_5 : decode prog_29_method_1_code 5 = .ok (.aload_n 1, 1) := by decide +kernel
theorem pd_3 : parseMethodDescriptor "([J)[J" = some ⟨[(.array .long)], some (.array .long)⟩ := by decide +kernel
theorem d3_6 : decode prog_29_method_1_code 6 = .ok (.invokestatic 7, 3) := by decide +kernel
theorem d3_9 : decode prog_29_method_1_code 9 = .ok (.putfield 13, 3) := by decide +kernel
theorem d3_12 : decode prog_29_method_1_code 12 = .ok (.aload_n 0, 1) := by decide +kernel
theorem d3_13 : decode prog_29_method_1_code 13 = .ok (.aload_n 1, 1) := by decide +kernel
theorem d3_14 : decode prog_29_method_1_code 14 = .ok (.arraylength, 1) := by decide +kernel
theorem d3_15 : decode prog_29_method_1_code 15 = .ok (.newarray .long, 2) := by decide +kernel
theorem d3_17 : decode prog_29_method_1_code 17 = .ok (.putfield 19, 3) := by decide +kernel
theorem d3_20 : decode prog_29_method_1_code 20 = .ok (.aload_n 0, 1) := by decide +kernel
theorem d3_21 : decode prog_29_method_1_code 21 = .ok (.aload_n 1, 1) := by decide +kernel
theorem d3_22 : decode prog_29_method_1_code 22 = .ok (.arraylength, 1) := by decide +kernel
theorem d3_23 : decode prog_29_method_1_code 23 = .ok (.newarray .long, 2) := by decide +kernel
theorem d3_25 : decode prog_29_method_1_code 25 = .ok (.putfield 22, 3) := by decide +kernel
theorem d3_28 : decode prog_29_method_1_code 28 = .ok (.return_, 1) := by decide +kernel
theorem pn_3 : plainName "com/example/stowline/stowline/VolumeBound" = true := by first | (simp [plainName, overriddenIn]; done) | decide +kernel
theorem ef3_2 (m : MethodId) (x0 : Addr) (x1 : Addr) : entryFrame m #[(.ref x0), (.ref x1)] 2 = mkF m 0 #[.val (.ref x0), .val (.ref x1)] [] := by first | (simp [entryFrame, mkF, argsToLocals, Value.category]; done) | rfl
abbrev rr3_2 : Room := { frames := 2, cells := 5, slots := 50, locals := 28 }
def Q3_2 (Z : State) (a0 : Addr) (a1 : Addr) (c0 : Int64) (c1 : Int64) (k_a1 : ClassId) (h0 : Heap) (n0 : Nat) (v : Option Value) (h : Heap) (L : List Loc) : Prop := ∃ (x0 : Addr) (x1 : Addr) (x2 : Addr) (y0 : ClassId) (y1 : ClassId) (y2 : ClassId), v = none ∧ Fr n0 L ∧ Keep h0 h [a0] ∧ n0 ≤ x0 ∧ h0.size ≤ x0 ∧ n0 ≤ x1 ∧ h0.size ≤ x1 ∧ n0 ≤ x2 ∧ h0.size ≤ x2 ∧ x0 ≠ x1 ∧ x0 ≠ x2 ∧ x1 ≠ x2 ∧ Exa Z h a0 "com/example/stowline/stowline/VolumeBound" ∧ Fld Z h a0 "com/example/stowline/stowline/VolumeBound" "capacities" "[J" (.ref x0) ∧ Fld Z h a0 "com/example/stowline/stowline/VolumeBound" "wholeCapacities" "[J" (.ref x1) ∧ Fld Z h a0 "com/example/stowline/stowline/VolumeBound" "remainders" "[J" (.ref x2) ∧ Arv Z h x0 y0 .long (2 : Int32) [(.long c0), (.long c1)] (.long (0 : Int64)) ∧ Arv Z h x1 y1 .long (2 : Int32) [(.long (0 : Int64)), (.long (0 : Int64))] (.long (0 : Int64)) ∧ Arv Z h x2 y2 .long (2 : Int32) [(.long (0 : Int64)), (.long (0 : Int64))] (.long (0 : Int64))
set_option maxRecDepth 65536 in
set_option maxHeartbeats 40000000 in
theorem rm3_2 (l : Launch) (Z : State) (aw : Array Value) (hw : ∀ d ∈ tables_1, d.before aw Z = true) (ws : List Jvm.Cond) (a0 : Addr) (a1 : Addr) (c0 : Int64) (c1 : Int64) (k_a1 : ClassId) (h0 : Heap) (n0 : Nat) (Z0 : n0 ≤ h0.size) (E_a0 : Exa Z h0 a0 "com/example/stowline/stowline/VolumeBound") (F_capacities_a0 : Fld Z h0 a0 "com/example/stowline/stowline/VolumeBound" "capacities" "[J" .null) (F_wholeCapacities_a0 : Fld Z h0 a0 "com/example/stowline/stowline/VolumeBound" "wholeCapacities" "[J" .null) (F_remainders_a0 : Fld Z h0 a0 "com/example/stowline/stowline/VolumeBound" "remainders" "[J" .null) (V_a1 : Arv Z h0 a1 k_a1 .long (2 : Int32) [(.long c0), (.long c1)] (.long (0 : Int64))) (E_a1 : Exa Z h0 a1 "[J") (g_a0 : n0 ≤ a0) (ne_a0_a1 : a0 ≠ a1) (hc0 : ¬ c0 < (1 : Int64)) (hc1 : ¬ c1 < (1 : Int64)) :
    MetFree l (⟨"com/example/stowline/stowline/VolumeBound", "<init>", "([J)V"⟩ : MethodName) (head1 (Jvm.Cond.code (⟨"com/example/stowline/stowline/VolumeBound", "<init>", "([J)V"⟩ : MethodName) prog_29_method_1_code 2 none :: ws) rr3_2) (fun a U => a = #[(.ref a0), (.ref a1)] ∧ Z.Warmed39 U.vm ∧ U.heap = h0) (fun _ _ _ _ _ => True) (fun _ U o U' => ∃ v L, o = .returned v ∧ Q3_2 Z a0 a1 c0 c1 k_a1 h0 n0 v U'.heap L ∧ ReturnedEndW U o U' L rr3_2.cells rr3_2.slots) := by
  refine MetFree.of_bodySF (plainFor_of_name pn_3) hisR ?_
  intro p e s m args below meth c s₁ Bd hml0 hP hK
  obtain ⟨rfl, hZ, hh⟩ := hP
  have hx := Bd.exec
  have hby := Bd.bytes
  have hml : c.maxLocals = 2 := hml0
  have hown : s.vm.findClass "com/example/stowline/stowline/VolumeBound" = some m.cls := findClass_of_methodNamed Bd.named
  have hnm := (name_of_methodNamed Bd.named Bd.method).1
  have X0 : Stand p l e rr3_2 (s.setVm s.vm) m #[(.ref a0), (.ref a1)] below meth c s₁ [] 0 0 := Stand.of_body Bd
  have e0 : s₁.heap = h0 := by rw [← hh, Bd.state]; rfl
  have N0 := Fr.nil n0
  have K0 := Keep.refl h0 [a0]
  have hS : s.Since s.vm 0 := (State.WarmedH.refl s).since 0
  have hk : 0 ≤ h0.size := Nat.zero_le _
  have hstr : ∀ a ∈ Bundle.stringAtoms, a.before aw Z = true := fun d hd => hw d ((by decide +kernel : ∀ d ∈ Bundle.stringAtoms, d ∈ tables_1) d hd)
  have pre0 : ∀ t, Steps p.tables e below (s₁.setTop (mkF m 0 #[.val (.ref a0), .val (.ref a1)] [])) t → Steps p.tables e below (s₁.setTop (entryFrame m #[(.ref a0), (.ref a1)] 2)) t := fun t k => castTop (ef3_2 m a0 a1) k
  obtain ⟨T31, X31, e31, st31⟩ := initO X0 hx hZ hown (hw _ (List.mem_of_getElem? (i := 15) rfl)) (hw _ (List.mem_of_getElem? (i := 16) rfl)) (hw _ (List.mem_of_getElem? (i := 17) rfl)) e0 (g := (mkF m 1 #[.val (.ref a0), .val (.ref a1)] [(.ref a0)])) rfl (by rw [hml]; rfl) rfl (hb hby d3_1) (by decide) (W := 0) (by show 2 * 0 + _ ≤ _; exact Nat.le_of_eq rfl) (by decide)
  have pre33 := fun (t : State) (k : Steps p.tables e below (T31.setTop (mkF m 6 #[.val (.ref a0), .val (.ref a1)] [(.ref a1), (.ref a0)])) t) => pre0 t (by
    show Steps p.tables e below (s₁.setTop (mkF m 0 #[.val (.ref a0), .val (.ref a1)] [])) _
    refine XS.aloadN X0.here hx rfl (hb hby d3_0) rfl rfl ?_
    show Steps p.tables e below (s₁.setTop (mkF m 1 #[.val (.ref a0), .val (.ref a1)] [(.ref a0)])) _
    refine st31 _ ?_
    show Steps p.tables e below (T31.setTop (mkF m 4 #[.val (.ref a0), .val (.ref a1)] [])) _
    refine XS.aloadN X31.here hx rfl (hb hby d3_4) rfl rfl ?_
    show Steps p.tables e below (T31.setTop (mkF m 5 #[.val (.ref a0), .val (.ref a1)] [(.ref a0)])) _
    refine XS.aloadN X31.here hx rfl (hb hby d3_5) rfl rfl ?_
    exact k)
  obtain ⟨_, _, ⟨T32, L32, k32, n32⟩, -, X32, hSi32, hgr32, ⟨Lc32, hQ32, l32, y32, z32⟩, st32⟩ := Jvm.RoadKit.callSS X31 hx (y := (⟨"com/example/stowline/stowline/Capacities", "checkedCopy", "([J)[J"⟩ : MethodName)) hown (mvT hZ (hw _ (List.mem_of_getElem? (i := 18) rfl))) (mvT hZ (hw _ (List.mem_of_getElem? (i := 19) rfl))) (mvT hZ (hw _ (List.mem_of_getElem? (i := 20) rfl))) (mvT hZ (hw _ (List.mem_of_getElem? (i := 21) rfl))) (by decide) (backOfS (W := 1) (rm5_2 l Z aw hw [] a1 c0 c1 k_a1 h0 n0 Z0 V_a1 E_a1 hc0 hc1) hZ (hw _ (List.mem_of_getElem? (i := 21) rfl)) (hw _ (List.mem_of_getElem? (i := 20) rfl)) (by decide) (by decide)) (g := (mkF m 6 #[.val (.ref a0), .val (.ref a1)] [(.ref a1), (.ref a0)])) rfl (by rw [hml]; rfl) (argsL := [(.ref a1)]) (rest := [(.ref a0)]) (lenOf pd_3 rfl) rfl (by show 2 * 0 + _ ≤ _; exact Nat.le_of_eq rfl) (hb hby d3_6) (fun _ _ => ⟨rfl, e31, (by decide : 0 + 3 ≤ _), (by decide : 0 + 46 ≤ _)⟩)
  dsimp only [Pt.U, Pt.locs, Pt.cells, Pt.slots] at X32 l32 y32 z32 st32 hQ32 hSi32 hgr32
  subst l32 y32 z32
  obtain ⟨X32, hS, hZ, hown⟩ := rebS hS (show _ ≤ T31.heap.size from own_hk hk e31) X32 hSi32 hgr32 hZ hown
  obtain ⟨h32, e32⟩ : ∃ z, T32.heap = z := ⟨_, rfl⟩
  rw [e32] at hQ32
  obtain ⟨cx032, cy032, rfl, N32q, K32q, g_cx032, zz_cx032, f34, f35⟩ := hQ32
  have f36 := E_a0.keep K32q
  have f37 := F_capacities_a0.keep K32q nin0
  have f38 := F_wholeCapacities_a0.keep K32q nin0
  have f39 := F_remainders_a0.keep K32q nin0
  have f40 := V_a1.keep K32q nin0
  have f41 := E_a1.keep K32q
  have ne42 : a0 ≠ cx032 := Nat.ne_of_lt (Nat.lt_of_lt_of_le E_a0.lt zz_cx032)
  have ne43 : a1 ≠ cx032 := Nat.ne_of_lt (Nat.lt_of_lt_of_le V_a1.lt zz_cx032)
  have sz_cx032 : h0.size ≤ cx032 := Nat.le_trans K0.1 zz_cx032
  have K32 := K0.trans K32q all0
  have Z32 := Nat.le_trans Z0 K32q.1
  have hk : T32.heap.size ≤ h32.size := by rw [e32]; exact Nat.le_refl _
  have N32 := Fr.app N0 N32q
  obtain ⟨T44, h44, X44, e44, W44, st44⟩ := putF X32 hx hZ hown (host := "") (Or.inl (hw _ (List.mem_of_getElem? (i := 43) rfl))) Via.refl e32 f37 f36 (Or.inr ⟨(hw _ (List.mem_of_getElem? (i := 44) rfl)), rfl, hnm⟩) (hw _ (List.mem_of_getElem? (i := 10) rfl)) (ty := (.array .long)) (by decide) rfl rfl (g := (mkF m 9 #[.val (.ref a0), .val (.ref a1)] [(.ref cx032), (.ref a0)])) rfl rfl (hb hby d3_9)
  have f44w : Fld Z h44 a0 "com/example/stowline/stowline/VolumeBound" "capacities" "[J" (.ref cx032) := f37.same W44
  have f45 := f36.wr W44
  have f47 := f38.other W44 (Or.inr (slot_ne (Or.inr (hw _ (List.mem_of_getElem? (i := 46) rfl))) (Or.inr (hw _ (List.mem_of_getElem? (i := 44) rfl))) (by decide) (t := (.array .long)) (t' := (.array .long)) (by decide) (by decide)))
  have f48 := f39.other W44 (Or.inr (slot_ne (Or.inr (hw _ (List.mem_of_getElem? (i := 48) rfl))) (Or.inr (hw _ (List.mem_of_getElem? (i := 44) rfl))) (by decide) (t := (.array .long)) (t' := (.array .long)) (by decide) (by decide)))
  have f49 := f40.other W44 (Ne.symm ne_a0_a1)
  have f50 := f41.wr W44
  have f51 := f34.other W44 (Ne.symm ne42)
  have f52 := f35.wr W44
  have K53 := K32.wr W44 (Or.inl (List.mem_of_getElem? (i := 0) rfl))
  have Z54 := Nat.le_trans Z32 (Keep.of_wr W44).1
  have hk := Nat.le_trans hk (Keep.of_wr W44).1
  have N55 := Fr.snoc X44 N32 g_a0
  obtain ⟨cl56, Ar56, q56, S56, M56, H56, G56⟩ := id f49
  obtain ⟨T57, h57, k57, X57, e57, E57, A57, st57⟩ := newP X44 hx hZ (hw _ (List.mem_of_getElem? (i := 8) rfl)) e44 (g := (mkF m 15 #[.val (.ref a0), .val (.ref a1)] [(.int (2 : Int32)), (.ref a0)])) rfl (hb hby d3_15) rfl (by decide) (cap := 2) (by decide) (by decide) (by decide) (by decide)
  obtain ⟨b57, gg57⟩ : ∃ z, z = h44.size := ⟨_, rfl⟩
  rw [← gg57] at A57 st57
  have f58 := f45.ext E57
  have f59 := f44w.ext E57
  have f60 := f47.ext E57
  have f61 := f48.ext E57
  have f62 := f49.ext E57
  have f63 := f50.ext E57
  have f64 := f51.ext E57
  have f65 := f52.ext E57
  have ne66 : a0 ≠ b57 := Nat.ne_of_lt (Nat.lt_of_lt_of_le f45.lt (Nat.le_of_eq gg57.symm))
  have ne67 : a1 ≠ b57 := Nat.ne_of_lt (Nat.lt_of_lt_of_le f49.lt (Nat.le_of_eq gg57.symm))
  have ne68 : cx032 ≠ b57 := Nat.ne_of_lt (Nat.lt_of_lt_of_le f51.lt (Nat.le_of_eq gg57.symm))
  have g_b57 : n0 ≤ b57 := Nat.le_trans Z54 (Nat.le_of_eq gg57.symm)
  have sz_b57 : h0.size ≤ b57 := Nat.le_trans K53.1 (Nat.le_of_eq gg57.symm)
  have K69 := K53.ext E57
  have Z70 := Nat.le_trans Z54 E57.1
  have hk := Nat.le_trans hk E57.1
  have V57 : Arv Z h57 b57 k57 .long (2 : Int32) [(.long (0 : Int64)), (.long (0 : Int64))] (.long (0 : Int64)) := (Arv.new A57 (by decide)).pad (pad_rep [] (.long (0 : Int64)) 2)
  obtain ⟨T71, h71, X71, e71, W71, st71⟩ := putF X57 hx hZ hown (host := "") (Or.inl (hw _ (List.mem_of_getElem? (i := 45) rfl))) Via.refl e57 f60 f58 (Or.inr ⟨(hw _ (List.mem_of_getElem? (i := 46) rfl)), rfl, hnm⟩) (hw _ (List.mem_of_getElem? (i := 10) rfl)) (ty := (.array .long)) (by decide) rfl rfl (g := (mkF m 17 #[.val (.ref a0), .val (.ref a1)] [(.ref b57), (.ref a0)])) rfl rfl (hb hby d3_17)
  have f71w : Fld Z h71 a0 "com/example/stowline/stowline/VolumeBound" "wholeCapacities" "[J" (.ref b57) := f60.same W71
  have f72 := f58.wr W71
  have f73 := f59.other W71 (Or.inr (slot_ne (Or.inr (hw _ (List.mem_of_getElem? (i := 44) rfl))) (Or.inr (hw _ (List.mem_of_getElem? (i := 46) rfl))) (by decide) (t := (.array .long)) (t' := (.array .long)) (by decide) (by decide)))
  have f75 := f61.other W71 (Or.inr (slot_ne (Or.inr (hw _ (List.mem_of_getElem? (i := 48) rfl))) (Or.inr (hw _ (List.mem_of_getElem? (i := 46) rfl))) (by decide) (t := (.array .long)) (t' := (.array .long)) (by decide) (by decide)))
  have f76 := f62.other W71 (Ne.symm ne_a0_a1)
  have f77 := f63.wr W71
  have f78 := f64.other W71 (Ne.symm ne42)
  have f79 := f65.wr W71
  have f80 := V57.other W71 (Ne.symm ne66)
  have K81 := K69.wr W71 (Or.inl (List.mem_of_getElem? (i := 0) rfl))
  have Z82 := Nat.le_trans Z70 (Keep.of_wr W71).1
  have hk := Nat.le_trans hk (Keep.of_wr W71).1
  have N83 := Fr.snoc X71 N55 g_a0
  obtain ⟨cl84, Ar84, q84, S84, M84, H84, G84⟩ := id f76
  obtain ⟨T85, h85, k85, X85, e85, E85, A85, st85⟩ := newP X71 hx hZ (hw _ (List.mem_of_getElem? (i := 8) rfl)) e71 (g := (mkF m 23 #[.val (.ref a0), .val (.ref a1)] [(.int (2 : Int32)), (.ref a0)])) rfl (hb hby d3_23) rfl (by decide) (cap := 2) (by decide) (by decide) (by decide) (by decide)
  obtain ⟨b85, gg85⟩ : ∃ z, z = h71.size := ⟨_, rfl⟩
  rw [← gg85] at A85 st85
  have f86 := f72.ext E85
  have f87 := f73.ext E85
  have f88 := f71w.ext E85
  have f89 := f75.ext E85
  have f90 := f76.ext E85
  have f91 := f77.ext E85
  have f92 := f78.ext E85
  have f93 := f79.ext E85
  have f94 := f80.ext E85
  have ne95 : a0 ≠ b85 := Nat.ne_of_lt (Nat.lt_of_lt_of_le f72.lt (Nat.le_of_eq gg85.symm))
  have ne96 : a1 ≠ b85 := Nat.ne_of_lt (Nat.lt_of_lt_of_le f76.lt (Nat.le_of_eq gg85.symm))
  have ne97 : cx032 ≠ b85 := Nat.ne_of_lt (Nat.lt_of_lt_of_le f78.lt (Nat.le_of_eq gg85.symm))
  have ne98 : b57 ≠ b85 := Nat.ne_of_lt (Nat.lt_of_lt_of_le f80.lt (Nat.le_of_eq gg85.symm))
  have g_b85 : n0 ≤ b85 := Nat.le_trans Z82 (Nat.le_of_eq gg85.symm)
  have sz_b85 : h0.size ≤ b85 := Nat.le_trans K81.1 (Nat.le_of_eq gg85.symm)
  have K99 := K81.ext E85
  have Z100 := Nat.le_trans Z82 E85.1
  have hk := Nat.le_trans hk E85.1
  have V85 : Arv Z h85 b85 k85 .long (2 : Int32) [(.long (0 : Int64)), (.long (0 : Int64))] (.long (0 : Int64)) := (Arv.new A85 (by decide)).pad (pad_rep [] (.long (0 : Int64)) 2)
  obtain ⟨T101, h101, X101, e101, W101, st101⟩ := putF X85 hx hZ hown (host := "") (Or.inl (hw _ (List.mem_of_getElem? (i := 47) rfl))) Via.refl e85 f89 f86 (Or.inr ⟨(hw _ (List.mem_of_getElem? (i := 48) rfl)), rfl, hnm⟩) (hw _ (List.mem_of_getElem? (i := 10) rfl)) (ty := (.array .long)) (by decide) rfl rfl (g := (mkF m 25 #[.val (.ref a0), .val (.ref a1)] [(.ref b85), (.ref a0)])) rfl rfl (hb hby d3_25)
  have f101w : Fld Z h101 a0 "com/example/stowline/stowline/VolumeBound" "remainders" "[J" (.ref b85) := f89.same W101
  have f102 := f86.wr W101
  have f103 := f87.other W101 (Or.inr (slot_ne (Or.inr (hw _ (List.mem_of_getElem? (i := 44) rfl))) (Or.inr (hw _ (List.mem_of_getElem? (i := 48) rfl))) (by decide) (t := (.array .long)) (t' := (.array .long)) (by decide) (by decide)))
  have f104 := f88.other W101 (Or.inr (slot_ne (Or.inr (hw _ (List.mem_of_getElem? (i := 46) rfl))) (Or.inr (hw _ (List.mem_of_getElem? (i := 48) rfl))) (by decide) (t := (.array .long)) (t' := (.array .long)) (by decide) (by decide)))
  have f106 := f90.other W101 (Ne.symm ne_a0_a1)
  have f107 := f91.wr W101
  have f108 := f92.other W101 (Ne.symm ne42)
  have f109 := f93.wr W101
  have f110 := f94.other W101 (Ne.symm ne66)
  have f111 := V85.other W101 (Ne.symm ne95)
  have K112 := K99.wr W101 (Or.inl (List.mem_of_getElem? (i := 0) rfl))
  have Z113 := Nat.le_trans Z100 (Keep.of_wr W101).1
  have hk := Nat.le_trans hk (Keep.of_wr W101).1
  have N114 := Fr.snoc X101 N83 g_a0
  obtain ⟨fs, hr, hrun, hended, hRW⟩ := X101.leaveW hS (own_hk hk e101) (v := none) (fun _ => rfl)
  refine ⟨_, _, pre33 _ ?_, hrun, hended, _, _, rfl, ?_, hRW.1, hRW.2.1, hRW.2.2.1, hRW.2.2.2.mono (by decide) (by decide)⟩
  · skip
    show Steps p.tables e below (T31.setTop (mkF m 6 #[.val (.ref a0), .val (.ref a1)] [(.ref a1), (.ref a0)])) _
    refine st32.trans ?_
    show Steps p.tables e below (T32.setTop (mkF m 9 #[.val (.ref a0), .val (.ref a1)] [(.ref cx032), (.ref a0)])) _
    refine st44 _ ?_
    show Steps p.tables e below (T44.setTop (mkF m 12 #[.val (.ref a0), .val (.ref a1)] [])) _
    refine XS.aloadN X44.here hx rfl (hb hby d3_12) rfl rfl ?_
    show Steps p.tables e below (T44.setTop (mkF m 13 #[.val (.ref a0), .val (.ref a1)] [(.ref a0)])) _
    refine XS.aloadN X44.here hx rfl (hb hby d3_13) rfl rfl ?_
    show Steps p.tables e below (T44.setTop (mkF m 14 #[.val (.ref a0), .val (.ref a1)] [(.ref a1), (.ref a0)])) _
    refine X44.arraylength hx (by rw [e44]; exact Ar56.1) (State.isArrayOf_alike hZ.alike Ar56.2.1) (g := (mkF m 14 #[.val (.ref a0), .val (.ref a1)] [(.ref a1), (.ref a0)])) rfl rfl (hb hby d3_14) _ ?_
    rw [len_of S56 M56]
    show Steps p.tables e below (T44.setTop (mkF m 15 #[.val (.ref a0), .val (.ref a1)] [(.int (2 : Int32)), (.ref a0)])) _
    refine st57 _ ?_
    show Steps p.tables e below (T57.setTop (mkF m 17 #[.val (.ref a0), .val (.ref a1)] [(.ref b57), (.ref a0)])) _
    refine st71 _ ?_
    show Steps p.tables e below (T71.setTop (mkF m 20 #[.val (.ref a0), .val (.ref a1)] [])) _
    refine XS.aloadN X71.here hx rfl (hb hby d3_20) rfl rfl ?_
    show Steps p.tables e below (T71.setTop (mkF m 21 #[.val (.ref a0), .val (.ref a1)] [(.ref a0)])) _
    refine XS.aloadN X71.here hx rfl (hb hby d3_21) rfl rfl ?_
    show Steps p.tables e below (T71.setTop (mkF m 22 #[.val (.ref a0), .val (.ref a1)] [(.ref a1), (.ref a0)])) _
    refine X71.arraylength hx (by rw [e71]; exact Ar84.1) (State.isArrayOf_alike hZ.alike Ar84.2.1) (g := (mkF m 22 #[.val (.ref a0), .val (.ref a1)] [(.ref a1), (.ref a0)])) rfl rfl (hb hby d3_22) _ ?_
    rw [len_of S84 M84]
    show Steps p.tables e below (T71.setTop (mkF m 23 #[.val (.ref a0), .val (.ref a1)] [(.int (2 : Int32)), (.ref a0)])) _
    refine st85 _ ?_
    show Steps p.tables e below (T85.setTop (mkF m 25 #[.val (.ref a0), .val (.ref a1)] [(.ref b85), (.ref a0)])) _
    refine st101 _ ?_
    show Steps p.tables e below (T101.setTop (mkF m 28 #[.val (.ref a0), .val (.ref a1)] [])) _
    exact X101.returnOut hx Bd.returns (hb hby d3_28) hr
  · show Q3_2 Z a0 a1 c0 c1 k_a1 h0 n0 _ T101.heap _
    rw [e101]
    exact ⟨cx032, b57, b85, cy032, k57, k85, rfl, N114, K112, g_cx032, sz_cx032, g_b57, sz_b57, g_b85, sz_b85, ne68, ne97, ne98, f102, f103, f104, f101w, f108, f110, f111⟩
theorem d9_0 : decode prog_4_method_3_code 0 = .ok (.aload_n 1, 1) := by decide +kernel
theorem d9_1 : decode prog_4_method_3_code 1 = .ok (.ldc 32, 2) := by decide +kernel
theorem d9_3 : decode prog_4_method_3_code 3 = .ok (.invokestatic 9, 3) := by decide +kernel
theorem d9_6 : decode prog_4_method_3_code 6 = .ok (.pop, 1) := by decide +kernel
theorem d9_7 : decode prog_4_method_3_code 7 = .ok (.aload_n 1, 1) := by decide +kernel
theorem d9_8 : decode prog_4_method_3_code 8 = .ok (.arraylength, 1) := by decide +kernel
theorem d9_9 : decode prog_4_method_3_code 9 = .ok (.aload_n 0, 1) := by decide +kernel
theorem d9_10 : decode prog_4_method_3_code 10 = .ok (.arraylength, 1) := by decide +kernel
theorem d9_11 : decode prog_4_method_3_code 11 = .ok (.if_icmp .eq 20, 3) := by decide +kernel
theorem d9_31 : decode prog_4_method_3_code 31 = .ok (.iconst 0, 1) := by decide +kernel
theorem d9_32 : decode prog_4_method_3_code 32 = .ok (.istore_n 2, 1) := by decide +kernel
theorem d9_33 : decode prog_4_method_3_code 33 = .ok (.iload_n 2, 1) := by decide +kernel
theorem d9_34 : decode prog_4_method_3_code 34 = .ok (.aload_n 1, 1) := by decide +kernel
theorem d9_35 : decode prog_4_method_3_code 35 = .ok (.arraylength, 1) := by decide +kernel
theorem d9_36 : decode prog_4_method_3_code 36 = .ok (.if_icmp .ge 47, 3) := by decide +kernel
theorem d9_39 : decode prog_4_method_3_code 39 = .ok (.aload_n 1, 1) := by decide +kernel
theorem d9_40 : decode prog_4_method_3_code 40 = .ok (.iload_n 2, 1) := by decide +kernel
theorem d9_41 : decode prog_4_method_3_code 41 = .ok (.laload, 1) := by decide +kernel
theorem d9_42 : decode prog_4_method_3_code 42 = .ok (.lconst 0, 1) := by decide +kernel
theorem d9_43 : decode prog_4_method_3_code 43 = .ok (.lcmp, 1) := by decide +kernel
theorem d9_44 : decode prog_4_method_3_code 44 = .ok (.ifCond .lt 13, 3) := by decide +kernel
theorem d9_47 : decode prog_4_method_3_code 47 = .ok (.aload_n 1, 1) := by decide +kernel
theorem d9_48 : decode prog_4_method_3_code 48 = .ok (.iload_n 2, 1) := by decide +kernel
theorem d9_49 : decode prog_4_method_3_code 49 = .ok (.laload, 1) := by decide +kernel
theorem d9_50 : decode prog_4_method_3_code 50 = .ok (.aload_n 0, 1) := by decide +kernel
theorem d9_51 : decode prog_4_method_3_code 51 = .ok (.iload_n 2, 1) := by decide +kernel
theorem d9_52 : decode prog_4_method_3_code 52 = .ok (.laload, 1) := by decide +kernel
theorem d9_53 : decode prog_4_method_3_code 53 = .ok (.lcmp, 1) := by decide +kernel
theorem d9_54 : decode prog_4_method_3_code 54 = .ok (.ifCond .le 23, 3) := by decide +kernel
theorem d9_77 : decode prog_4_method_3_code 77 = .ok (.iinc 2 1, 3) := by decide +kernel
theorem d9_80 : decode prog_4_method_3_code 80 = .ok (.goto (-47), 3) := by decide +kernel
theorem d9_83 : decode prog_4_method_3_code 83 = .ok (.return_, 1) := by decide +kernel
theorem ef9_2 (m : MethodId) (x0 : Addr) (x1 : Addr) : entryFrame m #[(.ref x0), (.ref x1)] 3 = mkF m 0 #[.val (.ref x0), .val (.ref x1), .unset] [] := by first | (simp [entryFrame, mkF, argsToLocals, Value.category]; done) | rfl
abbrev rr9_2 : Room := { frames := 1, cells := 2, slots := 24, locals := 13 }
def Q9_2 (Z : State) (a0 : Addr) (a1 : Addr) (c0 : Int64) (c1 : Int64) (s0 : Int64) (s1 : Int64) (k_a0 : ClassId) (k_a1 : ClassId) (h0 : Heap) (n0 : Nat) (v : Option Value) (h : Heap) (L : List Loc) : Prop := v = none ∧ Fr n0 L ∧ Keep h0 h []
set_option maxRecDepth 65536 in
set_option maxHeartbeats 40000000 in
theorem rm9_2 (l : Launch) (Z : State) (aw : Array Value) (hw : ∀ d ∈ tables_1, d.before aw Z = true) (ws : List Jvm.Cond) (a0 : Addr) (a1 : Addr) (c0 : Int64) (c1 : Int64) (s0 : Int64) (s1 : Int64) (k_a0 : ClassId) (k_a1 : ClassId) (h0 : Heap) (n0 : Nat) (Z0 : n0 ≤ h0.size) (V_a0 : Arv Z h0 a0 k_a0 .long (2 : Int32) [(.long c0), (.long c1)] (.long (0 : Int64))) (V_a1 : Arv Z h0 a1 k_a1 .long (2 : Int32) [(.long s0), (.long s1)] (.long (0 : Int64))) (hs0 : ¬ s0 < (0 : Int64)) (hs1 : ¬ s1 < (0 : Int64)) (ht0 : ¬ c0 < s0) (ht1 : ¬ c1 < s1) :
    MetFree l (⟨"com/example/stowline/stowline/Capacities", "checkSizes", "([J[J)V"⟩ : MethodName) (head1 (Jvm.Cond.code (⟨"com/example/stowline/stowline/Capacities", "checkSizes", "([J[J)V"⟩ : MethodName) prog_4_method_3_code 3 none :: ws) rr9_2) (fun a U => a = #[(.ref a0), (.ref a1)] ∧ Z.Warmed39 U.vm ∧ U.heap = h0) (fun _ _ _ _ _ => True) (fun _ U o U' => ∃ v L, o = .returned v ∧ Q9_2 Z a0 a1 c0 c1 s0 s1 k_a0 k_a1 h0 n0 v U'.heap L ∧ ReturnedEndW U o U' L rr9_2.cells rr9_2.slots) := by
  refine MetFree.of_bodySF (plainFor_of_name pn_2) hisR ?_
  intro p e s m args below meth c s₁ Bd hml0 hP hK
  obtain ⟨rfl, hZ, hh⟩ := hP
  have hx := Bd.exec
  have hby := Bd.bytes
  have hml : c.maxLocals = 3 := hml0
  have hown : s.vm.findClass "com/example/stowline/stowline/Capacities" = some m.cls := findClass_of_methodNamed Bd.named
  have hnm := (name_of_methodNamed Bd.named Bd.method).1
  have X0 : Stand p l e rr9_2 (s.setVm s.vm) m #[(.ref a0), (.ref a1)] below meth c s₁ [] 0 0 := Stand.of_body Bd
  have e0 : s₁.heap = h0 := by rw [← hh, Bd.state]; rfl
  have N0 := Fr.nil n0
  have K0 := Keep.refl h0 []
  have hS : s.Since s.vm 0 := (State.WarmedH.refl s).since 0
  have hk : 0 ≤ h0.size := Nat.zero_le _
  have hstr : ∀ a ∈ Bundle.stringAtoms, a.before aw Z = true := fun d hd => hw d ((by decide +kernel : ∀ d ∈ Bundle.stringAtoms, d ∈ tables_1) d hd)
  have pre0 : ∀ t, Steps p.tables e below (s₁.setTop (mkF m 0 #[.val (.ref a0), .val (.ref a1), .unset] [])) t → Steps p.tables e below (s₁.setTop (entryFrame m #[(.ref a0), (.ref a1)] 3)) t := fun t k => castTop (ef9_2 m a0 a1) k
  have pre115 := fun (t : State) (k : Steps p.tables e below (s₁.setTop (mkF m 1 #[.val (.ref a0), .val (.ref a1), .unset] [(.ref a1)])) t) => pre0 t (by
    show Steps p.tables e below (s₁.setTop (mkF m 0 #[.val (.ref a0), .val (.ref a1), .unset] [])) _
    refine XS.aloadN X0.here hx rfl (hb hby d9_0) rfl rfl ?_
    exact k)
  obtain ⟨a116, T116, h116, k116, X116, e116, E116, hS, hk, hZ, hown, st116⟩ := ldcS X0 hx hZ hown (hw _ (List.mem_of_getElem? (i := 62) rfl)) hstr e0 hS hk (g := (mkF m 1 #[.val (.ref a0), .val (.ref a1), .unset] [(.ref a1)])) rfl (hb hby d9_1) (n := 20) (by decide) (by decide) (by decide) (by decide)
  have f117 := V_a0.ext E116
  have f118 := V_a1.ext E116
  have K119 := K0.ext E116
  have Z120 := Nat.le_trans Z0 E116.1
  obtain ⟨_, _, ⟨T121, L121, k121, n121⟩, -, X121, ⟨Lc121, hQ121, l121, y121, z121⟩, st121⟩ := Jvm.LawKit.callS X116 hx (y := (⟨"java/util/Objects", "requireNonNull", "(Ljava/lang/Object;Ljava/lang/String;)Ljava/lang/Object;"⟩ : MethodName)) hown (mvT hZ (hw _ (List.mem_of_getElem? (i := 30) rfl))) (mvT hZ (hw _ (List.mem_of_getElem? (i := 31) rfl))) (mvT hZ (hw _ (List.mem_of_getElem? (i := 32) rfl))) (mvT hZ (hw _ (List.mem_of_getElem? (i := 33) rfl))) (by decide) (backOf (W := 0) (rm6 l Z aw hw [] a1 a116 h116 n0 Z120 ) hZ (hw _ (List.mem_of_getElem? (i := 33) rfl)) (hw _ (List.mem_of_getElem? (i := 32) rfl)) (by decide) (by decide)) (g := (mkF m 3 #[.val (.ref a0), .val (.ref a1), .unset] [(.ref a116), (.ref a1)])) rfl (by rw [hml]; rfl) (argsL := [(.ref a1), (.ref a116)]) (rest := []) (lenOf pd_1 rfl) rfl (by show 2 * 0 + _ ≤ _; exact Nat.le_of_eq rfl) (hb hby d9_3) (fun _ _ => ⟨rfl, e116, (by decide : 2 + 0 ≤ _), (by decide : 24 + 0 ≤ _)⟩)
  dsimp only [Pt.U, Pt.locs, Pt.cells, Pt.slots] at X121 l121 y121 z121 st121 hQ121
  subst l121 y121 z121
  obtain ⟨rfl, N121q, e121⟩ := hQ121
  have N121 := Fr.app N0 N121q
  obtain ⟨cl122, Ar122, q122, S122, M122, H122, G122⟩ := id f118
  obtain ⟨cl123, Ar123, q123, S123, M123, H123, G123⟩ := id f117
  obtain ⟨cl124, Ar124, q124, S124, M124, H124, G124⟩ := id f118
  obtain ⟨cl125, Ar125, q125, S125, M125, H125, G125⟩ := id f118
  have hin126 : ¬ ((0 : Int32) < 0 ∨ cl125.slots.size ≤ ((0 : Int32)).toNatClampNeg) := inb_of S125 ⟨by decide, by decide⟩
  have hat127 : cl125.slots[((0 : Int32)).toNatClampNeg]? = some (.long s0) := H125.at hin126 rfl
  obtain ⟨cl128, Ar128, q128, S128, M128, H128, G128⟩ := id f118
  have hin129 : ¬ ((0 : Int32) < 0 ∨ cl128.slots.size ≤ ((0 : Int32)).toNatClampNeg) := inb_of S128 ⟨by decide, by decide⟩
  have hat130 : cl128.slots[((0 : Int32)).toNatClampNeg]? = some (.long s0) := H128.at hin129 rfl
  obtain ⟨cl131, Ar131, q131, S131, M131, H131, G131⟩ := id f117
  have hin132 : ¬ ((0 : Int32) < 0 ∨ cl131.slots.size ≤ ((0 : Int32)).toNatClampNeg) := inb_of S131 ⟨by decide, by decide⟩
  have hat133 : cl131.slots[((0 : Int32)).toNatClampNeg]? = some (.long c0) := H131.at hin132 rfl
  obtain ⟨cl134, Ar134, q134, S134, M134, H134, G134⟩ := id f118
  obtain ⟨cl135, Ar135, q135, S135, M135, H135, G135⟩ := id f118
  have hin136 : ¬ ((1 : Int32) < 0 ∨ cl135.slots.size ≤ ((1 : Int32)).toNatClampNeg) := inb_of S135 ⟨by decide, by decide⟩
  have hat137 : cl135.slots[((1 : Int32)).toNatClampNeg]? = some (.long s1) := H135.at hin136 rfl
  obtain ⟨cl138, Ar138, q138, S138, M138, H138, G138⟩ := id f118
  have hin139 : ¬ ((1 : Int32) < 0 ∨ cl138.slots.size ≤ ((1 : Int32)).toNatClampNeg) := inb_of S138 ⟨by decide, by decide⟩
  have hat140 : cl138.slots[((1 : Int32)).toNatClampNeg]? = some (.long s1) := H138.at hin139 rfl
  obtain ⟨cl141, Ar141, q141, S141, M141, H141, G141⟩ := id f117
  have hin142 : ¬ ((1 : Int32) < 0 ∨ cl141.slots.size ≤ ((1 : Int32)).toNatClampNeg) := inb_of S141 ⟨by decide, by decide⟩
  have hat143 : cl141.slots[((1 : Int32)).toNatClampNeg]? = some (.long c1) := H141.at hin142 rfl
  obtain ⟨cl144, Ar144, q144, S144, M144, H144, G144⟩ := id f118
  obtain ⟨fs, hr, hrun, hended, hRW⟩ := X121.leaveW hS (own_hk hk e121) (v := none) (fun _ => rfl)
  refine ⟨_, _, pre115 _ ?_, hrun, hended, _, _, rfl, ?_, hRW.1, hRW.2.1, hRW.2.2.1, hRW.2.2.2.mono (by decide) (by decide)⟩
  · skip
    show Steps p.tables e below (s₁.setTop (mkF m 1 #[.val (.ref a0), .val (.ref a1), .unset] [(.ref a1)])) _
    refine st116 _ ?_
    show Steps p.tables e below (T116.setTop (mkF m 3 #[.val (.ref a0), .val (.ref a1), .unset] [(.ref a116), (.ref a1)])) _
    refine st121 _ ?_
    show Steps p.tables e below (T121.setTop (mkF m 6 #[.val (.ref a0), .val (.ref a1), .unset] [(.ref a1)])) _
    refine XS.pop X121.here hx rfl (hb hby d9_6) rfl rfl ?_
    show Steps p.tables e below (T121.setTop (mkF m 7 #[.val (.ref a0), .val (.ref a1), .unset] [])) _
    refine XS.aloadN X121.here hx rfl (hb hby d9_7) rfl rfl ?_
    show Steps p.tables e below (T121.setTop (mkF m 8 #[.val (.ref a0), .val (.ref a1), .unset] [(.ref a1)])) _
    refine X121.arraylength hx (by rw [e121]; exact Ar122.1) (State.isArrayOf_alike hZ.alike Ar122.2.1) (g := (mkF m 8 #[.val (.ref a0), .val (.ref a1), .unset] [(.ref a1)])) rfl rfl (hb hby d9_8) _ ?_
    rw [len_of S122 M122]
    show Steps p.tables e below (T121.setTop (mkF m 9 #[.val (.ref a0), .val (.ref a1), .unset] [(.int (2 : Int32))])) _
    refine XS.aloadN X121.here hx rfl (hb hby d9_9) rfl rfl ?_
    show Steps p.tables e below (T121.setTop (mkF m 10 #[.val (.ref a0), .val (.ref a1), .unset] [(.ref a0), (.int (2 : Int32))])) _
    refine X121.arraylength hx (by rw [e121]; exact Ar123.1) (State.isArrayOf_alike hZ.alike Ar123.2.1) (g := (mkF m 10 #[.val (.ref a0), .val (.ref a1), .unset] [(.ref a0), (.int (2 : Int32))])) rfl rfl (hb hby d9_10) _ ?_
    rw [len_of S123 M123]
    show Steps p.tables e below (T121.setTop (mkF m 11 #[.val (.ref a0), .val (.ref a1), .unset] [(.int (2 : Int32)), (.int (2 : Int32))])) _
    refine XS.icmpYes X121.here hx rfl (pc0 := 11) (pc' := 31) rfl (hb hby d9_11) rfl (teq (rfl : (2 : Int32) = (2 : Int32))).1 (by decide) (by decide) ?_
    show Steps p.tables e below (T121.setTop (mkF m 31 #[.val (.ref a0), .val (.ref a1), .unset] [])) _
    refine XS.iconst X121.here hx rfl (hb hby d9_31) ?_
    show Steps p.tables e below (T121.setTop (mkF m 32 #[.val (.ref a0), .val (.ref a1), .unset] [(.int (0 : Int32))])) _
    refine XS.istoreN X121.here hx rfl (hb hby d9_32) rfl (l' := #[.val (.ref a0), .val (.ref a1), .val (.int (0 : Int32))]) rfl ?_
    show Steps p.tables e below (T121.setTop (mkF m 33 #[.val (.ref a0), .val (.ref a1), .val (.int (0 : Int32))] [])) _
    refine XS.iloadN X121.here hx rfl (hb hby d9_33) rfl ?_
    show Steps p.tables e below (T121.setTop (mkF m 34 #[.val (.ref a0), .val (.ref a1), .val (.int (0 : Int32))] [(.int (0 : Int32))])) _
    refine XS.aloadN X121.here hx rfl (hb hby d9_34) rfl rfl ?_
    show Steps p.tables e below (T121.setTop (mkF m 35 #[.val (.ref a0), .val (.ref a1), .val (.int (0 : Int32))] [(.ref a1), (.int (0 : Int32))])) _
    refine X121.arraylength hx (by rw [e121]; exact Ar124.1) (State.isArrayOf_alike hZ.alike Ar124.2.1) (g := (mkF m 35 #[.val (.ref a0), .val (.ref a1), .val (.int (0 : Int32))] [(.ref a1), (.int (0 : Int32))])) rfl rfl (hb hby d9_35) _ ?_
    rw [len_of S124 M124]
    show Steps p.tables e below (T121.setTop (mkF m 36 #[.val (.ref a0), .val (.ref a1), .val (.int (0 : Int32))] [(.int (2 : Int32)), (.int (0 : Int32))])) _
    refine XS.icmpNo X121.here hx rfl (hb hby d9_36) rfl (tlt (by decide : (0 : Int32) < (2 : Int32))).2.1 ?_
    show Steps p.tables e below (T121.setTop (mkF m 39 #[.val (.ref a0), .val (.ref a1), .val (.int (0 : Int32))] [])) _
    refine XS.aloadN X121.here hx rfl (hb hby d9_39) rfl rfl ?_
    show Steps p.tables e below (T121.setTop (mkF m 40 #[.val (.ref a0), .val (.ref a1), .val (.int (0 : Int32))] [(.ref a1)])) _
    refine XS.iloadN X121.here hx rfl (hb hby d9_40) rfl ?_
    show Steps p.tables e below (T121.setTop (mkF m 41 #[.val (.ref a0), .val (.ref a1), .val (.int (0 : Int32))] [(.int (0 : Int32)), (.ref a1)])) _
    refine X121.laload hx (j := (0 : Int32)) (v := (.long s0)) (by rw [e121]; exact Ar125.1) (State.isArrayOf_alike hZ.alike Ar125.2.1) Ar125.2.2 hin126 hat127 (g := (mkF m 41 #[.val (.ref a0), .val (.ref a1), .val (.int (0 : Int32))] [(.int (0 : Int32)), (.ref a1)])) rfl rfl (hb hby d9_41) _ ?_
    show Steps p.tables e below (T121.setTop (mkF m 42 #[.val (.ref a0), .val (.ref a1), .val (.int (0 : Int32))] [(.long s0)])) _
    refine XS.lconst X121.here hx rfl (hb hby d9_42) ?_
    show Steps p.tables e below (T121.setTop (mkF m 43 #[.val (.ref a0), .val (.ref a1), .val (.int (0 : Int32))] [(.long (0 : Int64)), (.long s0)])) _
    refine XS.lcmp X121.here hx rfl (hb hby d9_43) rfl ?_
    show Steps p.tables e below (T121.setTop (mkF m 44 #[.val (.ref a0), .val (.ref a1), .val (.int (0 : Int32))] [(.int (lcmpW s0 (0 : Int64)))])) _
    refine XS.ifNo X121.here hx rfl (hb hby d9_44) rfl ((if0 _ _).trans (flt (mt (own_lt s0 (0 : Int64)).mp hs0)).1) ?_
    show Steps p.tables e below (T121.setTop (mkF m 47 #[.val (.ref a0), .val (.ref a1), .val (.int (0 : Int32))] [])) _
    refine XS.aloadN X121.here hx rfl (hb hby d9_47) rfl rfl ?_
    show Steps p.tables e below (T121.setTop (mkF m 48 #[.val (.ref a0), .val (.ref a1), .val (.int (0 : Int32))] [(.ref a1)])) _
    refine XS.iloadN X121.here hx rfl (hb hby d9_48) rfl ?_
    show Steps p.tables e below (T121.setTop (mkF m 49 #[.val (.ref a0), .val (.ref a1), .val (.int (0 : Int32))] [(.int (0 : Int32)), (.ref a1)])) _
    refine X121.laload hx (j := (0 : Int32)) (v := (.long s0)) (by rw [e121]; exact Ar128.1) (State.isArrayOf_alike hZ.alike Ar128.2.1) Ar128.2.2 hin129 hat130 (g := (mkF m 49 #[.val (.ref a0), .val (.ref a1), .val (.int (0 : Int32))] [(.int (0 : Int32)), (.ref a1)])) rfl rfl (hb hby d9_49) _ ?_
    show Steps p.tables e below (T121.setTop (mkF m 50 #[.val (.ref a0), .val (.ref a1), .val (.int (0 : Int32))] [(.long s0)])) _
    refine XS.aloadN X121.here hx rfl (hb hby d9_50) rfl rfl ?_
    show Steps p.tables e below (T121.setTop (mkF m 51 #[.val (.ref a0), .val (.ref a1), .val (.int (0 : Int32))] [(.ref a0), (.long s0)])) _
    refine XS.iloadN X121.here hx rfl (hb hby d9_51) rfl ?_
    show Steps p.tables e below (T121.setTop (mkF m 52 #[.val (.ref a0), .val (.ref a1), .val (.int (0 : Int32))] [(.int (0 : Int32)), (.ref a0), (.long s0)])) _
    refine X121.laload hx (j := (0 : Int32)) (v := (.long c0)) (by rw [e121]; exact Ar131.1) (State.isArrayOf_alike hZ.alike Ar131.2.1) Ar131.2.2 hin132 hat133 (g := (mkF m 52 #[.val (.ref a0), .val (.ref a1), .val (.int (0 : Int32))] [(.int (0 : Int32)), (.ref a0), (.long s0)])) rfl rfl (hb hby d9_52) _ ?_
    show Steps p.tables e below (T121.setTop (mkF m 53 #[.val (.ref a0), .val (.ref a1), .val (.int (0 : Int32))] [(.long c0), (.long s0)])) _
    refine XS.lcmp X121.here hx rfl (hb hby d9_53) rfl ?_
    show Steps p.tables e below (T121.setTop (mkF m 54 #[.val (.ref a0), .val (.ref a1), .val (.int (0 : Int32))] [(.int (lcmpW s0 c0))])) _
    refine XS.ifYes X121.here hx rfl (pc0 := 54) (pc' := 77) rfl (hb hby d9_54) rfl ((if0 _ _).trans (flt (mt (own_gt s0 c0).mp ht0)).2.2.2) (by decide) (by decide) ?_
    show Steps p.tables e below (T121.setTop (mkF m 77 #[.val (.ref a0), .val (.ref a1), .val (.int (0 : Int32))] [])) _
    refine XS.iinc X121.here hx rfl (hb hby d9_77) rfl (l' := #[.val (.ref a0), .val (.ref a1), .val (.int (1 : Int32))]) rfl ?_
    show Steps p.tables e below (T121.setTop (mkF m 80 #[.val (.ref a0), .val (.ref a1), .val (.int (1 : Int32))] [])) _
    refine XS.goto X121.here hx rfl (pc0 := 80) (pc' := 33) rfl (hb hby d9_80) (by decide) (by decide) ?_
    show Steps p.tables e below (T121.setTop (mkF m 33 #[.val (.ref a0), .val (.ref a1), .val (.int (1 : Int32))] [])) _
    refine XS.iloadN X121.here hx rfl (hb hby d9_33) rfl ?_
    show Steps p.tables e below (T121.setTop (mkF m 34 #[.val (.ref a0), .val (.ref a1), .val (.int (1 : Int32))] [(.int (1 : Int32))])) _
    refine XS.aloadN X121.here hx rfl (hb hby d9_34) rfl rfl ?_
    show Steps p.tables e below (T121.setTop (mkF m 35 #[.val (.ref a0), .val (.ref a1), .val (.int (1 : Int32))] [(.ref a1), (.int (1 : Int32))])) _
    refine X121.arraylength hx (by rw [e121]; exact Ar134.1) (State.isArrayOf_alike hZ.alike Ar134.2.1) (g := (mkF m 35 #[.val (.ref a0), .val (.ref a1), .val (.int (1 : Int32))] [(.ref a1), (.int (1 : Int32))])) rfl rfl (hb hby d9_35) _ ?_
    rw [len_of S134 M134]
    show Steps p.tables e below (T121.setTop (mkF m 36 #[.val (.ref a0), .val (.ref a1), .val (.int (1 : Int32))] [(.int (2 : Int32)), (.int (1 : Int32))])) _
    refine XS.icmpNo X121.here hx rfl (hb hby d9_36) rfl (tlt (by decide : (1 : Int32) < (2 : Int32))).2.1 ?_
    show Steps p.tables e below (T121.setTop (mkF m 39 #[.val (.ref a0), .val (.ref a1), .val (.int (1 : Int32))] [])) _
    refine XS.aloadN X121.here hx rfl (hb hby d9_39) rfl rfl ?_
    show Steps p.tables e below (T121.setTop (mkF m 40 #[.val (.ref a0), .val (.ref a1), .val (.int (1 : Int32))] [(.ref a1)])) _
    refine XS.iloadN X121.here hx rfl (hb hby d9_40) rfl ?_
    show Steps p.tables e below (T121.setTop (mkF m 41 #[.val (.ref a0), .val (.ref a1), .val (.int (1 : Int32))] [(.int (1 : Int32)), (.ref a1)])) _
    refine X121.laload hx (j := (1 : Int32)) (v := (.long s1)) (by rw [e121]; exact Ar135.1) (State.isArrayOf_alike hZ.alike Ar135.2.1) Ar135.2.2 hin136 hat137 (g := (mkF m 41 #[.val (.ref a0), .val (.ref a1), .val (.int (1 : Int32))] [(.int (1 : Int32)), (.ref a1)])) rfl rfl (hb hby d9_41) _ ?_
    show Steps p.tables e below (T121.setTop (mkF m 42 #[.val (.ref a0), .val (.ref a1), .val (.int (1 : Int32))] [(.long s1)])) _
    refine XS.lconst X121.here hx rfl (hb hby d9_42) ?_
    show Steps p.tables e below (T121.setTop (mkF m 43 #[.val (.ref a0), .val (.ref a1), .val (.int (1 : Int32))] [(.long (0 : Int64)), (.long s1)])) _
    refine XS.lcmp X121.here hx rfl (hb hby d9_43) rfl ?_
    show Steps p.tables e below (T121.setTop (mkF m 44 #[.val (.ref a0), .val (.ref a1), .val (.int (1 : Int32))] [(.int (lcmpW s1 (0 : Int64)))])) _
    refine XS.ifNo X121.here hx rfl (hb hby d9_44) rfl ((if0 _ _).trans (flt (mt (own_lt s1 (0 : Int64)).mp hs1)).1) ?_
    show Steps p.tables e below (T121.setTop (mkF m 47 #[.val (.ref a0), .val (.ref a1), .val (.int (1 : Int32))] [])) _
    refine XS.aloadN X121.here hx rfl (hb hby d9_47) rfl rfl ?_
    show Steps p.tables e below (T121.setTop (mkF m 48 #[.val (.ref a0), .val (.ref a1), .val (.int (1 : Int32))] [(.ref a1)])) _
    refine XS.iloadN X121.here hx rfl (hb hby d9_48) rfl ?_
    show Steps p.tables e below (T121.setTop (mkF m 49 #[.val (.ref a0), .val (.ref a1), .val (.int (1 : Int32))] [(.int (1 : Int32)), (.ref a1)])) _
    refine X121.laload hx (j := (1 : Int32)) (v := (.long s1)) (by rw [e121]; exact Ar138.1) (State.isArrayOf_alike hZ.alike Ar138.2.1) Ar138.2.2 hin139 hat140 (g := (mkF m 49 #[.val (.ref a0), .val (.ref a1), .val (.int (1 : Int32))] [(.int (1 : Int32)), (.ref a1)])) rfl rfl (hb hby d9_49) _ ?_
    show Steps p.tables e below (T121.setTop (mkF m 50 #[.val (.ref a0), .val (.ref a1), .val (.int (1 : Int32))] [(.long s1)])) _
    refine XS.aloadN X121.here hx rfl (hb hby d9_50) rfl rfl ?_
    show Steps p.tables e below (T121.setTop (mkF m 51 #[.val (.ref a0), .val (.ref a1), .val (.int (1 : Int32))] [(.ref a0), (.long s1)])) _
    refine XS.iloadN X121.here hx rfl (hb hby d9_51) rfl ?_
    show Steps p.tables e below (T121.setTop (mkF m 52 #[.val (.ref a0), .val (.ref a1), .val (.int (1 : Int32))] [(.int (1 : Int32)), (.ref a0), (.long s1)])) _
    refine X121.laload hx (j := (1 : Int32)) (v := (.long c1)) (by rw [e121]; exact Ar141.1) (State.isArrayOf_alike hZ.alike Ar141.2.1) Ar141.2.2 hin142 hat143 (g := (mkF m 52 #[.val (.ref a0), .val (.ref a1), .val (.int (1 : Int32))] [(.int (1 : Int32)), (.ref a0), (.long s1)])) rfl rfl (hb hby d9_52) _ ?_
    show Steps p.tables e below (T121.setTop (mkF m 53 #[.val (.ref a0), .val (.ref a1), .val (.int (1 : Int32))] [(.long c1), (.long s1)])) _
    refine XS.lcmp X121.here hx rfl (hb hby d9_53) rfl ?_
    show Steps p.tables e below (T121.setTop (mkF m 54 #[.val (.ref a0), .val (.ref a1), .val (.int (1 : Int32))] [(.int (lcmpW s1 c1))])) _
    refine XS.ifYes X121.here hx rfl (pc0 := 54) (pc' := 77) rfl (hb hby d9_54) rfl ((if0 _ _).trans (flt (mt (own_gt s1 c1).mp ht1)).2.2.2) (by decide) (by decide) ?_
    show Steps p.tables e below (T121.setTop (mkF m 77 #[.val (.ref a0), .val (.ref a1), .val (.int (1 : Int32))] [])) _
    refine XS.iinc X121.here hx rfl (hb hby d9_77) rfl (l' := #[.val (.ref a0), .val (.ref a1), .val (.int (2 : Int32))]) rfl ?_
    show Steps p.tables e below (T121.setTop (mkF m 80 #[.val (.ref a0), .val (.ref a1), .val (.int (2 : Int32))] [])) _
    refine XS.goto X121.here hx rfl (pc0 := 80) (pc' := 33) rfl (hb hby d9_80) (by decide) (by decide) ?_
    show Steps p.tables e below (T121.setTop (mkF m 33 #[.val (.ref a0), .val (.ref a1), .val (.int (2 : Int32))] [])) _
    refine XS.iloadN X121.here hx rfl (hb hby d9_33) rfl ?_
    show Steps p.tables e below (T121.setTop (mkF m 34 #[.val (.ref a0), .val (.ref a1), .val (.int (2 : Int32))] [(.int (2 : Int32))])) _
    refine XS.aloadN X121.here hx rfl (hb hby d9_34) rfl rfl ?_
    show Steps p.tables e below (T121.setTop (mkF m 35 #[.val (.ref a0), .val (.ref a1), .val (.int (2 : Int32))] [(.ref a1), (.int (2 : Int32))])) _
    refine X121.arraylength hx (by rw [e121]; exact Ar144.1) (State.isArrayOf_alike hZ.alike Ar144.2.1) (g := (mkF m 35 #[.val (.ref a0), .val (.ref a1), .val (.int (2 : Int32))] [(.ref a1), (.int (2 : Int32))])) rfl rfl (hb hby d9_35) _ ?_
    rw [len_of S144 M144]
    show Steps p.tables e below (T121.setTop (mkF m 36 #[.val (.ref a0), .val (.ref a1), .val (.int (2 : Int32))] [(.int (2 : Int32)), (.int (2 : Int32))])) _
    refine XS.icmpYes X121.here hx rfl (pc0 := 36) (pc' := 83) rfl (hb hby d9_36) rfl (flt (by decide : ¬ ((2 : Int32) < (2 : Int32)))).2.1 (by decide) (by decide) ?_
    show Steps p.tables e below (T121.setTop (mkF m 83 #[.val (.ref a0), .val (.ref a1), .val (.int (2 : Int32))] [])) _
    exact X121.returnOut hx Bd.returns (hb hby d9_83) hr
  · show Q9_2 Z a0 a1 c0 c1 s0 s1 k_a0 k_a1 h0 n0 _ T121.heap _
    rw [e121]
    exact ⟨rfl, N121, K119⟩
theorem d8_0 : decode prog_29_method_10_code 0 = .ok (.aload_n 0, 1) := by decide +kernel
theorem d8_1 : decode prog_29_method_10_code 1 = .ok (.getfield 13, 3) := by decide +kernel
theorem d8_4 : decode prog_29_method_10_code 4 = .ok (.aload_n 1, 1) := by decide +kernel
theorem pd_5 : parseMethodDescriptor "([J[J)V" = some ⟨[(.array .long), (.array .long)], none⟩ := by decide +kernel
theorem d8_5 : decode prog_29_method_10_code 5 = .ok (.invokestatic 123, 3) := by decide +kernel
theorem d8_8 : decode prog_29_method_10_code 8 = .ok (.return_, 1) := by decide +kernel
theorem ef8_2 (m : MethodId) (x0 : Addr) (x1 : Addr) : entryFrame m #[(.ref x0), (.ref x1)] 2 = mkF m 0 #[.val (.ref x0), .val (.ref x1)] [] := by first | (simp [entryFrame, mkF, argsToLocals, Value.category]; done) | rfl
abbrev rr8_2 : Room := { frames := 2, cells := 2, slots := 24, locals := 27 }
def Q8_2 (Z : State) (a0 : Addr) (a1 : Addr) (bc : Addr) (c0 : Int64) (c1 : Int64) (s0 : Int64) (s1 : Int64) (k_bc : ClassId) (k_a1 : ClassId) (h0 : Heap) (n0 : Nat) (v : Option Value) (h : Heap) (L : List Loc) : Prop := v = none ∧ Fr n0 L ∧ Keep h0 h []
set_option maxRecDepth 65536 in
set_option maxHeartbeats 40000000 in
theorem rm8_2 (l : Launch) (Z : State) (aw : Array Value) (hw : ∀ d ∈ tables_1, d.before aw Z = true) (ws : List Jvm.Cond) (a0 : Addr) (a1 : Addr) (bc : Addr) (c0 : Int64) (c1 : Int64) (s0 : Int64) (s1 : Int64) (k_bc : ClassId) (k_a1 : ClassId) (h0 : Heap) (n0 : Nat) (Z0 : n0 ≤ h0.size) (E_a0 : Exa Z h0 a0 "com/example/stowline/stowline/VolumeBound") (F_capacities_a0 : Fld Z h0 a0 "com/example/stowline/stowline/VolumeBound" "capacities" "[J" (.ref bc)) (V_bc : Arv Z h0 bc k_bc .long (2 : Int32) [(.long c0), (.long c1)] (.long (0 : Int64))) (V_a1 : Arv Z h0 a1 k_a1 .long (2 : Int32) [(.long s0), (.long s1)] (.long (0 : Int64))) (hs0 : ¬ s0 < (0 : Int64)) (hs1 : ¬ s1 < (0 : Int64)) (ht0 : ¬ c0 < s0) (ht1 : ¬ c1 < s1) :
    MetFree l (⟨"com/example/stowline/stowline/VolumeBound", "checkSizes", "([J)V"⟩ : MethodName) (head1 (Jvm.Cond.code (⟨"com/example/stowline/stowline/VolumeBound", "checkSizes", "([J)V"⟩ : MethodName) prog_29_method_10_code 2 none :: ws) rr8_2) (fun a U => a = #[(.ref a0), (.ref a1)] ∧ Z.Warmed39 U.vm ∧ U.heap = h0) (fun _ _ _ _ _ => True) (fun _ U o U' => ∃ v L, o = .returned v ∧ Q8_2 Z a0 a1 bc c0 c1 s0 s1 k_bc k_a1 h0 n0 v U'.heap L ∧ ReturnedEndW U o U' L rr8_2.cells rr8_2.slots) := by
  refine MetFree.of_bodySF (plainFor_of_name pn_3) hisR ?_
  intro p e s m args below meth c s₁ Bd hml0 hP hK
  obtain ⟨rfl, hZ, hh⟩ := hP
  have hx := Bd.exec
  have hby := Bd.bytes
  have hml : c.maxLocals = 2 := hml0
  have hown : s.vm.findClass "com/example/stowline/stowline/VolumeBound" = some m.cls := findClass_of_methodNamed Bd.named
  have hnm := (name_of_methodNamed Bd.named Bd.method).1
  have X0 : Stand p l e rr8_2 (s.setVm s.vm) m #[(.ref a0), (.ref a1)] below meth c s₁ [] 0 0 := Stand.of_body Bd
  have e0 : s₁.heap = h0 := by rw [← hh, Bd.state]; rfl
  have N0 := Fr.nil n0
  have K0 := Keep.refl h0 []
  have hS : s.Since s.vm 0 := (State.WarmedH.refl s).since 0
  have hk : 0 ≤ h0.size := Nat.zero_le _
  have hstr : ∀ a ∈ Bundle.stringAtoms, a.before aw Z = true := fun d hd => hw d ((by decide +kernel : ∀ d ∈ Bundle.stringAtoms, d ∈ tables_1) d hd)
  have pre0 : ∀ t, Steps p.tables e below (s₁.setTop (mkF m 0 #[.val (.ref a0), .val (.ref a1)] [])) t → Steps p.tables e below (s₁.setTop (entryFrame m #[(.ref a0), (.ref a1)] 2)) t := fun t k => castTop (ef8_2 m a0 a1) k
  obtain ⟨T145, X145, e145, st145⟩ := getF X0 hx hZ hown (host := "") (Or.inl (hw _ (List.mem_of_getElem? (i := 43) rfl))) Via.refl e0 F_capacities_a0 (g := (mkF m 1 #[.val (.ref a0), .val (.ref a1)] [(.ref a0)])) rfl rfl (hb hby d8_1)
  have pre147 := fun (t : State) (k : Steps p.tables e below (T145.setTop (mkF m 5 #[.val (.ref a0), .val (.ref a1)] [(.ref a1), (.ref bc)])) t) => pre0 t (by
    show Steps p.tables e below (s₁.setTop (mkF m 0 #[.val (.ref a0), .val (.ref a1)] [])) _
    refine XS.aloadN X0.here hx rfl (hb hby d8_0) rfl rfl ?_
    show Steps p.tables e below (s₁.setTop (mkF m 1 #[.val (.ref a0), .val (.ref a1)] [(.ref a0)])) _
    refine st145 _ ?_
    show Steps p.tables e below (T145.setTop (mkF m 4 #[.val (.ref a0), .val (.ref a1)] [(.ref bc)])) _
    refine XS.aloadN X145.here hx rfl (hb hby d8_4) rfl rfl ?_
    exact k)
  obtain ⟨_, _, ⟨T146, L146, k146, n146⟩, -, X146, hSi146, hgr146, ⟨Lc146, hQ146, l146, y146, z146⟩, st146⟩ := Jvm.RoadKit.callSS X145 hx (y := (⟨"com/example/stowline/stowline/Capacities", "checkSizes", "([J[J)V"⟩ : MethodName)) hown (mvT hZ (hw _ (List.mem_of_getElem? (i := 59) rfl))) (mvT hZ (hw _ (List.mem_of_getElem? (i := 60) rfl))) (mvT hZ (hw _ (List.mem_of_getElem? (i := 20) rfl))) (mvT hZ (hw _ (List.mem_of_getElem? (i := 61) rfl))) (by decide) (backOfS (W := 0) (rm9_2 l Z aw hw [] bc a1 c0 c1 s0 s1 k_bc k_a1 h0 n0 Z0 V_bc V_a1 hs0 hs1 ht0 ht1) hZ (hw _ (List.mem_of_getElem? (i := 61) rfl)) (hw _ (List.mem_of_getElem? (i := 20) rfl)) (by decide) (by decide)) (g := (mkF m 5 #[.val (.ref a0), .val (.ref a1)] [(.ref a1), (.ref bc)])) rfl (by rw [hml]; rfl) (argsL := [(.ref bc), (.ref a1)]) (rest := []) (lenOf pd_5 rfl) rfl (by show 2 * 0 + _ ≤ _; exact Nat.le_of_eq rfl) (hb hby d8_5) (fun _ _ => ⟨rfl, e145, (by decide : 0 + 2 ≤ _), (by decide : 0 + 24 ≤ _)⟩)
  dsimp only [Pt.U, Pt.locs, Pt.cells, Pt.slots] at X146 l146 y146 z146 st146 hQ146 hSi146 hgr146
  subst l146 y146 z146
  obtain ⟨X146, hS, hZ, hown⟩ := rebS hS (show _ ≤ T145.heap.size from own_hk hk e145) X146 hSi146 hgr146 hZ hown
  obtain ⟨h146, e146⟩ : ∃ z, T146.heap = z := ⟨_, rfl⟩
  rw [e146] at hQ146
  obtain ⟨rfl, N146q, K146q⟩ := hQ146
  have f148 := E_a0.keep K146q
  have f149 := F_capacities_a0.keep K146q nin0
  have f150 := V_bc.keep K146q nin0
  have f151 := V_a1.keep K146q nin0
  have K146 := K0.trans K146q all0
  have Z146 := Nat.le_trans Z0 K146q.1
  have hk : T146.heap.size ≤ h146.size := by rw [e146]; exact Nat.le_refl _
  have N146 := Fr.app N0 N146q
  obtain ⟨fs, hr, hrun, hended, hRW⟩ := X146.leaveW hS (own_hk hk e146) (v := none) (fun _ => rfl)
  refine ⟨_, _, pre147 _ ?_, hrun, hended, _, _, rfl, ?_, hRW.1, hRW.2.1, hRW.2.2.1, hRW.2.2.2.mono (by decide) (by decide)⟩
  · skip
    show Steps p.tables e below (T145.setTop (mkF m 5 #[.val (.ref a0), .val (.ref a1)] [(.ref a1), (.ref bc)])) _
    refine st146.trans ?_
    show Steps p.tables e below (T146.setTop (mkF m 8 #[.val (.ref a0), .val (.ref a1)] [])) _
    exact X146.returnOut hx Bd.returns (hb hby d8_8) hr
  · show Q8_2 Z a0 a1 bc c0 c1 s0 s1 k_bc k_a1 h0 n0 _ T146.heap _
    rw [e146]
    exact ⟨rfl, N146, K146⟩
theorem d7_0 : decode prog_29_method_3_code 0 = .ok (.aload_n 0, 1) := by decide +kernel
theorem d7_1 : decode prog_29_method_3_code 1 = .ok (.aload_n 1, 1) := by decide +kernel
theorem pd_6 : parseMethodDescriptor "([J)V" = some ⟨[(.array .long)], none⟩ := by decide +kernel
theorem d7_2 : decode prog_29_method_3_code 2 = .ok (.invokevirtual 25, 3) := by decide +kernel
theorem d7_5 : decode prog_29_method_3_code 5 = .ok (.iconst 0, 1) := by decide +kernel
theorem d7_6 : decode prog_29_method_3_code 6 = .ok (.istore_n 2, 1) := by decide +kernel
theorem d7_7 : decode prog_29_method_3_code 7 = .ok (.iload_n 2, 1) := by decide +kernel
theorem d7_8 : decode prog_29_method_3_code 8 = .ok (.aload_n 1, 1) := by decide +kernel
theorem d7_9 : decode prog_29_method_3_code 9 = .ok (.arraylength, 1) := by decide +kernel
theorem d7_10 : decode prog_29_method_3_code 10 = .ok (.if_icmp .ge 67, 3) := by decide +kernel
theorem d7_13 : decode prog_29_method_3_code 13 = .ok (.aload_n 0, 1) := by decide +kernel
theorem d7_14 : decode prog_29_method_3_code 14 = .ok (.getfield 13, 3) := by decide +kernel
theorem d7_17 : decode prog_29_method_3_code 17 = .ok (.iload_n 2, 1) := by decide +kernel
theorem d7_18 : decode prog_29_method_3_code 18 = .ok (.laload, 1) := by decide +kernel
theorem d7_19 : decode prog_29_method_3_code 19 = .ok (.aload_n 0, 1) := by decide +kernel
theorem d7_20 : decode prog_29_method_3_code 20 = .ok (.getfield 22, 3) := by decide +kernel
theorem d7_23 : decode prog_29_method_3_code 23 = .ok (.iload_n 2, 1) := by decide +kernel
theorem d7_24 : decode prog_29_method_3_code 24 = .ok (.laload, 1) := by decide +kernel
theorem d7_25 : decode prog_29_method_3_code 25 = .ok (.lsub, 1) := by decide +kernel
theorem d7_26 : decode prog_29_method_3_code 26 = .ok (.lstore_n 3, 1) := by decide +kernel
theorem d7_27 : decode prog_29_method_3_code 27 = .ok (.aload_n 1, 1) := by decide +kernel
theorem d7_28 : decode prog_29_method_3_code 28 = .ok (.iload_n 2, 1) := by decide +kernel
theorem d7_29 : decode prog_29_method_3_code 29 = .ok (.laload, 1) := by decide +kernel
theorem d7_30 : decode prog_29_method_3_code 30 = .ok (.lload_n 3, 1) := by decide +kernel
theorem d7_31 : decode prog_29_method_3_code 31 = .ok (.lcmp, 1) := by decide +kernel
theorem d7_32 : decode prog_29_method_3_code 32 = .ok (.ifCond .lt 27, 3) := by decide +kernel
theorem d7_59 : decode prog_29_method_3_code 59 = .ok (.aload_n 0, 1) := by decide +kernel
theorem d7_60 : decode prog_29_method_3_code 60 = .ok (.getfield 22, 3) := by decide +kernel
theorem d7_63 : decode prog_29_method_3_code 63 = .ok (.iload_n 2, 1) := by decide +kernel
theorem d7_64 : decode prog_29_method_3_code 64 = .ok (.dup2, 1) := by decide +kernel
theorem d7_65 : decode prog_29_method_3_code 65 = .ok (.laload, 1) := by decide +kernel
theorem d7_66 : decode prog_29_method_3_code 66 = .ok (.aload_n 1, 1) := by decide +kernel
theorem d7_67 : decode prog_29_method_3_code 67 = .ok (.iload_n 2, 1) := by decide +kernel
theorem d7_68 : decode prog_29_method_3_code 68 = .ok (.laload, 1) := by decide +kernel
theorem d7_69 : decode prog_29_method_3_code 69 = .ok (.ladd, 1) := by decide +kernel
theorem d7_70 : decode prog_29_method_3_code 70 = .ok (.lastore, 1) := by decide +kernel
theorem d7_35 : decode prog_29_method_3_code 35 = .ok (.aload_n 0, 1) := by decide +kernel
theorem d7_36 : decode prog_29_method_3_code 36 = .ok (.getfield 19, 3) := by decide +kernel
theorem d7_39 : decode prog_29_method_3_code 39 = .ok (.iload_n 2, 1) := by decide +kernel
theorem d7_40 : decode prog_29_method_3_code 40 = .ok (.dup2, 1) := by decide +kernel
theorem d7_41 : decode prog_29_method_3_code 41 = .ok (.laload, 1) := by decide +kernel
theorem d7_42 : decode prog_29_method_3_code 42 = .ok (.lconst 1, 1) := by decide +kernel
theorem d7_43 : decode prog_29_method_3_code 43 = .ok (.ladd, 1) := by decide +kernel
theorem d7_44 : decode prog_29_method_3_code 44 = .ok (.lastore, 1) := by decide +kernel
theorem d7_45 : decode prog_29_method_3_code 45 = .ok (.aload_n 0, 1) := by decide +kernel
theorem d7_46 : decode prog_29_method_3_code 46 = .ok (.getfield 22, 3) := by decide +kernel
theorem d7_49 : decode prog_29_method_3_code 49 = .ok (.iload_n 2, 1) := by decide +kernel
theorem d7_50 : decode prog_29_method_3_code 50 = .ok (.aload_n 1, 1) := by decide +kernel
theorem d7_51 : decode prog_29_method_3_code 51 = .ok (.iload_n 2, 1) := by decide +kernel
theorem d7_52 : decode prog_29_method_3_code 52 = .ok (.laload, 1) := by decide +kernel
theorem d7_53 : decode prog_29_method_3_code 53 = .ok (.lload_n 3, 1) := by decide +kernel
theorem d7_54 : decode prog_29_method_3_code 54 = .ok (.lsub, 1) := by decide +kernel
theorem d7_55 : decode prog_29_method_3_code 55 = .ok (.lastore, 1) := by decide +kernel
theorem d7_56 : decode prog_29_method_3_code 56 = .ok (.goto 15, 3) := by decide +kernel
theorem d7_71 : decode prog_29_method_3_code 71 = .ok (.iinc 2 1, 3) := by decide +kernel
theorem d7_74 : decode prog_29_method_3_code 74 = .ok (.goto (-67), 3) := by decide +kernel
theorem d7_77 : decode prog_29_method_3_code 77 = .ok (.return_, 1) := by decide +kernel
def j7_2_0 (c0 : Int64) (w0 : Int64) (r0 : Int64) (s0 : Int64) : Int64 := (if s0 < (c0 - r0) then w0 else (w0 + (1 : Int64)))
def j7_2_1 (c0 : Int64) (r0 : Int64) (s0 : Int64) : Int64 := (if s0 < (c0 - r0) then (r0 + s0) else (s0 - (c0 - r0)))
def j7_2_2 (c1 : Int64) (w1 : Int64) (r1 : Int64) (s1 : Int64) : Int64 := (if s1 < (c1 - r1) then w1 else (w1 + (1 : Int64)))
def j7_2_3 (c1 : Int64) (r1 : Int64) (s1 : Int64) : Int64 := (if s1 < (c1 - r1) then (r1 + s1) else (s1 - (c1 - r1)))
theorem ef7_2 (m : MethodId) (x0 : Addr) (x1 : Addr) : entryFrame m #[(.ref x0), (.ref x1)] 5 = mkF m 0 #[.val (.ref x0), .val (.ref x1), .unset, .unset, .unset] [] := by first | (simp [entryFrame, mkF, argsToLocals, Value.category]; done) | rfl
abbrev rr7_2 : Room := { frames := 3, cells := 2, slots := 24, locals := 40 }
def Q7_2 (Z : State) (a0 : Addr) (a1 : Addr) (bc : Addr) (bw : Addr) (br : Addr) (c0 : Int64) (c1 : Int64) (w0 : Int64) (w1 : Int64) (r0 : Int64) (r1 : Int64) (s0 : Int64) (s1 : Int64) (k_bc : ClassId) (k_bw : ClassId) (k_br : ClassId) (k_a1 : ClassId) (h0 : Heap) (n0 : Nat) (v : Option Value) (h : Heap) (L : List Loc) : Prop := v = none ∧ Fr n0 L ∧ Keep h0 h [bw, br] ∧ Arv Z h bw k_bw .long (2 : Int32) [(.long (j7_2_0 c0 w0 r0 s0)), (.long (j7_2_2 c1 w1 r1 s1))] (.long (0 : Int64)) ∧ Arv Z h br k_br .long (2 : Int32) [(.long (j7_2_1 c0 r0 s0)), (.long (j7_2_3 c1 r1 s1))] (.long (0 : Int64))
set_option maxRecDepth 65536 in
set_option maxHeartbeats 40000000 in
theorem rm7_2 (l : Launch) (Z : State) (aw : Array Value) (hw : ∀ d ∈ tables_1, d.before aw Z = true) (ws : List Jvm.Cond) (a0 : Addr) (a1 : Addr) (bc : Addr) (bw : Addr) (br : Addr) (c0 : Int64) (c1 : Int64) (w0 : Int64) (w1 : Int64) (r0 : Int64) (r1 : Int64) (s0 : Int64) (s1 : Int64) (k_bc : ClassId) (k_bw : ClassId) (k_br : ClassId) (k_a1 : ClassId) (h0 : Heap) (n0 : Nat) (Z0 : n0 ≤ h0.size) (E_a0 : Exa Z h0 a0 "com/example/stowline/stowline/VolumeBound") (F_capacities_a0 : Fld Z h0 a0 "com/example/stowline/stowline/VolumeBound" "capacities" "[J" (.ref bc)) (F_wholeCapacities_a0 : Fld Z h0 a0 "com/example/stowline/stowline/VolumeBound" "wholeCapacities" "[J" (.ref bw)) (F_remainders_a0 : Fld Z h0 a0 "com/example/stowline/stowline/VolumeBound" "remainders" "[J" (.ref br)) (V_bc : Arv Z h0 bc k_bc .long (2 : Int32) [(.long c0), (.long c1)] (.long (0 : Int64))) (V_bw : Arv Z h0 bw k_bw .long (2 : Int32) [(.long w0), (.long w1)] (.long (0 : Int64))) (V_br : Arv Z h0 br k_br .long (2 : Int32) [(.long r0), (.long r1)] (.long (0 : Int64))) (V_a1 : Arv Z h0 a1 k_a1 .long (2 : Int32) [(.long s0), (.long s1)] (.long (0 : Int64))) (g_bw : n0 ≤ bw) (g_br : n0 ≤ br) (ne_a0_bw : a0 ≠ bw) (ne_a0_br : a0 ≠ br) (ne_bc_bw : bc ≠ bw) (ne_bc_br : bc ≠ br) (ne_bw_br : bw ≠ br) (ne_a1_bw : a1 ≠ bw) (ne_a1_br : a1 ≠ br) (hs0 : ¬ s0 < (0 : Int64)) (hs1 : ¬ s1 < (0 : Int64)) (ht0 : ¬ c0 < s0) (ht1 : ¬ c1 < s1) :
    MetFree l (⟨"com/example/stowline/stowline/VolumeBound", "add", "([J)V"⟩ : MethodName) (head1 (Jvm.Cond.code (⟨"com/example/stowline/stowline/VolumeBound", "add", "([J)V"⟩ : MethodName) prog_29_method_3_code 5 none :: ws) rr7_2) (fun a U => a = #[(.ref a0), (.ref a1)] ∧ Z.Warmed39 U.vm ∧ U.heap = h0) (fun _ _ _ _ _ => True) (fun _ U o U' => ∃ v L, o = .returned v ∧ Q7_2 Z a0 a1 bc bw br c0 c1 w0 w1 r0 r1 s0 s1 k_bc k_bw k_br k_a1 h0 n0 v U'.heap L ∧ ReturnedEndW U o U' L rr7_2.cells rr7_2.slots) := by
  refine MetFree.of_bodySF (plainFor_of_name pn_3) hisR ?_
  intro p e s m args below meth c s₁ Bd hml0 hP hK
  obtain ⟨rfl, hZ, hh⟩ := hP
  have hx := Bd.exec
  have hby := Bd.bytes
  have hml : c.maxLocals = 5 := hml0
  have hown : s.vm.findClass "com/example/stowline/stowline/VolumeBound" = some m.cls := findClass_of_methodNamed Bd.named
  have hnm := (name_of_methodNamed Bd.named Bd.method).1
  have X0 : Stand p l e rr7_2 (s.setVm s.vm) m #[(.ref a0), (.ref a1)] below meth c s₁ [] 0 0 := Stand.of_body Bd
  have e0 : s₁.heap = h0 := by rw [← hh, Bd.state]; rfl
  have N0 := Fr.nil n0
  have K0 := Keep.refl h0 [bw, br]
  have hS : s.Since s.vm 0 := (State.WarmedH.refl s).since 0
  have hk : 0 ≤ h0.size := Nat.zero_le _
  have hstr : ∀ a ∈ Bundle.stringAtoms, a.before aw Z = true := fun d hd => hw d ((by decide +kernel : ∀ d ∈ Bundle.stringAtoms, d ∈ tables_1) d hd)
  have pre0 : ∀ t, Steps p.tables e below (s₁.setTop (mkF m 0 #[.val (.ref a0), .val (.ref a1), .unset, .unset, .unset] [])) t → Steps p.tables e below (s₁.setTop (entryFrame m #[(.ref a0), (.ref a1)] 5)) t := fun t k => castTop (ef7_2 m a0 a1) k
  have pre153 := fun (t : State) (k : Steps p.tables e below (s₁.setTop (mkF m 2 #[.val (.ref a0), .val (.ref a1), .unset, .unset, .unset] [(.ref a1), (.ref a0)])) t) => pre0 t (by
    show Steps p.tables e below (s₁.setTop (mkF m 0 #[.val (.ref a0), .val (.ref a1), .unset, .unset, .unset] [])) _
    refine XS.aloadN X0.here hx rfl (hb hby d7_0) rfl rfl ?_
    show Steps p.tables e below (s₁.setTop (mkF m 1 #[.val (.ref a0), .val (.ref a1), .unset, .unset, .unset] [(.ref a0)])) _
    refine XS.aloadN X0.here hx rfl (hb hby d7_1) rfl rfl ?_
    exact k)
  obtain ⟨cq152, kq152, q152a, q152b, q152c⟩ := isOf hZ e0 E_a0
  obtain ⟨_, _, ⟨T152, L152, k152, n152⟩, -, X152, hSi152, hgr152, ⟨Lc152, hQ152, l152, y152, z152⟩, st152⟩ := X0.virtualBackS hx (y := (⟨"com/example/stowline/stowline/VolumeBound", "checkSizes", "([J)V"⟩ : MethodName)) (z := (⟨"com/example/stowline/stowline/VolumeBound", "checkSizes", "([J)V"⟩ : MethodName)) hown (mvT hZ (hw _ (List.mem_of_getElem? (i := 54) rfl))) (mvT hZ (hw _ (List.mem_of_getElem? (i := 55) rfl))) (notFace_of_selects (args := #[]) (mvT hZ (hw _ (List.mem_of_getElem? (i := 57) rfl)))) (mvT hZ (hw _ (List.mem_of_getElem? (i := 57) rfl))) (mvT hZ (hw _ (List.mem_of_getElem? (i := 56) rfl))) (by decide) (backOfS (W := 0) (rm8_2 l Z aw hw [] a0 a1 bc c0 c1 s0 s1 k_bc k_a1 h0 n0 Z0 E_a0 F_capacities_a0 V_bc V_a1 hs0 hs1 ht0 ht1) hZ (hw _ (List.mem_of_getElem? (i := 58) rfl)) (hw _ (List.mem_of_getElem? (i := 11) rfl)) (by decide) (by decide)) q152a q152c (g := (mkF m 2 #[.val (.ref a0), .val (.ref a1), .unset, .unset, .unset] [(.ref a1), (.ref a0)])) rfl (by rw [hml]; rfl) (Steps.refl _) (argsL := [(.ref a1)]) (rest := []) (lenOf pd_6 rfl) rfl (by show 2 * 0 + _ ≤ _; exact Nat.le_of_eq rfl) (hb hby d7_2) (fun _ _ => ⟨rfl, e0, (by decide : 0 + 2 ≤ _), (by decide : 0 + 24 ≤ _)⟩)
  dsimp only [Pt.U, Pt.locs, Pt.cells, Pt.slots] at X152 l152 y152 z152 st152 hQ152 hSi152 hgr152
  subst l152 y152 z152
  obtain ⟨X152, hS, hZ, hown⟩ := rebS hS (show _ ≤ s₁.heap.size from own_hk hk e0) X152 hSi152 hgr152 hZ hown
  obtain ⟨h152, e152⟩ : ∃ z, T152.heap = z := ⟨_, rfl⟩
  rw [e152] at hQ152
  obtain ⟨rfl, N152q, K152q⟩ := hQ152
  have f154 := E_a0.keep K152q
  have f155 := F_capacities_a0.keep K152q nin0
  have f156 := F_wholeCapacities_a0.keep K152q nin0
  have f157 := F_remainders_a0.keep K152q nin0
  have f158 := V_bc.keep K152q nin0
  have f159 := V_bw.keep K152q nin0
  have f160 := V_br.keep K152q nin0
  have f161 := V_a1.keep K152q nin0
  have K152 := K0.trans K152q all0
  have Z152 := Nat.le_trans Z0 K152q.1
  have hk : T152.heap.size ≤ h152.size := by rw [e152]; exact Nat.le_refl _
  have N152 := Fr.app N0 N152q
  obtain ⟨cl162, Ar162, q162, S162, M162, H162, G162⟩ := id f161
  obtain ⟨T163, X163, e163, st163⟩ := getF X152 hx hZ hown (host := "") (Or.inl (hw _ (List.mem_of_getElem? (i := 43) rfl))) Via.refl e152 f155 (g := (mkF m 14 #[.val (.ref a0), .val (.ref a1), .val (.int (0 : Int32)), .unset, .unset] [(.ref a0)])) rfl rfl (hb hby d7_14)
  obtain ⟨cl164, Ar164, q164, S164, M164, H164, G164⟩ := id f158
  have hin165 : ¬ ((0 : Int32) < 0 ∨ cl164.slots.size ≤ ((0 : Int32)).toNatClampNeg) := inb_of S164 ⟨by decide, by decide⟩
  have hat166 : cl164.slots[((0 : Int32)).toNatClampNeg]? = some (.long c0) := H164.at hin165 rfl
  obtain ⟨T167, X167, e167, st167⟩ := getF X163 hx hZ hown (host := "") (Or.inl (hw _ (List.mem_of_getElem? (i := 47) rfl))) Via.refl e163 f157 (g := (mkF m 20 #[.val (.ref a0), .val (.ref a1), .val (.int (0 : Int32)), .unset, .unset] [(.ref a0), (.long c0)])) rfl rfl (hb hby d7_20)
  obtain ⟨cl168, Ar168, q168, S168, M168, H168, G168⟩ := id f160
  have hin169 : ¬ ((0 : Int32) < 0 ∨ cl168.slots.size ≤ ((0 : Int32)).toNatClampNeg) := inb_of S168 ⟨by decide, by decide⟩
  have hat170 : cl168.slots[((0 : Int32)).toNatClampNeg]? = some (.long r0) := H168.at hin169 rfl
  obtain ⟨cl171, Ar171, q171, S171, M171, H171, G171⟩ := id f161
  have hin172 : ¬ ((0 : Int32) < 0 ∨ cl171.slots.size ≤ ((0 : Int32)).toNatClampNeg) := inb_of S171 ⟨by decide, by decide⟩
  have hat173 : cl171.slots[((0 : Int32)).toNatClampNeg]? = some (.long s0) := H171.at hin172 rfl
  have pre231 := fun (t : State) (k : Steps p.tables e below (T167.setTop (mkF m 32 #[.val (.ref a0), .val (.ref a1), .val (.int (0 : Int32)), .val (.long (c0 - r0)), .second] [(.int (lcmpW s0 (c0 - r0)))])) t) => pre153 t (by
    show Steps p.tables e below (s₁.setTop (mkF m 2 #[.val (.ref a0), .val (.ref a1), .unset, .unset, .unset] [(.ref a1), (.ref a0)])) _
    refine st152.trans ?_
    show Steps p.tables e below (T152.setTop (mkF m 5 #[.val (.ref a0), .val (.ref a1), .unset, .unset, .unset] [])) _
    refine XS.iconst X152.here hx rfl (hb hby d7_5) ?_
    show Steps p.tables e below (T152.setTop (mkF m 6 #[.val (.ref a0), .val (.ref a1), .unset, .unset, .unset] [(.int (0 : Int32))])) _
    refine XS.istoreN X152.here hx rfl (hb hby d7_6) rfl (l' := #[.val (.ref a0), .val (.ref a1), .val (.int (0 : Int32)), .unset, .unset]) rfl ?_
    show Steps p.tables e below (T152.setTop (mkF m 7 #[.val (.ref a0), .val (.ref a1), .val (.int (0 : Int32)), .unset, .unset] [])) _
    refine XS.iloadN X152.here hx rfl (hb hby d7_7) rfl ?_
    show Steps p.tables e below (T152.setTop (mkF m 8 #[.val (.ref a0), .val (.ref a1), .val (.int (0 : Int32)), .unset, .unset] [(.int (0 : Int32))])) _
    refine XS.aloadN X152.here hx rfl (hb hby d7_8) rfl rfl ?_
    show Steps p.tables e below (T152.setTop (mkF m 9 #[.val (.ref a0), .val (.ref a1), .val (.int (0 : Int32)), .unset, .unset] [(.ref a1), (.int (0 : Int32))])) _
    refine X152.arraylength hx (by rw [e152]; exact Ar162.1) (State.isArrayOf_alike hZ.alike Ar162.2.1) (g := (mkF m 9 #[.val (.ref a0), .val (.ref a1), .val (.int (0 : Int32)), .unset, .unset] [(.ref a1), (.int (0 : Int32))])) rfl rfl (hb hby d7_9) _ ?_
    rw [len_of S162 M162]
    show Steps p.tables e below (T152.setTop (mkF m 10 #[.val (.ref a0), .val (.ref a1), .val (.int (0 : Int32)), .unset, .unset] [(.int (2 : Int32)), (.int (0 : Int32))])) _
    refine XS.icmpNo X152.here hx rfl (hb hby d7_10) rfl (tlt (by decide : (0 : Int32) < (2 : Int32))).2.1 ?_
    show Steps p.tables e below (T152.setTop (mkF m 13 #[.val (.ref a0), .val (.ref a1), .val (.int (0 : Int32)), .unset, .unset] [])) _
    refine XS.aloadN X152.here hx rfl (hb hby d7_13) rfl rfl ?_
    show Steps p.tables e below (T152.setTop (mkF m 14 #[.val (.ref a0), .val (.ref a1), .val (.int (0 : Int32)), .unset, .unset] [(.ref a0)])) _
    refine st163 _ ?_
    show Steps p.tables e below (T163.setTop (mkF m 17 #[.val (.ref a0), .val (.ref a1), .val (.int (0 : Int32)), .unset, .unset] [(.ref bc)])) _
    refine XS.iloadN X163.here hx rfl (hb hby d7_17) rfl ?_
    show Steps p.tables e below (T163.setTop (mkF m 18 #[.val (.ref a0), .val (.ref a1), .val (.int (0 : Int32)), .unset, .unset] [(.int (0 : Int32)), (.ref bc)])) _
    refine X163.laload hx (j := (0 : Int32)) (v := (.long c0)) (by rw [e163]; exact Ar164.1) (State.isArrayOf_alike hZ.alike Ar164.2.1) Ar164.2.2 hin165 hat166 (g := (mkF m 18 #[.val (.ref a0), .val (.ref a1), .val (.int (0 : Int32)), .unset, .unset] [(.int (0 : Int32)), (.ref bc)])) rfl rfl (hb hby d7_18) _ ?_
    show Steps p.tables e below (T163.setTop (mkF m 19 #[.val (.ref a0), .val (.ref a1), .val (.int (0 : Int32)), .unset, .unset] [(.long c0)])) _
    refine XS.aloadN X163.here hx rfl (hb hby d7_19) rfl rfl ?_
    show Steps p.tables e below (T163.setTop (mkF m 20 #[.val (.ref a0), .val (.ref a1), .val (.int (0 : Int32)), .unset, .unset] [(.ref a0), (.long c0)])) _
    refine st167 _ ?_
    show Steps p.tables e below (T167.setTop (mkF m 23 #[.val (.ref a0), .val (.ref a1), .val (.int (0 : Int32)), .unset, .unset] [(.ref br), (.long c0)])) _
    refine XS.iloadN X167.here hx rfl (hb hby d7_23) rfl ?_
    show Steps p.tables e below (T167.setTop (mkF m 24 #[.val (.ref a0), .val (.ref a1), .val (.int (0 : Int32)), .unset, .unset] [(.int (0 : Int32)), (.ref br), (.long c0)])) _
    refine X167.laload hx (j := (0 : Int32)) (v := (.long r0)) (by rw [e167]; exact Ar168.1) (State.isArrayOf_alike hZ.alike Ar168.2.1) Ar168.2.2 hin169 hat170 (g := (mkF m 24 #[.val (.ref a0), .val (.ref a1), .val (.int (0 : Int32)), .unset, .unset] [(.int (0 : Int32)), (.ref br), (.long c0)])) rfl rfl (hb hby d7_24) _ ?_
    show Steps p.tables e below (T167.setTop (mkF m 25 #[.val (.ref a0), .val (.ref a1), .val (.int (0 : Int32)), .unset, .unset] [(.long r0), (.long c0)])) _
    refine XS.lsub X167.here hx rfl (hb hby d7_25) rfl ?_
    show Steps p.tables e below (T167.setTop (mkF m 26 #[.val (.ref a0), .val (.ref a1), .val (.int (0 : Int32)), .unset, .unset] [(.long (c0 - r0))])) _
    refine XS.lstoreN X167.here hx rfl (hb hby d7_26) rfl (l' := #[.val (.ref a0), .val (.ref a1), .val (.int (0 : Int32)), .val (.long (c0 - r0)), .second]) rfl ?_
    show Steps p.tables e below (T167.setTop (mkF m 27 #[.val (.ref a0), .val (.ref a1), .val (.int (0 : Int32)), .val (.long (c0 - r0)), .second] [])) _
    refine XS.aloadN X167.here hx rfl (hb hby d7_27) rfl rfl ?_
    show Steps p.tables e below (T167.setTop (mkF m 28 #[.val (.ref a0), .val (.ref a1), .val (.int (0 : Int32)), .val (.long (c0 - r0)), .second] [(.ref a1)])) _
    refine XS.iloadN X167.here hx rfl (hb hby d7_28) rfl ?_
    show Steps p.tables e below (T167.setTop (mkF m 29 #[.val (.ref a0), .val (.ref a1), .val (.int (0 : Int32)), .val (.long (c0 - r0)), .second] [(.int (0 : Int32)), (.ref a1)])) _
    refine X167.laload hx (j := (0 : Int32)) (v := (.long s0)) (by rw [e167]; exact Ar171.1) (State.isArrayOf_alike hZ.alike Ar171.2.1) Ar171.2.2 hin172 hat173 (g := (mkF m 29 #[.val (.ref a0), .val (.ref a1), .val (.int (0 : Int32)), .val (.long (c0 - r0)), .second] [(.int (0 : Int32)), (.ref a1)])) rfl rfl (hb hby d7_29) _ ?_
    show Steps p.tables e below (T167.setTop (mkF m 30 #[.val (.ref a0), .val (.ref a1), .val (.int (0 : Int32)), .val (.long (c0 - r0)), .second] [(.long s0)])) _
    refine XS.lloadN X167.here hx rfl (hb hby d7_30) rfl ?_
    show Steps p.tables e below (T167.setTop (mkF m 31 #[.val (.ref a0), .val (.ref a1), .val (.int (0 : Int32)), .val (.long (c0 - r0)), .second] [(.long (c0 - r0)), (.long s0)])) _
    refine XS.lcmp X167.here hx rfl (hb hby d7_31) rfl ?_
    exact k)
  obtain ⟨T232, h232, L232, X232, e232, N232, Z232, hk, K232, f232_0, f232_1, f232_2, f232_3, f232_4, f232_5, f232_6, f232_7, pre232⟩ : ∃ (T232 : State) (h232 : Heap) (L232 : List Loc), Stand p l e rr7_2 (s.setVm T152.vm) m #[(.ref a0), (.ref a1)] below meth c T232 L232 2 24 ∧ T232.heap = h232 ∧ Fr n0 L232 ∧ n0 ≤ h232.size ∧ T152.heap.size ≤ h232.size ∧ Keep h0 h232 [bw, br] ∧ Exa Z h232 a0 "com/example/stowline/stowline/VolumeBound" ∧ Fld Z h232 a0 "com/example/stowline/stowline/VolumeBound" "capacities" "[J" (.ref bc) ∧ Fld Z h232 a0 "com/example/stowline/stowline/VolumeBound" "wholeCapacities" "[J" (.ref bw) ∧ Fld Z h232 a0 "com/example/stowline/stowline/VolumeBound" "remainders" "[J" (.ref br) ∧ Arv Z h232 bc k_bc .long (2 : Int32) [(.long c0), (.long c1)] (.long (0 : Int64)) ∧ Arv Z h232 bw k_bw .long (2 : Int32) [(.long (j7_2_0 c0 w0 r0 s0)), (.long w1)] (.long (0 : Int64)) ∧ Arv Z h232 br k_br .long (2 : Int32) [(.long (j7_2_1 c0 r0 s0)), (.long r1)] (.long (0 : Int64)) ∧ Arv Z h232 a1 k_a1 .long (2 : Int32) [(.long s0), (.long s1)] (.long (0 : Int64)) ∧ ∀ t, Steps p.tables e below (T232.setTop (mkF m 71 #[.val (.ref a0), .val (.ref a1), .val (.int (0 : Int32)), .val (.long (c0 - r0)), .second] [])) t → Steps p.tables e below (s₁.setTop (entryFrame m #[(.ref a0), (.ref a1)] 5)) t := by
    by_cases hc233 : s0 < (c0 - r0)
    · skip
      obtain ⟨T234, X234, e234, st234⟩ := getF X167 hx hZ hown (host := "") (Or.inl (hw _ (List.mem_of_getElem? (i := 47) rfl))) Via.refl e167 f157 (g := (mkF m 60 #[.val (.ref a0), .val (.ref a1), .val (.int (0 : Int32)), .val (.long (c0 - r0)), .second] [(.ref a0)])) rfl rfl (hb hby d7_60)
      obtain ⟨cl235, Ar235, q235, S235, M235, H235, G235⟩ := id f160
      have hin236 : ¬ ((0 : Int32) < 0 ∨ cl235.slots.size ≤ ((0 : Int32)).toNatClampNeg) := inb_of S235 ⟨by decide, by decide⟩
      have hat237 : cl235.slots[((0 : Int32)).toNatClampNeg]? = some (.long r0) := H235.at hin236 rfl
      obtain ⟨cl238, Ar238, q238, S238, M238, H238, G238⟩ := id f161
      have hin239 : ¬ ((0 : Int32) < 0 ∨ cl238.slots.size ≤ ((0 : Int32)).toNatClampNeg) := inb_of S238 ⟨by decide, by decide⟩
      have hat240 : cl238.slots[((0 : Int32)).toNatClampNeg]? = some (.long s0) := H238.at hin239 rfl
      obtain ⟨cl241, Ar241, q241, S241, M241, H241, G241⟩ := id f160
      have hin242 : ¬ ((0 : Int32) < 0 ∨ cl241.slots.size ≤ ((0 : Int32)).toNatClampNeg) := inb_of S241 ⟨by decide, by decide⟩
      obtain ⟨T243, h243, X243, e243, W243, st243⟩ := stJ X234 hx hZ e234 Ar241 (j := (0 : Int32)) hin242 (g := (mkF m 70 #[.val (.ref a0), .val (.ref a1), .val (.int (0 : Int32)), .val (.long (c0 - r0)), .second] [(.long (r0 + s0)), (.int (0 : Int32)), (.ref br)])) rfl rfl (hb hby d7_70)
      have V243 : Arv Z h243 br k_br .long (2 : Int32) [(.long (r0 + s0)), (.long r1)] (.long (0 : Int64)) := Arv.set Ar241 q241 S241 M241 H241 G241 rfl W243 0 rfl (Nat.le_of_ble_eq_true rfl)
      have f244 := f154.wr W243
      have f245 := f155.other W243 (Or.inl ne_a0_br)
      have f246 := f156.other W243 (Or.inl ne_a0_br)
      have f247 := f157.other W243 (Or.inl ne_a0_br)
      have f248 := f158.other W243 ne_bc_br
      have f249 := f159.other W243 ne_bw_br
      have f251 := f161.other W243 ne_a1_br
      have K252 := K152.wr W243 (Or.inl (List.mem_of_getElem? (i := 1) rfl))
      have Z253 := Nat.le_trans Z152 (Keep.of_wr W243).1
      have hk := Nat.le_trans hk (Keep.of_wr W243).1
      have N254 := Fr.snoc X243 N152 g_br
      have pre255 := fun (t : State) (k : Steps p.tables e below (T243.setTop (mkF m 71 #[.val (.ref a0), .val (.ref a1), .val (.int (0 : Int32)), .val (.long (c0 - r0)), .second] [])) t) => pre231 t (by
        show Steps p.tables e below (T167.setTop (mkF m 32 #[.val (.ref a0), .val (.ref a1), .val (.int (0 : Int32)), .val (.long (c0 - r0)), .second] [(.int (lcmpW s0 (c0 - r0)))])) _
        refine XS.ifYes X167.here hx rfl (pc0 := 32) (pc' := 59) rfl (hb hby d7_32) rfl ((if0 _ _).trans (tlt ((own_lt s0 (c0 - r0)).mpr hc233)).1) (by decide) (by decide) ?_
        show Steps p.tables e below (T167.setTop (mkF m 59 #[.val (.ref a0), .val (.ref a1), .val (.int (0 : Int32)), .val (.long (c0 - r0)), .second] [])) _
        refine XS.aloadN X167.here hx rfl (hb hby d7_59) rfl rfl ?_
        show Steps p.tables e below (T167.setTop (mkF m 60 #[.val (.ref a0), .val (.ref a1), .val (.int (0 : Int32)), .val (.long (c0 - r0)), .second] [(.ref a0)])) _
        refine st234 _ ?_
        show Steps p.tables e below (T234.setTop (mkF m 63 #[.val (.ref a0), .val (.ref a1), .val (.int (0 : Int32)), .val (.long (c0 - r0)), .second] [(.ref br)])) _
        refine XS.iloadN X234.here hx rfl (hb hby d7_63) rfl ?_
        show Steps p.tables e below (T234.setTop (mkF m 64 #[.val (.ref a0), .val (.ref a1), .val (.int (0 : Int32)), .val (.long (c0 - r0)), .second] [(.int (0 : Int32)), (.ref br)])) _
        refine XT.dup2 X234.here hx rfl (hb hby d7_64) rfl rfl rfl ?_
        show Steps p.tables e below (T234.setTop (mkF m 65 #[.val (.ref a0), .val (.ref a1), .val (.int (0 : Int32)), .val (.long (c0 - r0)), .second] [(.int (0 : Int32)), (.ref br), (.int (0 : Int32)), (.ref br)])) _
        refine X234.laload hx (j := (0 : Int32)) (v := (.long r0)) (by rw [e234]; exact Ar235.1) (State.isArrayOf_alike hZ.alike Ar235.2.1) Ar235.2.2 hin236 hat237 (g := (mkF m 65 #[.val (.ref a0), .val (.ref a1), .val (.int (0 : Int32)), .val (.long (c0 - r0)), .second] [(.int (0 : Int32)), (.ref br), (.int (0 : Int32)), (.ref br)])) rfl rfl (hb hby d7_65) _ ?_
        show Steps p.tables e below (T234.setTop (mkF m 66 #[.val (.ref a0), .val (.ref a1), .val (.int (0 : Int32)), .val (.long (c0 - r0)), .second] [(.long r0), (.int (0 : Int32)), (.ref br)])) _
        refine XS.aloadN X234.here hx rfl (hb hby d7_66) rfl rfl ?_
        show Steps p.tables e below (T234.setTop (mkF m 67 #[.val (.ref a0), .val (.ref a1), .val (.int (0 : Int32)), .val (.long (c0 - r0)), .second] [(.ref a1), (.long r0), (.int (0 : Int32)), (.ref br)])) _
        refine XS.iloadN X234.here hx rfl (hb hby d7_67) rfl ?_
        show Steps p.tables e below (T234.setTop (mkF m 68 #[.val (.ref a0), .val (.ref a1), .val (.int (0 : Int32)), .val (.long (c0 - r0)), .second] [(.int (0 : Int32)), (.ref a1), (.long r0), (.int (0 : Int32)), (.ref br)])) _
        refine X234.laload hx (j := (0 : Int32)) (v := (.long s0)) (by rw [e234]; exact Ar238.1) (State.isArrayOf_alike hZ.alike Ar238.2.1) Ar238.2.2 hin239 hat240 (g := (mkF m 68 #[.val (.ref a0), .val (.ref a1), .val (.int (0 : Int32)), .val (.long (c0 - r0)), .second] [(.int (0 : Int32)), (.ref a1), (.long r0), (.int (0 : Int32)), (.ref br)])) rfl rfl (hb hby d7_68) _ ?_
        show Steps p.tables e below (T234.setTop (mkF m 69 #[.val (.ref a0), .val (.ref a1), .val (.int (0 : Int32)), .val (.long (c0 - r0)), .second] [(.long s0), (.long r0), (.int (0 : Int32)), (.ref br)])) _
        refine XS.ladd X234.here hx rfl (hb hby d7_69) rfl ?_
        show Steps p.tables e below (T234.setTop (mkF m 70 #[.val (.ref a0), .val (.ref a1), .val (.int (0 : Int32)), .val (.long (c0 - r0)), .second] [(.long (r0 + s0)), (.int (0 : Int32)), (.ref br)])) _
        refine st243 _ ?_
        exact k)
      have hj256 : (j7_2_0 c0 w0 r0 s0) = w0 := by unfold j7_2_0; first | (rw [if_pos hc233]) | (simp only [if_pos hc233])
      have hj257 : (j7_2_1 c0 r0 s0) = (r0 + s0) := by unfold j7_2_1; first | (rw [if_pos hc233]) | (simp only [if_pos hc233])
      exact ⟨T243, h243, _, X243, e243, N254, Z253, hk, K252, f244, f245, f246, f247, f248, (by rw [hj256]; exact f249), (by rw [hj257]; exact V243), f251, fun t k => pre255 t (by exact k)⟩
    · skip
      obtain ⟨T258, X258, e258, st258⟩ := getF X167 hx hZ hown (host := "") (Or.inl (hw _ (List.mem_of_getElem? (i := 45) rfl))) Via.refl e167 f156 (g := (mkF m 36 #[.val (.ref a0), .val (.ref a1), .val (.int (0 : Int32)), .val (.long (c0 - r0)), .second] [(.ref a0)])) rfl rfl (hb hby d7_36)
      obtain ⟨cl259, Ar259, q259, S259, M259, H259, G259⟩ := id f159
      have hin260 : ¬ ((0 : Int32) < 0 ∨ cl259.slots.size ≤ ((0 : Int32)).toNatClampNeg) := inb_of S259 ⟨by decide, by decide⟩
      have hat261 : cl259.slots[((0 : Int32)).toNatClampNeg]? = some (.long w0) := H259.at hin260 rfl
      obtain ⟨cl262, Ar262, q262, S262, M262, H262, G262⟩ := id f159
      have hin263 : ¬ ((0 : Int32) < 0 ∨ cl262.slots.size ≤ ((0 : Int32)).toNatClampNeg) := inb_of S262 ⟨by decide, by decide⟩
      obtain ⟨T264, h264, X264, e264, W264, st264⟩ := stJ X258 hx hZ e258 Ar262 (j := (0 : Int32)) hin263 (g := (mkF m 44 #[.val (.ref a0), .val (.ref a1), .val (.int (0 : Int32)), .val (.long (c0 - r0)), .second] [(.long (w0 + (1 : Int64))), (.int (0 : Int32)), (.ref bw)])) rfl rfl (hb hby d7_44)
      have V264 : Arv Z h264 bw k_bw .long (2 : Int32) [(.long (w0 + (1 : Int64))), (.long w1)] (.long (0 : Int64)) := Arv.set Ar262 q262 S262 M262 H262 G262 rfl W264 0 rfl (Nat.le_of_ble_eq_true rfl)
      have f265 := f154.wr W264
      have f266 := f155.other W264 (Or.inl ne_a0_bw)
      have f267 := f156.other W264 (Or.inl ne_a0_bw)
      have f268 := f157.other W264 (Or.inl ne_a0_bw)
      have f269 := f158.other W264 ne_bc_bw
      have f271 := f160.other W264 (Ne.symm ne_bw_br)
      have f272 := f161.other W264 ne_a1_bw
      have K273 := K152.wr W264 (Or.inl (List.mem_of_getElem? (i := 0) rfl))
      have Z274 := Nat.le_trans Z152 (Keep.of_wr W264).1
      have hk := Nat.le_trans hk (Keep.of_wr W264).1
      have N275 := Fr.snoc X264 N152 g_bw
      obtain ⟨T276, X276, e276, st276⟩ := getF X264 hx hZ hown (host := "") (Or.inl (hw _ (List.mem_of_getElem? (i := 47) rfl))) Via.refl e264 f268 (g := (mkF m 46 #[.val (.ref a0), .val (.ref a1), .val (.int (0 : Int32)), .val (.long (c0 - r0)), .second] [(.ref a0)])) rfl rfl (hb hby d7_46)
      obtain ⟨cl277, Ar277, q277, S277, M277, H277, G277⟩ := id f272
      have hin278 : ¬ ((0 : Int32) < 0 ∨ cl277.slots.size ≤ ((0 : Int32)).toNatClampNeg) := inb_of S277 ⟨by decide, by decide⟩
      have hat279 : cl277.slots[((0 : Int32)).toNatClampNeg]? = some (.long s0) := H277.at hin278 rfl
      obtain ⟨cl280, Ar280, q280, S280, M280, H280, G280⟩ := id f271
      have hin281 : ¬ ((0 : Int32) < 0 ∨ cl280.slots.size ≤ ((0 : Int32)).toNatClampNeg) := inb_of S280 ⟨by decide, by decide⟩
      obtain ⟨T282, h282, X282, e282, W282, st282⟩ := stJ X276 hx hZ e276 Ar280 (j := (0 : Int32)) hin281 (g := (mkF m 55 #[.val (.ref a0), .val (.ref a1), .val (.int (0 : Int32)), .val (.long (c0 - r0)), .second] [(.long (s0 - (c0 - r0))), (.int (0 : Int32)), (.ref br)])) rfl rfl (hb hby d7_55)
      have V282 : Arv Z h282 br k_br .long (2 : Int32) [(.long (s0 - (c0 - r0))), (.long r1)] (.long (0 : Int64)) := Arv.set Ar280 q280 S280 M280 H280 G280 rfl W282 0 rfl (Nat.le_of_ble_eq_true rfl)
      have f283 := f265.wr W282
      have f284 := f266.other W282 (Or.inl ne_a0_br)
      have f285 := f267.other W282 (Or.inl ne_a0_br)
      have f286 := f268.other W282 (Or.inl ne_a0_br)
      have f287 := f269.other W282 ne_bc_br
      have f288 := V264.other W282 ne_bw_br
      have f290 := f272.other W282 ne_a1_br
      have K291 := K273.wr W282 (Or.inl (List.mem_of_getElem? (i := 1) rfl))
      have Z292 := Nat.le_trans Z274 (Keep.of_wr W282).1
      have hk := Nat.le_trans hk (Keep.of_wr W282).1
      have N293 := Fr.snoc X282 N275 g_br
      have pre294 := fun (t : State) (k : Steps p.tables e below (T282.setTop (mkF m 71 #[.val (.ref a0), .val (.ref a1), .val (.int (0 : Int32)), .val (.long (c0 - r0)), .second] [])) t) => pre231 t (by
        show Steps p.tables e below (T167.setTop (mkF m 32 #[.val (.ref a0), .val (.ref a1), .val (.int (0 : Int32)), .val (.long (c0 - r0)), .second] [(.int (lcmpW s0 (c0 - r0)))])) _
        refine XS.ifNo X167.here hx rfl (hb hby d7_32) rfl ((if0 _ _).trans (flt (mt (own_lt s0 (c0 - r0)).mp hc233)).1) ?_
        show Steps p.tables e below (T167.setTop (mkF m 35 #[.val (.ref a0), .val (.ref a1), .val (.int (0 : Int32)), .val (.long (c0 - r0)), .second] [])) _
        refine XS.aloadN X167.here hx rfl (hb hby d7_35) rfl rfl ?_
        show Steps p.tables e below (T167.setTop (mkF m 36 #[.val (.ref a0), .val (.ref a1), .val (.int (0 : Int32)), .val (.long (c0 - r0)), .second] [(.ref a0)])) _
        refine st258 _ ?_
        show Steps p.tables e below (T258.setTop (mkF m 39 #[.val (.ref a0), .val (.ref a1), .val (.int (0 : Int32)), .val (.long (c0 - r0)), .second] [(.ref bw)])) _
        refine XS.iloadN X258.here hx rfl (hb hby d7_39) rfl ?_
        show Steps p.tables e below (T258.setTop (mkF m 40 #[.val (.ref a0), .val (.ref a1), .val (.int (0 : Int32)), .val (.long (c0 - r0)), .second] [(.int (0 : Int32)), (.ref bw)])) _
        refine XT.dup2 X258.here hx rfl (hb hby d7_40) rfl rfl rfl ?_
        show Steps p.tables e below (T258.setTop (mkF m 41 #[.val (.ref a0), .val (.ref a1), .val (.int (0 : Int32)), .val (.long (c0 - r0)), .second] [(.int (0 : Int32)), (.ref bw), (.int (0 : Int32)), (.ref bw)])) _
        refine X258.laload hx (j := (0 : Int32)) (v := (.long w0)) (by rw [e258]; exact Ar259.1) (State.isArrayOf_alike hZ.alike Ar259.2.1) Ar259.2.2 hin260 hat261 (g := (mkF m 41 #[.val (.ref a0), .val (.ref a1), .val (.int (0 : Int32)), .val (.long (c0 - r0)), .second] [(.int (0 : Int32)), (.ref bw), (.int (0 : Int32)), (.ref bw)])) rfl rfl (hb hby d7_41) _ ?_
        show Steps p.tables e below (T258.setTop (mkF m 42 #[.val (.ref a0), .val (.ref a1), .val (.int (0 : Int32)), .val (.long (c0 - r0)), .second] [(.long w0), (.int (0 : Int32)), (.ref bw)])) _
        refine XS.lconst X258.here hx rfl (hb hby d7_42) ?_
        show Steps p.tables e below (T258.setTop (mkF m 43 #[.val (.ref a0), .val (.ref a1), .val (.int (0 : Int32)), .val (.long (c0 - r0)), .second] [(.long (1 : Int64)), (.long w0), (.int (0 : Int32)), (.ref bw)])) _
        refine XS.ladd X258.here hx rfl (hb hby d7_43) rfl ?_
        show Steps p.tables e below (T258.setTop (mkF m 44 #[.val (.ref a0), .val (.ref a1), .val (.int (0 : Int32)), .val (.long (c0 - r0)), .second] [(.long (w0 + (1 : Int64))), (.int (0 : Int32)), (.ref bw)])) _
        refine st264 _ ?_
        show Steps p.tables e below (T264.setTop (mkF m 45 #[.val (.ref a0), .val (.ref a1), .val (.int (0 : Int32)), .val (.long (c0 - r0)), .second] [])) _
        refine XS.aloadN X264.here hx rfl (hb hby d7_45) rfl rfl ?_
        show Steps p.tables e below (T264.setTop (mkF m 46 #[.val (.ref a0), .val (.ref a1), .val (.int (0 : Int32)), .val (.long (c0 - r0)), .second] [(.ref a0)])) _
        refine st276 _ ?_
        show Steps p.tables e below (T276.setTop (mkF m 49 #[.val (.ref a0), .val (.ref a1), .val (.int (0 : Int32)), .val (.long (c0 - r0)), .second] [(.ref br)])) _
        refine XS.iloadN X276.here hx rfl (hb hby d7_49) rfl ?_
        show Steps p.tables e below (T276.setTop (mkF m 50 #[.val (.ref a0), .val (.ref a1), .val (.int (0 : Int32)), .val (.long (c0 - r0)), .second] [(.int (0 : Int32)), (.ref br)])) _
        refine XS.aloadN X276.here hx rfl (hb hby d7_50) rfl rfl ?_
        show Steps p.tables e below (T276.setTop (mkF m 51 #[.val (.ref a0), .val (.ref a1), .val (.int (0 : Int32)), .val (.long (c0 - r0)), .second] [(.ref a1), (.int (0 : Int32)), (.ref br)])) _
        refine XS.iloadN X276.here hx rfl (hb hby d7_51) rfl ?_
        show Steps p.tables e below (T276.setTop (mkF m 52 #[.val (.ref a0), .val (.ref a1), .val (.int (0 : Int32)), .val (.long (c0 - r0)), .second] [(.int (0 : Int32)), (.ref a1), (.int (0 : Int32)), (.ref br)])) _
        refine X276.laload hx (j := (0 : Int32)) (v := (.long s0)) (by rw [e276]; exact Ar277.1) (State.isArrayOf_alike hZ.alike Ar277.2.1) Ar277.2.2 hin278 hat279 (g := (mkF m 52 #[.val (.ref a0), .val (.ref a1), .val (.int (0 : Int32)), .val (.long (c0 - r0)), .second] [(.int (0 : Int32)), (.ref a1), (.int (0 : Int32)), (.ref br)])) rfl rfl (hb hby d7_52) _ ?_
        show Steps p.tables e below (T276.setTop (mkF m 53 #[.val (.ref a0), .val (.ref a1), .val (.int (0 : Int32)), .val (.long (c0 - r0)), .second] [(.long s0), (.int (0 : Int32)), (.ref br)])) _
        refine XS.lloadN X276.here hx rfl (hb hby d7_53) rfl ?_
        show Steps p.tables e below (T276.setTop (mkF m 54 #[.val (.ref a0), .val (.ref a1), .val (.int (0 : Int32)), .val (.long (c0 - r0)), .second] [(.long (c0 - r0)), (.long s0), (.int (0 : Int32)), (.ref br)])) _
        refine XS.lsub X276.here hx rfl (hb hby d7_54) rfl ?_
        show Steps p.tables e below (T276.setTop (mkF m 55 #[.val (.ref a0), .val (.ref a1), .val (.int (0 : Int32)), .val (.long (c0 - r0)), .second] [(.long (s0 - (c0 - r0))), (.int (0 : Int32)), (.ref br)])) _
        refine st282 _ ?_
        show Steps p.tables e below (T282.setTop (mkF m 56 #[.val (.ref a0), .val (.ref a1), .val (.int (0 : Int32)), .val (.long (c0 - r0)), .second] [])) _
        refine XS.goto X282.here hx rfl (pc0 := 56) (pc' := 71) rfl (hb hby d7_56) (by decide) (by decide) ?_
        exact k)
      have hj295 : (j7_2_0 c0 w0 r0 s0) = (w0 + (1 : Int64)) := by unfold j7_2_0; first | (rw [if_neg hc233]) | (simp only [if_neg hc233])
      have hj296 : (j7_2_1 c0 r0 s0) = (s0 - (c0 - r0)) := by unfold j7_2_1; first | (rw [if_neg hc233]) | (simp only [if_neg hc233])
      exact ⟨T282, h282, _, X282, e282, N293, Z292, hk, K291, f283, f284, f285, f286, f287, (by rw [hj295]; exact f288), (by rw [hj296]; exact V282), f290, fun t k => pre294 t (by exact k)⟩
  obtain ⟨cl297, Ar297, q297, S297, M297, H297, G297⟩ := id f232_7
  obtain ⟨T298, X298, e298, st298⟩ := getF X232 hx hZ hown (host := "") (Or.inl (hw _ (List.mem_of_getElem? (i := 43) rfl))) Via.refl e232 f232_1 (g := (mkF m 14 #[.val (.ref a0), .val (.ref a1), .val (.int (1 : Int32)), .val (.long (c0 - r0)), .second] [(.ref a0)])) rfl rfl (hb hby d7_14)
  obtain ⟨cl299, Ar299, q299, S299, M299, H299, G299⟩ := id f232_4
  have hin300 : ¬ ((1 : Int32) < 0 ∨ cl299.slots.size ≤ ((1 : Int32)).toNatClampNeg) := inb_of S299 ⟨by decide, by decide⟩
  have hat301 : cl299.slots[((1 : Int32)).toNatClampNeg]? = some (.long c1) := H299.at hin300 rfl
  obtain ⟨T302, X302, e302, st302⟩ := getF X298 hx hZ hown (host := "") (Or.inl (hw _ (List.mem_of_getElem? (i := 47) rfl))) Via.refl e298 f232_3 (g := (mkF m 20 #[.val (.ref a0), .val (.ref a1), .val (.int (1 : Int32)), .val (.long (c0 - r0)), .second] [(.ref a0), (.long c1)])) rfl rfl (hb hby d7_20)
  obtain ⟨cl303, Ar303, q303, S303, M303, H303, G303⟩ := id f232_6
  have hin304 : ¬ ((1 : Int32) < 0 ∨ cl303.slots.size ≤ ((1 : Int32)).toNatClampNeg) := inb_of S303 ⟨by decide, by decide⟩
  have hat305 : cl303.slots[((1 : Int32)).toNatClampNeg]? = some (.long r1) := H303.at hin304 rfl
  obtain ⟨cl306, Ar306, q306, S306, M306, H306, G306⟩ := id f232_7
  have hin307 : ¬ ((1 : Int32) < 0 ∨ cl306.slots.size ≤ ((1 : Int32)).toNatClampNeg) := inb_of S306 ⟨by decide, by decide⟩
  have hat308 : cl306.slots[((1 : Int32)).toNatClampNeg]? = some (.long s1) := H306.at hin307 rfl
  have pre366 := fun (t : State) (k : Steps p.tables e below (T302.setTop (mkF m 32 #[.val (.ref a0), .val (.ref a1), .val (.int (1 : Int32)), .val (.long (c1 - r1)), .second] [(.int (lcmpW s1 (c1 - r1)))])) t) => pre232 t (by
    show Steps p.tables e below (T232.setTop (mkF m 71 #[.val (.ref a0), .val (.ref a1), .val (.int (0 : Int32)), .val (.long (c0 - r0)), .second] [])) _
    refine XS.iinc X232.here hx rfl (hb hby d7_71) rfl (l' := #[.val (.ref a0), .val (.ref a1), .val (.int (1 : Int32)), .val (.long (c0 - r0)), .second]) rfl ?_
    show Steps p.tables e below (T232.setTop (mkF m 74 #[.val (.ref a0), .val (.ref a1), .val (.int (1 : Int32)), .val (.long (c0 - r0)), .second] [])) _
    refine XS.goto X232.here hx rfl (pc0 := 74) (pc' := 7) rfl (hb hby d7_74) (by decide) (by decide) ?_
    show Steps p.tables e below (T232.setTop (mkF m 7 #[.val (.ref a0), .val (.ref a1), .val (.int (1 : Int32)), .val (.long (c0 - r0)), .second] [])) _
    refine XS.iloadN X232.here hx rfl (hb hby d7_7) rfl ?_
    show Steps p.tables e below (T232.setTop (mkF m 8 #[.val (.ref a0), .val (.ref a1), .val (.int (1 : Int32)), .val (.long (c0 - r0)), .second] [(.int (1 : Int32))])) _
    refine XS.aloadN X232.here hx rfl (hb hby d7_8) rfl rfl ?_
    show Steps p.tables e below (T232.setTop (mkF m 9 #[.val (.ref a0), .val (.ref a1), .val (.int (1 : Int32)), .val (.long (c0 - r0)), .second] [(.ref a1), (.int (1 : Int32))])) _
    refine X232.arraylength hx (by rw [e232]; exact Ar297.1) (State.isArrayOf_alike hZ.alike Ar297.2.1) (g := (mkF m 9 #[.val (.ref a0), .val (.ref a1), .val (.int (1 : Int32)), .val (.long (c0 - r0)), .second] [(.ref a1), (.int (1 : Int32))])) rfl rfl (hb hby d7_9) _ ?_
    rw [len_of S297 M297]
    show Steps p.tables e below (T232.setTop (mkF m 10 #[.val (.ref a0), .val (.ref a1), .val (.int (1 : Int32)), .val (.long (c0 - r0)), .second] [(.int (2 : Int32)), (.int (1 : Int32))])) _
    refine XS.icmpNo X232.here hx rfl (hb hby d7_10) rfl (tlt (by decide : (1 : Int32) < (2 : Int32))).2.1 ?_
    show Steps p.tables e below (T232.setTop (mkF m 13 #[.val (.ref a0), .val (.ref a1), .val (.int (1 : Int32)), .val (.long (c0 - r0)), .second] [])) _
    refine XS.aloadN X232.here hx rfl (hb hby d7_13) rfl rfl ?_
    show Steps p.tables e below (T232.setTop (mkF m 14 #[.val (.ref a0), .val (.ref a1), .val (.int (1 : Int32)), .val (.long (c0 - r0)), .second] [(.ref a0)])) _
    refine st298 _ ?_
    show Steps p.tables e below (T298.setTop (mkF m 17 #[.val (.ref a0), .val (.ref a1), .val (.int (1 : Int32)), .val (.long (c0 - r0)), .second] [(.ref bc)])) _
    refine XS.iloadN X298.here hx rfl (hb hby d7_17) rfl ?_
    show Steps p.tables e below (T298.setTop (mkF m 18 #[.val (.ref a0), .val (.ref a1), .val (.int (1 : Int32)), .val (.long (c0 - r0)), .second] [(.int (1 : Int32)), (.ref bc)])) _
    refine X298.laload hx (j := (1 : Int32)) (v := (.long c1)) (by rw [e298]; exact Ar299.1) (State.isArrayOf_alike hZ.alike Ar299.2.1) Ar299.2.2 hin300 hat301 (g := (mkF m 18 #[.val (.ref a0), .val (.ref a1), .val (.int (1 : Int32)), .val (.long (c0 - r0)), .second] [(.int (1 : Int32)), (.ref bc)])) rfl rfl (hb hby d7_18) _ ?_
    show Steps p.tables e below (T298.setTop (mkF m 19 #[.val (.ref a0), .val (.ref a1), .val (.int (1 : Int32)), .val (.long (c0 - r0)), .second] [(.long c1)])) _
    refine XS.aloadN X298.here hx rfl (hb hby d7_19) rfl rfl ?_
    show Steps p.tables e below (T298.setTop (mkF m 20 #[.val (.ref a0), .val (.ref a1), .val (.int (1 : Int32)), .val (.long (c0 - r0)), .second] [(.ref a0), (.long c1)])) _
    refine st302 _ ?_
    show Steps p.tables e below (T302.setTop (mkF m 23 #[.val (.ref a0), .val (.ref a1), .val (.int (1 : Int32)), .val (.long (c0 - r0)), .second] [(.ref br), (.long c1)])) _
    refine XS.iloadN X302.here hx rfl (hb hby d7_23) rfl ?_
    show Steps p.tables e below (T302.setTop (mkF m 24 #[.val (.ref a0), .val (.ref a1), .val (.int (1 : Int32)), .val (.long (c0 - r0)), .second] [(.int (1 : Int32)), (.ref br), (.long c1)])) _
    refine X302.laload hx (j := (1 : Int32)) (v := (.long r1)) (by rw [e302]; exact Ar303.1) (State.isArrayOf_alike hZ.alike Ar303.2.1) Ar303.2.2 hin304 hat305 (g := (mkF m 24 #[.val (.ref a0), .val (.ref a1), .val (.int (1 : Int32)), .val (.long (c0 - r0)), .second] [(.int (1 : Int32)), (.ref br), (.long c1)])) rfl rfl (hb hby d7_24) _ ?_
    show Steps p.tables e below (T302.setTop (mkF m 25 #[.val (.ref a0), .val (.ref a1), .val (.int (1 : Int32)), .val (.long (c0 - r0)), .second] [(.long r1), (.long c1)])) _
    refine XS.lsub X302.here hx rfl (hb hby d7_25) rfl ?_
    show Steps p.tables e below (T302.setTop (mkF m 26 #[.val (.ref a0), .val (.ref a1), .val (.int (1 : Int32)), .val (.long (c0 - r0)), .second] [(.long (c1 - r1))])) _
    refine XS.lstoreN X302.here hx rfl (hb hby d7_26) rfl (l' := #[.val (.ref a0), .val (.ref a1), .val (.int (1 : Int32)), .val (.long (c1 - r1)), .second]) rfl ?_
    show Steps p.tables e below (T302.setTop (mkF m 27 #[.val (.ref a0), .val (.ref a1), .val (.int (1 : Int32)), .val (.long (c1 - r1)), .second] [])) _
    refine XS.aloadN X302.here hx rfl (hb hby d7_27) rfl rfl ?_
    show Steps p.tables e below (T302.setTop (mkF m 28 #[.val (.ref a0), .val (.ref a1), .val (.int (1 : Int32)), .val (.long (c1 - r1)), .second] [(.ref a1)])) _
    refine XS.iloadN X302.here hx rfl (hb hby d7_28) rfl ?_
    show Steps p.tables e below (T302.setTop (mkF m 29 #[.val (.ref a0), .val (.ref a1), .val (.int (1 : Int32)), .val (.long (c1 - r1)), .second] [(.int (1 : Int32)), (.ref a1)])) _
    refine X302.laload hx (j := (1 : Int32)) (v := (.long s1)) (by rw [e302]; exact Ar306.1) (State.isArrayOf_alike hZ.alike Ar306.2.1) Ar306.2.2 hin307 hat308 (g := (mkF m 29 #[.val (.ref a0), .val (.ref a1), .val (.int (1 : Int32)), .val (.long (c1 - r1)), .second] [(.int (1 : Int32)), (.ref a1)])) rfl rfl (hb hby d7_29) _ ?_
    show Steps p.tables e below (T302.setTop (mkF m 30 #[.val (.ref a0), .val (.ref a1), .val (.int (1 : Int32)), .val (.long (c1 - r1)), .second] [(.long s1)])) _
    refine XS.lloadN X302.here hx rfl (hb hby d7_30) rfl ?_
    show Steps p.tables e below (T302.setTop (mkF m 31 #[.val (.ref a0), .val (.ref a1), .val (.int (1 : Int32)), .val (.long (c1 - r1)), .second] [(.long (c1 - r1)), (.long s1)])) _
    refine XS.lcmp X302.here hx rfl (hb hby d7_31) rfl ?_
    exact k)
  obtain ⟨T367, h367, L367, X367, e367, N367, Z367, hk, K367, f367_0, f367_1, f367_2, f367_3, f367_4, f367_5, f367_6, f367_7, pre367⟩ : ∃ (T367 : State) (h367 : Heap) (L367 : List Loc), Stand p l e rr7_2 (s.setVm T152.vm) m #[(.ref a0), (.ref a1)] below meth c T367 L367 2 24 ∧ T367.heap = h367 ∧ Fr n0 L367 ∧ n0 ≤ h367.size ∧ T152.heap.size ≤ h367.size ∧ Keep h0 h367 [bw, br] ∧ Exa Z h367 a0 "com/example/stowline/stowline/VolumeBound" ∧ Fld Z h367 a0 "com/example/stowline/stowline/VolumeBound" "capacities" "[J" (.ref bc) ∧ Fld Z h367 a0 "com/example/stowline/stowline/VolumeBound" "wholeCapacities" "[J" (.ref bw) ∧ Fld Z h367 a0 "com/example/stowline/stowline/VolumeBound" "remainders" "[J" (.ref br) ∧ Arv Z h367 bc k_bc .long (2 : Int32) [(.long c0), (.long c1)] (.long (0 : Int64)) ∧ Arv Z h367 bw k_bw .long (2 : Int32) [(.long (j7_2_0 c0 w0 r0 s0)), (.long (j7_2_2 c1 w1 r1 s1))] (.long (0 : Int64)) ∧ Arv Z h367 br k_br .long (2 : Int32) [(.long (j7_2_1 c0 r0 s0)), (.long (j7_2_3 c1 r1 s1))] (.long (0 : Int64)) ∧ Arv Z h367 a1 k_a1 .long (2 : Int32) [(.long s0), (.long s1)] (.long (0 : Int64)) ∧ ∀ t, Steps p.tables e below (T367.setTop (mkF m 71 #[.val (.ref a0), .val (.ref a1), .val (.int (1 : Int32)), .val (.long (c1 - r1)), .second] [])) t → Steps p.tables e below (s₁.setTop (entryFrame m #[(.ref a0), (.ref a1)] 5)) t := by
    by_cases hc368 : s1 < (c1 - r1)
    · skip
      obtain ⟨T369, X369, e369, st369⟩ := getF X302 hx hZ hown (host := "") (Or.inl (hw _ (List.mem_of_getElem? (i := 47) rfl))) Via.refl e302 f232_3 (g := (mkF m 60 #[.val (.ref a0), .val (.ref a1), .val (.int (1 : Int32)), .val (.long (c1 - r1)), .second] [(.ref a0)])) rfl rfl (hb hby d7_60)
      obtain ⟨cl370, Ar370, q370, S370, M370, H370, G370⟩ := id f232_6
      have hin371 : ¬ ((1 : Int32) < 0 ∨ cl370.slots.size ≤ ((1 : Int32)).toNatClampNeg) := inb_of S370 ⟨by decide, by decide⟩
      have hat372 : cl370.slots[((1 : Int32)).toNatClampNeg]? = some (.long r1) := H370.at hin371 rfl
      obtain ⟨cl373, Ar373, q373, S373, M373, H373, G373⟩ := id f232_7
      have hin374 : ¬ ((1 : Int32) < 0 ∨ cl373.slots.size ≤ ((1 : Int32)).toNatClampNeg) := inb_of S373 ⟨by decide, by decide⟩
      have hat375 : cl373.slots[((1 : Int32)).toNatClampNeg]? = some (.long s1) := H373.at hin374 rfl
      obtain ⟨cl376, Ar376, q376, S376, M376, H376, G376⟩ := id f232_6
      have hin377 : ¬ ((1 : Int32) < 0 ∨ cl376.slots.size ≤ ((1 : Int32)).toNatClampNeg) := inb_of S376 ⟨by decide, by decide⟩
      obtain ⟨T378, h378, X378, e378, W378, st378⟩ := stJ X369 hx hZ e369 Ar376 (j := (1 : Int32)) hin377 (g := (mkF m 70 #[.val (.ref a0), .val (.ref a1), .val (.int (1 : Int32)), .val (.long (c1 - r1)), .second] [(.long (r1 + s1)), (.int (1 : Int32)), (.ref br)])) rfl rfl (hb hby d7_70)
      have V378 : Arv Z h378 br k_br .long (2 : Int32) [(.long (j7_2_1 c0 r0 s0)), (.long (r1 + s1))] (.long (0 : Int64)) := Arv.set Ar376 q376 S376 M376 H376 G376 rfl W378 1 rfl (Nat.le_of_ble_eq_true rfl)
      have f379 := f232_0.wr W378
      have f380 := f232_1.other W378 (Or.inl ne_a0_br)
      have f381 := f232_2.other W378 (Or.inl ne_a0_br)
      have f382 := f232_3.other W378 (Or.inl ne_a0_br)
      have f383 := f232_4.other W378 ne_bc_br
      have f384 := f232_5.other W378 ne_bw_br
      have f386 := f232_7.other W378 ne_a1_br
      have K387 := K232.wr W378 (Or.inl (List.mem_of_getElem? (i := 1) rfl))
      have Z388 := Nat.le_trans Z232 (Keep.of_wr W378).1
      have hk := Nat.le_trans hk (Keep.of_wr W378).1
      have N389 := Fr.snoc X378 N232 g_br
      have pre390 := fun (t : State) (k : Steps p.tables e below (T378.setTop (mkF m 71 #[.val (.ref a0), .val (.ref a1), .val (.int (1 : Int32)), .val (.long (c1 - r1)), .second] [])) t) => pre366 t (by
        show Steps p.tables e below (T302.setTop (mkF m 32 #[.val (.ref a0), .val (.ref a1), .val (.int (1 : Int32)), .val (.long (c1 - r1)), .second] [(.int (lcmpW s1 (c1 - r1)))])) _
        refine XS.ifYes X302.here hx rfl (pc0 := 32) (pc' := 59) rfl (hb hby d7_32) rfl ((if0 _ _).trans (tlt ((own_lt s1 (c1 - r1)).mpr hc368)).1) (by decide) (by decide) ?_
        show Steps p.tables e below (T302.setTop (mkF m 59 #[.val (.ref a0), .val (.ref a1), .val (.int (1 : Int32)), .val (.long (c1 - r1)), .second] [])) _
        refine XS.aloadN X302.here hx rfl (hb hby d7_59) rfl rfl ?_
        show Steps p.tables e below (T302.setTop (mkF m 60 #[.val (.ref a0), .val (.ref a1), .val (.int (1 : Int32)), .val (.long (c1 - r1)), .second] [(.ref a0)])) _
        refine st369 _ ?_
        show Steps p.tables e below (T369.setTop (mkF m 63 #[.val (.ref a0), .val (.ref a1), .val (.int (1 : Int32)), .val (.long (c1 - r1)), .second] [(.ref br)])) _
        refine XS.iloadN X369.here hx rfl (hb hby d7_63) rfl ?_
        show Steps p.tables e below (T369.setTop (mkF m 64 #[.val (.ref a0), .val (.ref a1), .val (.int (1 : Int32)), .val (.long (c1 - r1)), .second] [(.int (1 : Int32)), (.ref br)])) _
        refine XT.dup2 X369.here hx rfl (hb hby d7_64) rfl rfl rfl ?_
        show Steps p.tables e below (T369.setTop (mkF m 65 #[.val (.ref a0), .val (.ref a1), .val (.int (1 : Int32)), .val (.long (c1 - r1)), .second] [(.int (1 : Int32)), (.ref br), (.int (1 : Int32)), (.ref br)])) _
        refine X369.laload hx (j := (1 : Int32)) (v := (.long r1)) (by rw [e369]; exact Ar370.1) (State.isArrayOf_alike hZ.alike Ar370.2.1) Ar370.2.2 hin371 hat372 (g := (mkF m 65 #[.val (.ref a0), .val (.ref a1), .val (.int (1 : Int32)), .val (.long (c1 - r1)), .second] [(.int (1 : Int32)), (.ref br), (.int (1 : Int32)), (.ref br)])) rfl rfl (hb hby d7_65) _ ?_
        show Steps p.tables e below (T369.setTop (mkF m 66 #[.val (.ref a0), .val (.ref a1), .val (.int (1 : Int32)), .val (.long (c1 - r1)), .second] [(.long r1), (.int (1 : Int32)), (.ref br)])) _
        refine XS.aloadN X369.here hx rfl (hb hby d7_66) rfl rfl ?_
        show Steps p.tables e below (T369.setTop (mkF m 67 #[.val (.ref a0), .val (.ref a1), .val (.int (1 : Int32)), .val (.long (c1 - r1)), .second] [(.ref a1), (.long r1), (.int (1 : Int32)), (.ref br)])) _
        refine XS.iloadN X369.here hx rfl (hb hby d7_67) rfl ?_
        show Steps p.tables e below (T369.setTop (mkF m 68 #[.val (.ref a0), .val (.ref a1), .val (.int (1 : Int32)), .val (.long (c1 - r1)), .second] [(.int (1 : Int32)), (.ref a1), (.long r1), (.int (1 : Int32)), (.ref br)])) _
        refine X369.laload hx (j := (1 : Int32)) (v := (.long s1)) (by rw [e369]; exact Ar373.1) (State.isArrayOf_alike hZ.alike Ar373.2.1) Ar373.2.2 hin374 hat375 (g := (mkF m 68 #[.val (.ref a0), .val (.ref a1), .val (.int (1 : Int32)), .val (.long (c1 - r1)), .second] [(.int (1 : Int32)), (.ref a1), (.long r1), (.int (1 : Int32)), (.ref br)])) rfl rfl (hb hby d7_68) _ ?_
        show Steps p.tables e below (T369.setTop (mkF m 69 #[.val (.ref a0), .val (.ref a1), .val (.int (1 : Int32)), .val (.long (c1 - r1)), .second] [(.long s1), (.long r1), (.int (1 : Int32)), (.ref br)])) _
        refine XS.ladd X369.here hx rfl (hb hby d7_69) rfl ?_
        show Steps p.tables e below (T369.setTop (mkF m 70 #[.val (.ref a0), .val (.ref a1), .val (.int (1 : Int32)), .val (.long (c1 - r1)), .second] [(.long (r1 + s1)), (.int (1 : Int32)), (.ref br)])) _
        refine st378 _ ?_
        exact k)
      have hj391 : (j7_2_2 c1 w1 r1 s1) = w1 := by unfold j7_2_2; first | (rw [if_pos hc368]) | (simp only [if_pos hc368])
      have hj392 : (j7_2_3 c1 r1 s1) = (r1 + s1) := by unfold j7_2_3; first | (rw [if_pos hc368]) | (simp only [if_pos hc368])
      exact ⟨T378, h378, _, X378, e378, N389, Z388, hk, K387, f379, f380, f381, f382, f383, (by rw [hj391]; exact f384), (by rw [hj392]; exact V378), f386, fun t k => pre390 t (by exact k)⟩
    · skip
      obtain ⟨T393, X393, e393, st393⟩ := getF X302 hx hZ hown (host := "") (Or.inl (hw _ (List.mem_of_getElem? (i := 45) rfl))) Via.refl e302 f232_2 (g := (mkF m 36 #[.val (.ref a0), .val (.ref a1), .val (.int (1 : Int32)), .val (.long (c1 - r1)), .second] [(.ref a0)])) rfl rfl (hb hby d7_36)
      obtain ⟨cl394, Ar394, q394, S394, M394, H394, G394⟩ := id f232_5
      have hin395 : ¬ ((1 : Int32) < 0 ∨ cl394.slots.size ≤ ((1 : Int32)).toNatClampNeg) := inb_of S394 ⟨by decide, by decide⟩
      have hat396 : cl394.slots[((1 : Int32)).toNatClampNeg]? = some (.long w1) := H394.at hin395 rfl
      obtain ⟨cl397, Ar397, q397, S397, M397, H397, G397⟩ := id f232_5
      have hin398 : ¬ ((1 : Int32) < 0 ∨ cl397.slots.size ≤ ((1 : Int32)).toNatClampNeg) := inb_of S397 ⟨by decide, by decide⟩
      obtain ⟨T399, h399, X399, e399, W399, st399⟩ := stJ X393 hx hZ e393 Ar397 (j := (1 : Int32)) hin398 (g := (mkF m 44 #[.val (.ref a0), .val (.ref a1), .val (.int (1 : Int32)), .val (.long (c1 - r1)), .second] [(.long (w1 + (1 : Int64))), (.int (1 : Int32)), (.ref bw)])) rfl rfl (hb hby d7_44)
      have V399 : Arv Z h399 bw k_bw .long (2 : Int32) [(.long (j7_2_0 c0 w0 r0 s0)), (.long (w1 + (1 : Int64)))] (.long (0 : Int64)) := Arv.set Ar397 q397 S397 M397 H397 G397 rfl W399 1 rfl (Nat.le_of_ble_eq_true rfl)
      have f400 := f232_0.wr W399
      have f401 := f232_1.other W399 (Or.inl ne_a0_bw)
      have f402 := f232_2.other W399 (Or.inl ne_a0_bw)
      have f403 := f232_3.other W399 (Or.inl ne_a0_bw)
      have f404 := f232_4.other W399 ne_bc_bw
      have f406 := f232_6.other W399 (Ne.symm ne_bw_br)
      have f407 := f232_7.other W399 ne_a1_bw
      have K408 := K232.wr W399 (Or.inl (List.mem_of_getElem? (i := 0) rfl))
      have Z409 := Nat.le_trans Z232 (Keep.of_wr W399).1
      have hk := Nat.le_trans hk (Keep.of_wr W399).1
      have N410 := Fr.snoc X399 N232 g_bw
      obtain ⟨T411, X411, e411, st411⟩ := getF X399 hx hZ hown (host := "") (Or.inl (hw _ (List.mem_of_getElem? (i := 47) rfl))) Via.refl e399 f403 (g := (mkF m 46 #[.val (.ref a0), .val (.ref a1), .val (.int (1 : Int32)), .val (.long (c1 - r1)), .second] [(.ref a0)])) rfl rfl (hb hby d7_46)
      obtain ⟨cl412, Ar412, q412, S412, M412, H412, G412⟩ := id f407
      have hin413 : ¬ ((1 : Int32) < 0 ∨ cl412.slots.size ≤ ((1 : Int32)).toNatClampNeg) := inb_of S412 ⟨by decide, by decide⟩
      have hat414 : cl412.slots[((1 : Int32)).toNatClampNeg]? = some (.long s1) := H412.at hin413 rfl
      obtain ⟨cl415, Ar415, q415, S415, M415, H415, G415⟩ := id f406
      have hin416 : ¬ ((1 : Int32) < 0 ∨ cl415.slots.size ≤ ((1 : Int32)).toNatClampNeg) := inb_of S415 ⟨by decide, by decide⟩
      obtain ⟨T417, h417, X417, e417, W417, st417⟩ := stJ X411 hx hZ e411 Ar415 (j := (1 : Int32)) hin416 (g := (mkF m 55 #[.val (.ref a0), .val (.ref a1), .val (.int (1 : Int32)), .val (.long (c1 - r1)), .second] [(.long (s1 - (c1 - r1))), (.int (1 : Int32)), (.ref br)])) rfl rfl (hb hby d7_55)
      have V417 : Arv Z h417 br k_br .long (2 : Int32) [(.long (j7_2_1 c0 r0 s0)), (.long (s1 - (c1 - r1)))] (.long (0 : Int64)) := Arv.set Ar415 q415 S415 M415 H415 G415 rfl W417 1 rfl (Nat.le_of_ble_eq_true rfl)
      have f418 := f400.wr W417
      have f419 := f401.other W417 (Or.inl ne_a0_br)
      have f420 := f402.other W417 (Or.inl ne_a0_br)
      have f421 := f403.other W417 (Or.inl ne_a0_br)
      have f422 := f404.other W417 ne_bc_br
      have f423 := V399.other W417 ne_bw_br
      have f425 := f407.other W417 ne_a1_br
      have K426 := K408.wr W417 (Or.inl (List.mem_of_getElem? (i := 1) rfl))
      have Z427 := Nat.le_trans Z409 (Keep.of_wr W417).1
      have hk := Nat.le_trans hk (Keep.of_wr W417).1
      have N428 := Fr.snoc X417 N410 g_br
      have pre429 := fun (t : State) (k : Steps p.tables e below (T417.setTop (mkF m 71 #[.val (.ref a0), .val (.ref a1), .val (.int (1 : Int32)), .val (.long (c1 - r1)), .second] [])) t) => pre366 t (by
        show Steps p.tables e below (T302.setTop (mkF m 32 #[.val (.ref a0), .val (.ref a1), .val (.int (1 : Int32)), .val (.long (c1 - r1)), .second] [(.int (lcmpW s1 (c1 - r1)))])) _
        refine XS.ifNo X302.here hx rfl (hb hby d7_32) rfl ((if0 _ _).trans (flt (mt (own_lt s1 (c1 - r1)).mp hc368)).1) ?_
        show Steps p.tables e below (T302.setTop (mkF m 35 #[.val (.ref a0), .val (.ref a1), .val (.int (1 : Int32)), .val (.long (c1 - r1)), .second] [])) _
        refine XS.aloadN X302.here hx rfl (hb hby d7_35) rfl rfl ?_
        show Steps p.tables e below (T302.setTop (mkF m 36 #[.val (.ref a0), .val (.ref a1), .val (.int (1 : Int32)), .val (.long (c1 - r1)), .second] [(.ref a0)])) _
        refine st393 _ ?_
        show Steps p.tables e below (T393.setTop (mkF m 39 #[.val (.ref a0), .val (.ref a1), .val (.int (1 : Int32)), .val (.long (c1 - r1)), .second] [(.ref bw)])) _
        refine XS.iloadN X393.here hx rfl (hb hby d7_39) rfl ?_
        show Steps p.tables e below (T393.setTop (mkF m 40 #[.val (.ref a0), .val (.ref a1), .val (.int (1 : Int32)), .val (.long (c1 - r1)), .second] [(.int (1 : Int32)), (.ref bw)])) _
        refine XT.dup2 X393.here hx rfl (hb hby d7_40) rfl rfl rfl ?_
        show Steps p.tables e below (T393.setTop (mkF m 41 #[.val (.ref a0), .val (.ref a1), .val (.int (1 : Int32)), .val (.long (c1 - r1)), .second] [(.int (1 : Int32)), (.ref bw), (.int (1 : Int32)), (.ref bw)])) _
        refine X393.laload hx (j := (1 : Int32)) (v := (.long w1)) (by rw [e393]; exact Ar394.1) (State.isArrayOf_alike hZ.alike Ar394.2.1) Ar394.2.2 hin395 hat396 (g := (mkF m 41 #[.val (.ref a0), .val (.ref a1), .val (.int (1 : Int32)), .val (.long (c1 - r1)), .second] [(.int (1 : Int32)), (.ref bw), (.int (1 : Int32)), (.ref bw)])) rfl rfl (hb hby d7_41) _ ?_
        show Steps p.tables e below (T393.setTop (mkF m 42 #[.val (.ref a0), .val (.ref a1), .val (.int (1 : Int32)), .val (.long (c1 - r1)), .second] [(.long w1), (.int (1 : Int32)), (.ref bw)])) _
        refine XS.lconst X393.here hx rfl (hb hby d7_42) ?_
        show Steps p.tables e below (T393.setTop (mkF m 43 #[.val (.ref a0), .val (.ref a1), .val (.int (1 : Int32)), .val (.long (c1 - r1)), .second] [(.long (1 : Int64)), (.long w1), (.int (1 : Int32)), (.ref bw)])) _
        refine XS.ladd X393.here hx rfl (hb hby d7_43) rfl ?_
        show Steps p.tables e below (T393.setTop (mkF m 44 #[.val (.ref a0), .val (.ref a1), .val (.int (1 : Int32)), .val (.long (c1 - r1)), .second] [(.long (w1 + (1 : Int64))), (.int (1 : Int32)), (.ref bw)])) _
        refine st399 _ ?_
        show Steps p.tables e below (T399.setTop (mkF m 45 #[.val (.ref a0), .val (.ref a1), .val (.int (1 : Int32)), .val (.long (c1 - r1)), .second] [])) _
        refine XS.aloadN X399.here hx rfl (hb hby d7_45) rfl rfl ?_
        show Steps p.tables e below (T399.setTop (mkF m 46 #[.val (.ref a0), .val (.ref a1), .val (.int (1 : Int32)), .val (.long (c1 - r1)), .second] [(.ref a0)])) _
        refine st411 _ ?_
        show Steps p.tables e below (T411.setTop (mkF m 49 #[.val (.ref a0), .val (.ref a1), .val (.int (1 : Int32)), .val (.long (c1 - r1)), .second] [(.ref br)])) _
        refine XS.iloadN X411.here hx rfl (hb hby d7_49) rfl ?_
        show Steps p.tables e below (T411.setTop (mkF m 50 #[.val (.ref a0), .val (.ref a1), .val (.int (1 : Int32)), .val (.long (c1 - r1)), .second] [(.int (1 : Int32)), (.ref br)])) _
        refine XS.aloadN X411.here hx rfl (hb hby d7_50) rfl rfl ?_
        show Steps p.tables e below (T411.setTop (mkF m 51 #[.val (.ref a0), .val (.ref a1), .val (.int (1 : Int32)), .val (.long (c1 - r1)), .second] [(.ref a1), (.int (1 : Int32)), (.ref br)])) _
        refine XS.iloadN X411.here hx rfl (hb hby d7_51) rfl ?_
        show Steps p.tables e below (T411.setTop (mkF m 52 #[.val (.ref a0), .val (.ref a1), .val (.int (1 : Int32)), .val (.long (c1 - r1)), .second] [(.int (1 : Int32)), (.ref a1), (.int (1 : Int32)), (.ref br)])) _
        refine X411.laload hx (j := (1 : Int32)) (v := (.long s1)) (by rw [e411]; exact Ar412.1) (State.isArrayOf_alike hZ.alike Ar412.2.1) Ar412.2.2 hin413 hat414 (g := (mkF m 52 #[.val (.ref a0), .val (.ref a1), .val (.int (1 : Int32)), .val (.long (c1 - r1)), .second] [(.int (1 : Int32)), (.ref a1), (.int (1 : Int32)), (.ref br)])) rfl rfl (hb hby d7_52) _ ?_
        show Steps p.tables e below (T411.setTop (mkF m 53 #[.val (.ref a0), .val (.ref a1), .val (.int (1 : Int32)), .val (.long (c1 - r1)), .second] [(.long s1), (.int (1 : Int32)), (.ref br)])) _
        refine XS.lloadN X411.here hx rfl (hb hby d7_53) rfl ?_
        show Steps p.tables e below (T411.setTop (mkF m 54 #[.val (.ref a0), .val (.ref a1), .val (.int (1 : Int32)), .val (.long (c1 - r1)), .second] [(.long (c1 - r1)), (.long s1), (.int (1 : Int32)), (.ref br)])) _
        refine XS.lsub X411.here hx rfl (hb hby d7_54) rfl ?_
        show Steps p.tables e below (T411.setTop (mkF m 55 #[.val (.ref a0), .val (.ref a1), .val (.int (1 : Int32)), .val (.long (c1 - r1)), .second] [(.long (s1 - (c1 - r1))), (.int (1 : Int32)), (.ref br)])) _
        refine st417 _ ?_
        show Steps p.tables e below (T417.setTop (mkF m 56 #[.val (.ref a0), .val (.ref a1), .val (.int (1 : Int32)), .val (.long (c1 - r1)), .second] [])) _
        refine XS.goto X417.here hx rfl (pc0 := 56) (pc' := 71) rfl (hb hby d7_56) (by decide) (by decide) ?_
        exact k)
      have hj430 : (j7_2_2 c1 w1 r1 s1) = (w1 + (1 : Int64)) := by unfold j7_2_2; first | (rw [if_neg hc368]) | (simp only [if_neg hc368])
      have hj431 : (j7_2_3 c1 r1 s1) = (s1 - (c1 - r1)) := by unfold j7_2_3; first | (rw [if_neg hc368]) | (simp only [if_neg hc368])
      exact ⟨T417, h417, _, X417, e417, N428, Z427, hk, K426, f418, f419, f420, f421, f422, (by rw [hj430]; exact f423), (by rw [hj431]; exact V417), f425, fun t k => pre429 t (by exact k)⟩
  obtain ⟨cl432, Ar432, q432, S432, M432, H432, G432⟩ := id f367_7
  obtain ⟨fs, hr, hrun, hended, hRW⟩ := X367.leaveW hS (own_hk hk e367) (v := none) (fun _ => rfl)
  refine ⟨_, _, pre367 _ ?_, hrun, hended, _, _, rfl, ?_, hRW.1, hRW.2.1, hRW.2.2.1, hRW.2.2.2.mono (by decide) (by decide)⟩
  · skip
    show Steps p.tables e below (T367.setTop (mkF m 71 #[.val (.ref a0), .val (.ref a1), .val (.int (1 : Int32)), .val (.long (c1 - r1)), .second] [])) _
    refine XS.iinc X367.here hx rfl (hb hby d7_71) rfl (l' := #[.val (.ref a0), .val (.ref a1), .val (.int (2 : Int32)), .val (.long (c1 - r1)), .second]) rfl ?_
    show Steps p.tables e below (T367.setTop (mkF m 74 #[.val (.ref a0), .val (.ref a1), .val (.int (2 : Int32)), .val (.long (c1 - r1)), .second] [])) _
    refine XS.goto X367.here hx rfl (pc0 := 74) (pc' := 7) rfl (hb hby d7_74) (by decide) (by decide) ?_
    show Steps p.tables e below (T367.setTop (mkF m 7 #[.val (.ref a0), .val (.ref a1), .val (.int (2 : Int32)), .val (.long (c1 - r1)), .second] [])) _
    refine XS.iloadN X367.here hx rfl (hb hby d7_7) rfl ?_
    show Steps p.tables e below (T367.setTop (mkF m 8 #[.val (.ref a0), .val (.ref a1), .val (.int (2 : Int32)), .val (.long (c1 - r1)), .second] [(.int (2 : Int32))])) _
    refine XS.aloadN X367.here hx rfl (hb hby d7_8) rfl rfl ?_
    show Steps p.tables e below (T367.setTop (mkF m 9 #[.val (.ref a0), .val (.ref a1), .val (.int (2 : Int32)), .val (.long (c1 - r1)), .second] [(.ref a1), (.int (2 : Int32))])) _
    refine X367.arraylength hx (by rw [e367]; exact Ar432.1) (State.isArrayOf_alike hZ.alike Ar432.2.1) (g := (mkF m 9 #[.val (.ref a0), .val (.ref a1), .val (.int (2 : Int32)), .val (.long (c1 - r1)), .second] [(.ref a1), (.int (2 : Int32))])) rfl rfl (hb hby d7_9) _ ?_
    rw [len_of S432 M432]
    show Steps p.tables e below (T367.setTop (mkF m 10 #[.val (.ref a0), .val (.ref a1), .val (.int (2 : Int32)), .val (.long (c1 - r1)), .second] [(.int (2 : Int32)), (.int (2 : Int32))])) _
    refine XS.icmpYes X367.here hx rfl (pc0 := 10) (pc' := 77) rfl (hb hby d7_10) rfl (flt (by decide : ¬ ((2 : Int32) < (2 : Int32)))).2.1 (by decide) (by decide) ?_
    show Steps p.tables e below (T367.setTop (mkF m 77 #[.val (.ref a0), .val (.ref a1), .val (.int (2 : Int32)), .val (.long (c1 - r1)), .second] [])) _
    exact X367.returnOut hx Bd.returns (hb hby d7_77) hr
  · show Q7_2 Z a0 a1 bc bw br c0 c1 w0 w1 r0 r1 s0 s1 k_bc k_bw k_br k_a1 h0 n0 _ T367.heap _
    rw [e367]
    exact ⟨rfl, N367, K367, f367_5, f367_6⟩
theorem d13_0 : decode prog_29_method_4_code 0 = .ok (.aload_n 0, 1) := by decide +kernel
theorem d13_1 : decode prog_29_method_4_code 1 = .ok (.aload_n 1, 1) := by decide +kernel
theorem d13_2 : decode prog_29_method_4_code 2 = .ok (.invokevirtual 25, 3) := by decide +kernel
theorem d13_5 : decode prog_29_method_4_code 5 = .ok (.iconst 0, 1) := by decide +kernel
theorem d13_6 : decode prog_29_method_4_code 6 = .ok (.istore_n 2, 1) := by decide +kernel
theorem d13_7 : decode prog_29_method_4_code 7 = .ok (.iload_n 2, 1) := by decide +kernel
theorem d13_8 : decode prog_29_method_4_code 8 = .ok (.aload_n 1, 1) := by decide +kernel
theorem d13_9 : decode prog_29_method_4_code 9 = .ok (.arraylength, 1) := by decide +kernel
theorem d13_10 : decode prog_29_method_4_code 10 = .ok (.if_icmp .ge 50, 3) := by decide +kernel
theorem d13_13 : decode prog_29_method_4_code 13 = .ok (.aload_n 1, 1) := by decide +kernel
theorem d13_14 : decode prog_29_method_4_code 14 = .ok (.iload_n 2, 1) := by decide +kernel
theorem d13_15 : decode prog_29_method_4_code 15 = .ok (.laload, 1) := by decide +kernel
theorem d13_16 : decode prog_29_method_4_code 16 = .ok (.aload_n 0, 1) := by decide +kernel
theorem d13_17 : decode prog_29_method_4_code 17 = .ok (.getfield 22, 3) := by decide +kernel
theorem d13_20 : decode prog_29_method_4_code 20 = .ok (.iload_n 2, 1) := by decide +kernel
theorem d13_21 : decode prog_29_method_4_code 21 = .ok (.laload, 1) := by decide +kernel
theorem d13_22 : decode prog_29_method_4_code 22 = .ok (.lcmp, 1) := by decide +kernel
theorem d13_23 : decode prog_29_method_4_code 23 = .ok (.ifCond .le 31, 3) := by decide +kernel
theorem d13_26 : decode prog_29_method_4_code 26 = .ok (.aload_n 0, 1) := by decide +kernel
theorem d13_27 : decode prog_29_method_4_code 27 = .ok (.getfield 19, 3) := by decide +kernel
theorem d13_30 : decode prog_29_method_4_code 30 = .ok (.iload_n 2, 1) := by decide +kernel
theorem d13_31 : decode prog_29_method_4_code 31 = .ok (.laload, 1) := by decide +kernel
theorem d13_32 : decode prog_29_method_4_code 32 = .ok (.lconst 0, 1) := by decide +kernel
theorem d13_33 : decode prog_29_method_4_code 33 = .ok (.lcmp, 1) := by decide +kernel
theorem d13_34 : decode prog_29_method_4_code 34 = .ok (.ifCond .ne 20, 3) := by decide +kernel
theorem d13_54 : decode prog_29_method_4_code 54 = .ok (.iinc 2 1, 3) := by decide +kernel
theorem d13_57 : decode prog_29_method_4_code 57 = .ok (.goto (-50), 3) := by decide +kernel
theorem d13_60 : decode prog_29_method_4_code 60 = .ok (.iconst 0, 1) := by decide +kernel
theorem d13_61 : decode prog_29_method_4_code 61 = .ok (.istore_n 2, 1) := by decide +kernel
theorem d13_62 : decode prog_29_method_4_code 62 = .ok (.iload_n 2, 1) := by decide +kernel
theorem d13_63 : decode prog_29_method_4_code 63 = .ok (.aload_n 1, 1) := by decide +kernel
theorem d13_64 : decode prog_29_method_4_code 64 = .ok (.arraylength, 1) := by decide +kernel
theorem d13_65 : decode prog_29_method_4_code 65 = .ok (.if_icmp .ge 66, 3) := by decide +kernel
theorem d13_68 : decode prog_29_method_4_code 68 = .ok (.aload_n 1, 1) := by decide +kernel
theorem d13_69 : decode prog_29_method_4_code 69 = .ok (.iload_n 2, 1) := by decide +kernel
theorem d13_70 : decode prog_29_method_4_code 70 = .ok (.laload, 1) := by decide +kernel
theorem d13_71 : decode prog_29_method_4_code 71 = .ok (.aload_n 0, 1) := by decide +kernel
theorem d13_72 : decode prog_29_method_4_code 72 = .ok (.getfield 22, 3) := by decide +kernel
theorem d13_75 : decode prog_29_method_4_code 75 = .ok (.iload_n 2, 1) := by decide +kernel
theorem d13_76 : decode prog_29_method_4_code 76 = .ok (.laload, 1) := by decide +kernel
theorem d13_77 : decode prog_29_method_4_code 77 = .ok (.lcmp, 1) := by decide +kernel
theorem d13_78 : decode prog_29_method_4_code 78 = .ok (.ifCond .le 35, 3) := by decide +kernel
theorem d13_81 : decode prog_29_method_4_code 81 = .ok (.aload_n 0, 1) := by decide +kernel
theorem d13_82 : decode prog_29_method_4_code 82 = .ok (.getfield 19, 3) := by decide +kernel
theorem d13_85 : decode prog_29_method_4_code 85 = .ok (.iload_n 2, 1) := by decide +kernel
theorem d13_86 : decode prog_29_method_4_code 86 = .ok (.dup2, 1) := by decide +kernel
theorem d13_87 : decode prog_29_method_4_code 87 = .ok (.laload, 1) := by decide +kernel
theorem d13_88 : decode prog_29_method_4_code 88 = .ok (.lconst 1, 1) := by decide +kernel
theorem d13_89 : decode prog_29_method_4_code 89 = .ok (.lsub, 1) := by decide +kernel
theorem d13_90 : decode prog_29_method_4_code 90 = .ok (.lastore, 1) := by decide +kernel
theorem d13_91 : decode prog_29_method_4_code 91 = .ok (.aload_n 0, 1) := by decide +kernel
theorem d13_92 : decode prog_29_method_4_code 92 = .ok (.getfield 22, 3) := by decide +kernel
theorem d13_95 : decode prog_29_method_4_code 95 = .ok (.iload_n 2, 1) := by decide +kernel
theorem d13_96 : decode prog_29_method_4_code 96 = .ok (.dup2, 1) := by decide +kernel
theorem d13_97 : decode prog_29_method_4_code 97 = .ok (.laload, 1) := by decide +kernel
theorem d13_98 : decode prog_29_method_4_code 98 = .ok (.aload_n 0, 1) := by decide +kernel
theorem d13_99 : decode prog_29_method_4_code 99 = .ok (.getfield 13, 3) := by decide +kernel
theorem d13_102 : decode prog_29_method_4_code 102 = .ok (.iload_n 2, 1) := by decide +kernel
theorem d13_103 : decode prog_29_method_4_code 103 = .ok (.laload, 1) := by decide +kernel
theorem d13_104 : decode prog_29_method_4_code 104 = .ok (.aload_n 1, 1) := by decide +kernel
theorem d13_105 : decode prog_29_method_4_code 105 = .ok (.iload_n 2, 1) := by decide +kernel
theorem d13_106 : decode prog_29_method_4_code 106 = .ok (.laload, 1) := by decide +kernel
theorem d13_107 : decode prog_29_method_4_code 107 = .ok (.lsub, 1) := by decide +kernel
theorem d13_108 : decode prog_29_method_4_code 108 = .ok (.ladd, 1) := by decide +kernel
theorem d13_109 : decode prog_29_method_4_code 109 = .ok (.lastore, 1) := by decide +kernel
theorem d13_110 : decode prog_29_method_4_code 110 = .ok (.goto 15, 3) := by decide +kernel
theorem d13_113 : decode prog_29_method_4_code 113 = .ok (.aload_n 0, 1) := by decide +kernel
theorem d13_114 : decode prog_29_method_4_code 114 = .ok (.getfield 22, 3) := by decide +kernel
theorem d13_117 : decode prog_29_method_4_code 117 = .ok (.iload_n 2, 1) := by decide +kernel
theorem d13_118 : decode prog_29_method_4_code 118 = .ok (.dup2, 1) := by decide +kernel
theorem d13_119 : decode prog_29_method_4_code 119 = .ok (.laload, 1) := by decide +kernel
theorem d13_120 : decode prog_29_method_4_code 120 = .ok (.aload_n 1, 1) := by decide +kernel
theorem d13_121 : decode prog_29_method_4_code 121 = .ok (.iload_n 2, 1) := by decide +kernel
theorem d13_122 : decode prog_29_method_4_code 122 = .ok (.laload, 1) := by decide +kernel
theorem d13_123 : decode prog_29_method_4_code 123 = .ok (.lsub, 1) := by decide +kernel
theorem d13_124 : decode prog_29_method_4_code 124 = .ok (.lastore, 1) := by decide +kernel
theorem d13_125 : decode prog_29_method_4_code 125 = .ok (.iinc 2 1, 3) := by decide +kernel
theorem d13_128 : decode prog_29_method_4_code 128 = .ok (.goto (-66), 3) := by decide +kernel
theorem d13_131 : decode prog_29_method_4_code 131 = .ok (.return_, 1) := by decide +kernel
def j13_2_0 (w0 : Int64) (r0 : Int64) (s0 : Int64) : Int64 := (if r0 < s0 then (w0 - (1 : Int64)) else w0)
def j13_2_1 (c0 : Int64) (r0 : Int64) (s0 : Int64) : Int64 := (if r0 < s0 then (r0 + (c0 - s0)) else (r0 - s0))
def j13_2_2 (w1 : Int64) (r1 : Int64) (s1 : Int64) : Int64 := (if r1 < s1 then (w1 - (1 : Int64)) else w1)
def j13_2_3 (c1 : Int64) (r1 : Int64) (s1 : Int64) : Int64 := (if r1 < s1 then (r1 + (c1 - s1)) else (r1 - s1))
theorem ef13_2 (m : MethodId) (x0 : Addr) (x1 : Addr) : entryFrame m #[(.ref x0), (.ref x1)] 3 = mkF m 0 #[.val (.ref x0), .val (.ref x1), .unset] [] := by first | (simp [entryFrame, mkF, argsToLocals, Value.category]; done) | rfl
abbrev rr13_2 : Room := { frames := 3, cells := 2, slots := 24, locals := 40 }
def Q13_2 (Z : State) (a0 : Addr) (a1 : Addr) (bc : Addr) (bw : Addr) (br : Addr) (c0 : Int64) (c1 : Int64) (w0 : Int64) (w1 : Int64) (r0 : Int64) (r1 : Int64) (s0 : Int64) (s1 : Int64) (k_bc : ClassId) (k_bw : ClassId) (k_br : ClassId) (k_a1 : ClassId) (h0 : Heap) (n0 : Nat) (v : Option Value) (h : Heap) (L : List Loc) : Prop := v = none ∧ Fr n0 L ∧ Keep h0 h [bw, br] ∧ Arv Z h bw k_bw .long (2 : Int32) [(.long (j13_2_0 w0 r0 s0)), (.long (j13_2_2 w1 r1 s1))] (.long (0 : Int64)) ∧ Arv Z h br k_br .long (2 : Int32) [(.long (j13_2_1 c0 r0 s0)), (.long (j13_2_3 c1 r1 s1))] (.long (0 : Int64))
set_option maxRecDepth 65536 in
set_option maxHeartbeats 40000000 in
theorem rm13_2 (l : Launch) (Z : State) (aw : Array Value) (hw : ∀ d ∈ tables_1, d.before aw Z = true) (ws : List Jvm.Cond) (a0 : Addr) (a1 : Addr) (bc : Addr) (bw : Addr) (br : Addr) (c0 : Int64) (c1 : Int64) (w0 : Int64) (w1 : Int64) (r0 : Int64) (r1 : Int64) (s0 : Int64) (s1 : Int64) (k_bc : ClassId) (k_bw : ClassId) (k_br : ClassId) (k_a1 : ClassId) (h0 : Heap) (n0 : Nat) (Z0 : n0 ≤ h0.size) (E_a0 : Exa Z h0 a0 "com/example/stowline/stowline/VolumeBound") (F_capacities_a0 : Fld Z h0 a0 "com/example/stowline/stowline/VolumeBound" "capacities" "[J" (.ref bc)) (F_wholeCapacities_a0 : Fld Z h0 a0 "com/example/stowline/stowline/VolumeBound" "wholeCapacities" "[J" (.ref bw)) (F_remainders_a0 : Fld Z h0 a0 "com/example/stowline/stowline/VolumeBound" "remainders" "[J" (.ref br)) (V_bc : Arv Z h0 bc k_bc .long (2 : Int32) [(.long c0), (.long c1)] (.long (0 : Int64))) (V_bw : Arv Z h0 bw k_bw .long (2 : Int32) [(.long w0), (.long w1)] (.long (0 : Int64))) (V_br : Arv Z h0 br k_br .long (2 : Int32) [(.long r0), (.long r1)] (.long (0 : Int64))) (V_a1 : Arv Z h0 a1 k_a1 .long (2 : Int32) [(.long s0), (.long s1)] (.long (0 : Int64))) (g_bw : n0 ≤ bw) (g_br : n0 ≤ br) (ne_a0_bw : a0 ≠ bw) (ne_a0_br : a0 ≠ br) (ne_bc_bw : bc ≠ bw) (ne_bc_br : bc ≠ br) (ne_bw_br : bw ≠ br) (ne_a1_bw : a1 ≠ bw) (ne_a1_br : a1 ≠ br) (hs0 : ¬ s0 < (0 : Int64)) (hs1 : ¬ s1 < (0 : Int64)) (ht0 : ¬ c0 < s0) (ht1 : ¬ c1 < s1) (hr0 : r0 < s0 → ¬ w0 = (0 : Int64)) (hr1 : r1 < s1 → ¬ w1 = (0 : Int64)) :
    MetFree l (⟨"com/example/stowline/stowline/VolumeBound", "remove", "([J)V"⟩ : MethodName) (head1 (Jvm.Cond.code (⟨"com/example/stowline/stowline/VolumeBound", "remove", "([J)V"⟩ : MethodName) prog_29_method_4_code 3 none :: ws) rr13_2) (fun a U => a = #[(.ref a0), (.ref a1)] ∧ Z.Warmed39 U.vm ∧ U.heap = h0) (fun _ _ _ _ _ => True) (fun _ U o U' => ∃ v L, o = .returned v ∧ Q13_2 Z a0 a1 bc bw br c0 c1 w0 w1 r0 r1 s0 s1 k_bc k_bw k_br k_a1 h0 n0 v U'.heap L ∧ ReturnedEndW U o U' L rr13_2.cells rr13_2.slots) := by
  refine MetFree.of_bodySF (plainFor_of_name pn_3) hisR ?_
  intro p e s m args below meth c s₁ Bd hml0 hP hK
  obtain ⟨rfl, hZ, hh⟩ := hP
  have hx := Bd.exec
  have hby := Bd.bytes
  have hml : c.maxLocals = 3 := hml0
  have hown : s.vm.findClass "com/example/stowline/stowline/VolumeBound" = some m.cls := findClass_of_methodNamed Bd.named
  have hnm := (name_of_methodNamed Bd.named Bd.method).1
  have X0 : Stand p l e rr13_2 (s.setVm s.vm) m #[(.ref a0), (.ref a1)] below meth c s₁ [] 0 0 := Stand.of_body Bd
  have e0 : s₁.heap = h0 := by rw [← hh, Bd.state]; rfl
  have N0 := Fr.nil n0
  have K0 := Keep.refl h0 [bw, br]
  have hS : s.Since s.vm 0 := (State.WarmedH.refl s).since 0
  have hk : 0 ≤ h0.size := Nat.zero_le _
  have hstr : ∀ a ∈ Bundle.stringAtoms, a.before aw Z = true := fun d hd => hw d ((by decide +kernel : ∀ d ∈ Bundle.stringAtoms, d ∈ tables_1) d hd)
  have pre0 : ∀ t, Steps p.tables e below (s₁.setTop (mkF m 0 #[.val (.ref a0), .val (.ref a1), .unset] [])) t → Steps p.tables e below (s₁.setTop (entryFrame m #[(.ref a0), (.ref a1)] 3)) t := fun t k => castTop (ef13_2 m a0 a1) k
  have pre434 := fun (t : State) (k : Steps p.tables e below (s₁.setTop (mkF m 2 #[.val (.ref a0), .val (.ref a1), .unset] [(.ref a1), (.ref a0)])) t) => pre0 t (by
    show Steps p.tables e below (s₁.setTop (mkF m 0 #[.val (.ref a0), .val (.ref a1), .unset] [])) _
    refine XS.aloadN X0.here hx rfl (hb hby d13_0) rfl rfl ?_
    show Steps p.tables e below (s₁.setTop (mkF m 1 #[.val (.ref a0), .val (.ref a1), .unset] [(.ref a0)])) _
    refine XS.aloadN X0.here hx rfl (hb hby d13_1) rfl rfl ?_
    exact k)
  obtain ⟨cq433, kq433, q433a, q433b, q433c⟩ := isOf hZ e0 E_a0
  obtain ⟨_, _, ⟨T433, L433, k433, n433⟩, -, X433, hSi433, hgr433, ⟨Lc433, hQ433, l433, y433, z433⟩, st433⟩ := X0.virtualBackS hx (y := (⟨"com/example/stowline/stowline/VolumeBound", "checkSizes", "([J)V"⟩ : MethodName)) (z := (⟨"com/example/stowline/stowline/VolumeBound", "checkSizes", "([J)V"⟩ : MethodName)) hown (mvT hZ (hw _ (List.mem_of_getElem? (i := 54) rfl))) (mvT hZ (hw _ (List.mem_of_getElem? (i := 55) rfl))) (notFace_of_selects (args := #[]) (mvT hZ (hw _ (List.mem_of_getElem? (i := 57) rfl)))) (mvT hZ (hw _ (List.mem_of_getElem? (i := 57) rfl))) (mvT hZ (hw _ (List.mem_of_getElem? (i := 56) rfl))) (by decide) (backOfS (W := 0) (rm8_2 l Z aw hw [] a0 a1 bc c0 c1 s0 s1 k_bc k_a1 h0 n0 Z0 E_a0 F_capacities_a0 V_bc V_a1 hs0 hs1 ht0 ht1) hZ (hw _ (List.mem_of_getElem? (i := 58) rfl)) (hw _ (List.mem_of_getElem? (i := 11) rfl)) (by decide) (by decide)) q433a q433c (g := (mkF m 2 #[.val (.ref a0), .val (.ref a1), .unset] [(.ref a1), (.ref a0)])) rfl (by rw [hml]; rfl) (Steps.refl _) (argsL := [(.ref a1)]) (rest := []) (lenOf pd_6 rfl) rfl (by show 2 * 0 + _ ≤ _; exact Nat.le_of_eq rfl) (hb hby d13_2) (fun _ _ => ⟨rfl, e0, (by decide : 0 + 2 ≤ _), (by decide : 0 + 24 ≤ _)⟩)
  dsimp only [Pt.U, Pt.locs, Pt.cells, Pt.slots] at X433 l433 y433 z433 st433 hQ433 hSi433 hgr433
  subst l433 y433 z433
  obtain ⟨X433, hS, hZ, hown⟩ := rebS hS (show _ ≤ s₁.heap.size from own_hk hk e0) X433 hSi433 hgr433 hZ hown
  obtain ⟨h433, e433⟩ : ∃ z, T433.heap = z := ⟨_, rfl⟩
  rw [e433] at hQ433
  obtain ⟨rfl, N433q, K433q⟩ := hQ433
  have f435 := E_a0.keep K433q
  have f436 := F_capacities_a0.keep K433q nin0
  have f437 := F_wholeCapacities_a0.keep K433q nin0
  have f438 := F_remainders_a0.keep K433q nin0
  have f439 := V_bc.keep K433q nin0
  have f440 := V_bw.keep K433q nin0
  have f441 := V_br.keep K433q nin0
  have f442 := V_a1.keep K433q nin0
  have K433 := K0.trans K433q all0
  have Z433 := Nat.le_trans Z0 K433q.1
  have hk : T433.heap.size ≤ h433.size := by rw [e433]; exact Nat.le_refl _
  have N433 := Fr.app N0 N433q
  obtain ⟨cl443, Ar443, q443, S443, M443, H443, G443⟩ := id f442
  obtain ⟨cl444, Ar444, q444, S444, M444, H444, G444⟩ := id f442
  have hin445 : ¬ ((0 : Int32) < 0 ∨ cl444.slots.size ≤ ((0 : Int32)).toNatClampNeg) := inb_of S444 ⟨by decide, by decide⟩
  have hat446 : cl444.slots[((0 : Int32)).toNatClampNeg]? = some (.long s0) := H444.at hin445 rfl
  obtain ⟨T447, X447, e447, st447⟩ := getF X433 hx hZ hown (host := "") (Or.inl (hw _ (List.mem_of_getElem? (i := 47) rfl))) Via.refl e433 f438 (g := (mkF m 17 #[.val (.ref a0), .val (.ref a1), .val (.int (0 : Int32))] [(.ref a0), (.long s0)])) rfl rfl (hb hby d13_17)
  obtain ⟨cl448, Ar448, q448, S448, M448, H448, G448⟩ := id f441
  have hin449 : ¬ ((0 : Int32) < 0 ∨ cl448.slots.size ≤ ((0 : Int32)).toNatClampNeg) := inb_of S448 ⟨by decide, by decide⟩
  have hat450 : cl448.slots[((0 : Int32)).toNatClampNeg]? = some (.long r0) := H448.at hin449 rfl
  have pre455 := fun (t : State) (k : Steps p.tables e below (T447.setTop (mkF m 23 #[.val (.ref a0), .val (.ref a1), .val (.int (0 : Int32))] [(.int (lcmpW s0 r0))])) t) => pre434 t (by
    show Steps p.tables e below (s₁.setTop (mkF m 2 #[.val (.ref a0), .val (.ref a1), .unset] [(.ref a1), (.ref a0)])) _
    refine st433.trans ?_
    show Steps p.tables e below (T433.setTop (mkF m 5 #[.val (.ref a0), .val (.ref a1), .unset] [])) _
    refine XS.iconst X433.here hx rfl (hb hby d13_5) ?_
    show Steps p.tables e below (T433.setTop (mkF m 6 #[.val (.ref a0), .val (.ref a1), .unset] [(.int (0 : Int32))])) _
    refine XS.istoreN X433.here hx rfl (hb hby d13_6) rfl (l' := #[.val (.ref a0), .val (.ref a1), .val (.int (0 : Int32))]) rfl ?_
    show Steps p.tables e below (T433.setTop (mkF m 7 #[.val (.ref a0), .val (.ref a1), .val (.int (0 : Int32))] [])) _
    refine XS.iloadN X433.here hx rfl (hb hby d13_7) rfl ?_
    show Steps p.tables e below (T433.setTop (mkF m 8 #[.val (.ref a0), .val (.ref a1), .val (.int (0 : Int32))] [(.int (0 : Int32))])) _
    refine XS.aloadN X433.here hx rfl (hb hby d13_8) rfl rfl ?_
    show Steps p.tables e below (T433.setTop (mkF m 9 #[.val (.ref a0), .val (.ref a1), .val (.int (0 : Int32))] [(.ref a1), (.int (0 : Int32))])) _
    refine X433.arraylength hx (by rw [e433]; exact Ar443.1) (State.isArrayOf_alike hZ.alike Ar443.2.1) (g := (mkF m 9 #[.val (.ref a0), .val (.ref a1), .val (.int (0 : Int32))] [(.ref a1), (.int (0 : Int32))])) rfl rfl (hb hby d13_9) _ ?_
    rw [len_of S443 M443]
    show Steps p.tables e below (T433.setTop (mkF m 10 #[.val (.ref a0), .val (.ref a1), .val (.int (0 : Int32))] [(.int (2 : Int32)), (.int (0 : Int32))])) _
    refine XS.icmpNo X433.here hx rfl (hb hby d13_10) rfl (tlt (by decide : (0 : Int32) < (2 : Int32))).2.1 ?_
    show Steps p.tables e below (T433.setTop (mkF m 13 #[.val (.ref a0), .val (.ref a1), .val (.int (0 : Int32))] [])) _
    refine XS.aloadN X433.here hx rfl (hb hby d13_13) rfl rfl ?_
    show Steps p.tables e below (T433.setTop (mkF m 14 #[.val (.ref a0), .val (.ref a1), .val (.int (0 : Int32))] [(.ref a1)])) _
    refine XS.iloadN X433.here hx rfl (hb hby d13_14) rfl ?_
    show Steps p.tables e below (T433.setTop (mkF m 15 #[.val (.ref a0), .val (.ref a1), .val (.int (0 : Int32))] [(.int (0 : Int32)), (.ref a1)])) _
    refine X433.laload hx (j := (0 : Int32)) (v := (.long s0)) (by rw [e433]; exact Ar444.1) (State.isArrayOf_alike hZ.alike Ar444.2.1) Ar444.2.2 hin445 hat446 (g := (mkF m 15 #[.val (.ref a0), .val (.ref a1), .val (.int (0 : Int32))] [(.int (0 : Int32)), (.ref a1)])) rfl rfl (hb hby d13_15) _ ?_
    show Steps p.tables e below (T433.setTop (mkF m 16 #[.val (.ref a0), .val (.ref a1), .val (.int (0 : Int32))] [(.long s0)])) _
    refine XS.aloadN X433.here hx rfl (hb hby d13_16) rfl rfl ?_
    show Steps p.tables e below (T433.setTop (mkF m 17 #[.val (.ref a0), .val (.ref a1), .val (.int (0 : Int32))] [(.ref a0), (.long s0)])) _
    refine st447 _ ?_
    show Steps p.tables e below (T447.setTop (mkF m 20 #[.val (.ref a0), .val (.ref a1), .val (.int (0 : Int32))] [(.ref br), (.long s0)])) _
    refine XS.iloadN X447.here hx rfl (hb hby d13_20) rfl ?_
    show Steps p.tables e below (T447.setTop (mkF m 21 #[.val (.ref a0), .val (.ref a1), .val (.int (0 : Int32))] [(.int (0 : Int32)), (.ref br), (.long s0)])) _
    refine X447.laload hx (j := (0 : Int32)) (v := (.long r0)) (by rw [e447]; exact Ar448.1) (State.isArrayOf_alike hZ.alike Ar448.2.1) Ar448.2.2 hin449 hat450 (g := (mkF m 21 #[.val (.ref a0), .val (.ref a1), .val (.int (0 : Int32))] [(.int (0 : Int32)), (.ref br), (.long s0)])) rfl rfl (hb hby d13_21) _ ?_
    show Steps p.tables e below (T447.setTop (mkF m 22 #[.val (.ref a0), .val (.ref a1), .val (.int (0 : Int32))] [(.long r0), (.long s0)])) _
    refine XS.lcmp X447.here hx rfl (hb hby d13_22) rfl ?_
    exact k)
  obtain ⟨T456, L456, X456, e456, N456, pre456⟩ : ∃ (T456 : State) (L456 : List Loc), Stand p l e rr13_2 (s.setVm T433.vm) m #[(.ref a0), (.ref a1)] below meth c T456 L456 2 24 ∧ T456.heap = h433 ∧ Fr n0 L456 ∧ ∀ t, Steps p.tables e below (T456.setTop (mkF m 54 #[.val (.ref a0), .val (.ref a1), .val (.int (0 : Int32))] [])) t → Steps p.tables e below (s₁.setTop (entryFrame m #[(.ref a0), (.ref a1)] 3)) t := by
    by_cases hc457 : r0 < s0
    · skip
      obtain ⟨T458, X458, e458, st458⟩ := getF X447 hx hZ hown (host := "") (Or.inl (hw _ (List.mem_of_getElem? (i := 45) rfl))) Via.refl e447 f437 (g := (mkF m 27 #[.val (.ref a0), .val (.ref a1), .val (.int (0 : Int32))] [(.ref a0)])) rfl rfl (hb hby d13_27)
      obtain ⟨cl459, Ar459, q459, S459, M459, H459, G459⟩ := id f440
      have hin460 : ¬ ((0 : Int32) < 0 ∨ cl459.slots.size ≤ ((0 : Int32)).toNatClampNeg) := inb_of S459 ⟨by decide, by decide⟩
      have hat461 : cl459.slots[((0 : Int32)).toNatClampNeg]? = some (.long w0) := H459.at hin460 rfl
      have pre462 := fun (t : State) (k : Steps p.tables e below (T458.setTop (mkF m 54 #[.val (.ref a0), .val (.ref a1), .val (.int (0 : Int32))] [])) t) => pre455 t (by
        show Steps p.tables e below (T447.setTop (mkF m 23 #[.val (.ref a0), .val (.ref a1), .val (.int (0 : Int32))] [(.int (lcmpW s0 r0))])) _
        refine XS.ifNo X447.here hx rfl (hb hby d13_23) rfl ((if0 _ _).trans (tlt ((own_gt s0 r0).mpr hc457)).2.2.2) ?_
        show Steps p.tables e below (T447.setTop (mkF m 26 #[.val (.ref a0), .val (.ref a1), .val (.int (0 : Int32))] [])) _
        refine XS.aloadN X447.here hx rfl (hb hby d13_26) rfl rfl ?_
        show Steps p.tables e below (T447.setTop (mkF m 27 #[.val (.ref a0), .val (.ref a1), .val (.int (0 : Int32))] [(.ref a0)])) _
        refine st458 _ ?_
        show Steps p.tables e below (T458.setTop (mkF m 30 #[.val (.ref a0), .val (.ref a1), .val (.int (0 : Int32))] [(.ref bw)])) _
        refine XS.iloadN X458.here hx rfl (hb hby d13_30) rfl ?_
        show Steps p.tables e below (T458.setTop (mkF m 31 #[.val (.ref a0), .val (.ref a1), .val (.int (0 : Int32))] [(.int (0 : Int32)), (.ref bw)])) _
        refine X458.laload hx (j := (0 : Int32)) (v := (.long w0)) (by rw [e458]; exact Ar459.1) (State.isArrayOf_alike hZ.alike Ar459.2.1) Ar459.2.2 hin460 hat461 (g := (mkF m 31 #[.val (.ref a0), .val (.ref a1), .val (.int (0 : Int32))] [(.int (0 : Int32)), (.ref bw)])) rfl rfl (hb hby d13_31) _ ?_
        show Steps p.tables e below (T458.setTop (mkF m 32 #[.val (.ref a0), .val (.ref a1), .val (.int (0 : Int32))] [(.long w0)])) _
        refine XS.lconst X458.here hx rfl (hb hby d13_32) ?_
        show Steps p.tables e below (T458.setTop (mkF m 33 #[.val (.ref a0), .val (.ref a1), .val (.int (0 : Int32))] [(.long (0 : Int64)), (.long w0)])) _
        refine XS.lcmp X458.here hx rfl (hb hby d13_33) rfl ?_
        show Steps p.tables e below (T458.setTop (mkF m 34 #[.val (.ref a0), .val (.ref a1), .val (.int (0 : Int32))] [(.int (lcmpW w0 (0 : Int64)))])) _
        refine XS.ifYes X458.here hx rfl (pc0 := 34) (pc' := 54) rfl (hb hby d13_34) rfl ((if0 _ _).trans (feq (mt (own_eq w0 (0 : Int64)).mp (hr0 hc457))).2) (by decide) (by decide) ?_
        exact k)
      exact ⟨T458, _, X458, e458, N433, fun t k => pre462 t (by exact k)⟩
    · skip
      have pre463 := fun (t : State) (k : Steps p.tables e below (T447.setTop (mkF m 54 #[.val (.ref a0), .val (.ref a1), .val (.int (0 : Int32))] [])) t) => pre455 t (by
        show Steps p.tables e below (T447.setTop (mkF m 23 #[.val (.ref a0), .val (.ref a1), .val (.int (0 : Int32))] [(.int (lcmpW s0 r0))])) _
        refine XS.ifYes X447.here hx rfl (pc0 := 23) (pc' := 54) rfl (hb hby d13_23) rfl ((if0 _ _).trans (flt (mt (own_gt s0 r0).mp hc457)).2.2.2) (by decide) (by decide) ?_
        exact k)
      exact ⟨T447, _, X447, e447, N433, fun t k => pre463 t (by exact k)⟩
  obtain ⟨cl464, Ar464, q464, S464, M464, H464, G464⟩ := id f442
  obtain ⟨cl465, Ar465, q465, S465, M465, H465, G465⟩ := id f442
  have hin466 : ¬ ((1 : Int32) < 0 ∨ cl465.slots.size ≤ ((1 : Int32)).toNatClampNeg) := inb_of S465 ⟨by decide, by decide⟩
  have hat467 : cl465.slots[((1 : Int32)).toNatClampNeg]? = some (.long s1) := H465.at hin466 rfl
  obtain ⟨T468, X468, e468, st468⟩ := getF X456 hx hZ hown (host := "") (Or.inl (hw _ (List.mem_of_getElem? (i := 47) rfl))) Via.refl e456 f438 (g := (mkF m 17 #[.val (.ref a0), .val (.ref a1), .val (.int (1 : Int32))] [(.ref a0), (.long s1)])) rfl rfl (hb hby d13_17)
  obtain ⟨cl469, Ar469, q469, S469, M469, H469, G469⟩ := id f441
  have hin470 : ¬ ((1 : Int32) < 0 ∨ cl469.slots.size ≤ ((1 : Int32)).toNatClampNeg) := inb_of S469 ⟨by decide, by decide⟩
  have hat471 : cl469.slots[((1 : Int32)).toNatClampNeg]? = some (.long r1) := H469.at hin470 rfl
  have pre476 := fun (t : State) (k : Steps p.tables e below (T468.setTop (mkF m 23 #[.val (.ref a0), .val (.ref a1), .val (.int (1 : Int32))] [(.int (lcmpW s1 r1))])) t) => pre456 t (by
    show Steps p.tables e below (T456.setTop (mkF m 54 #[.val (.ref a0), .val (.ref a1), .val (.int (0 : Int32))] [])) _
    refine XS.iinc X456.here hx rfl (hb hby d13_54) rfl (l' := #[.val (.ref a0), .val (.ref a1), .val (.int (1 : Int32))]) rfl ?_
    show Steps p.tables e below (T456.setTop (mkF m 57 #[.val (.ref a0), .val (.ref a1), .val (.int (1 : Int32))] [])) _
    refine XS.goto X456.here hx rfl (pc0 := 57) (pc' := 7) rfl (hb hby d13_57) (by decide) (by decide) ?_
    show Steps p.tables e below (T456.setTop (mkF m 7 #[.val (.ref a0), .val (.ref a1), .val (.int (1 : Int32))] [])) _
    refine XS.iloadN X456.here hx rfl (hb hby d13_7) rfl ?_
    show Steps p.tables e below (T456.setTop (mkF m 8 #[.val (.ref a0), .val (.ref a1), .val (.int (1 : Int32))] [(.int (1 : Int32))])) _
    refine XS.aloadN X456.here hx rfl (hb hby d13_8) rfl rfl ?_
    show Steps p.tables e below (T456.setTop (mkF m 9 #[.val (.ref a0), .val (.ref a1), .val (.int (1 : Int32))] [(.ref a1), (.int (1 : Int32))])) _
    refine X456.arraylength hx (by rw [e456]; exact Ar464.1) (State.isArrayOf_alike hZ.alike Ar464.2.1) (g := (mkF m 9 #[.val (.ref a0), .val (.ref a1), .val (.int (1 : Int32))] [(.ref a1), (.int (1 : Int32))])) rfl rfl (hb hby d13_9) _ ?_
    rw [len_of S464 M464]
    show Steps p.tables e below (T456.setTop (mkF m 10 #[.val (.ref a0), .val (.ref a1), .val (.int (1 : Int32))] [(.int (2 : Int32)), (.int (1 : Int32))])) _
    refine XS.icmpNo X456.here hx rfl (hb hby d13_10) rfl (tlt (by decide : (1 : Int32) < (2 : Int32))).2.1 ?_
    show Steps p.tables e below (T456.setTop (mkF m 13 #[.val (.ref a0), .val (.ref a1), .val (.int (1 : Int32))] [])) _
    refine XS.aloadN X456.here hx rfl (hb hby d13_13) rfl rfl ?_
    show Steps p.tables e below (T456.setTop (mkF m 14 #[.val (.ref a0), .val (.ref a1), .val (.int (1 : Int32))] [(.ref a1)])) _
    refine XS.iloadN X456.here hx rfl (hb hby d13_14) rfl ?_
    show Steps p.tables e below (T456.setTop (mkF m 15 #[.val (.ref a0), .val (.ref a1), .val (.int (1 : Int32))] [(.int (1 : Int32)), (.ref a1)])) _
    refine X456.laload hx (j := (1 : Int32)) (v := (.long s1)) (by rw [e456]; exact Ar465.1) (State.isArrayOf_alike hZ.alike Ar465.2.1) Ar465.2.2 hin466 hat467 (g := (mkF m 15 #[.val (.ref a0), .val (.ref a1), .val (.int (1 : Int32))] [(.int (1 : Int32)), (.ref a1)])) rfl rfl (hb hby d13_15) _ ?_
    show Steps p.tables e below (T456.setTop (mkF m 16 #[.val (.ref a0), .val (.ref a1), .val (.int (1 : Int32))] [(.long s1)])) _
    refine XS.aloadN X456.here hx rfl (hb hby d13_16) rfl rfl ?_
    show Steps p.tables e below (T456.setTop (mkF m 17 #[.val (.ref a0), .val (.ref a1), .val (.int (1 : Int32))] [(.ref a0), (.long s1)])) _
    refine st468 _ ?_
    show Steps p.tables e below (T468.setTop (mkF m 20 #[.val (.ref a0), .val (.ref a1), .val (.int (1 : Int32))] [(.ref br), (.long s1)])) _
    refine XS.iloadN X468.here hx rfl (hb hby d13_20) rfl ?_
    show Steps p.tables e below (T468.setTop (mkF m 21 #[.val (.ref a0), .val (.ref a1), .val (.int (1 : Int32))] [(.int (1 : Int32)), (.ref br), (.long s1)])) _
    refine X468.laload hx (j := (1 : Int32)) (v := (.long r1)) (by rw [e468]; exact Ar469.1) (State.isArrayOf_alike hZ.alike Ar469.2.1) Ar469.2.2 hin470 hat471 (g := (mkF m 21 #[.val (.ref a0), .val (.ref a1), .val (.int (1 : Int32))] [(.int (1 : Int32)), (.ref br), (.long s1)])) rfl rfl (hb hby d13_21) _ ?_
    show Steps p.tables e below (T468.setTop (mkF m 22 #[.val (.ref a0), .val (.ref a1), .val (.int (1 : Int32))] [(.long r1), (.long s1)])) _
    refine XS.lcmp X468.here hx rfl (hb hby d13_22) rfl ?_
    exact k)
  obtain ⟨T477, L477, X477, e477, N477, pre477⟩ : ∃ (T477 : State) (L477 : List Loc), Stand p l e rr13_2 (s.setVm T433.vm) m #[(.ref a0), (.ref a1)] below meth c T477 L477 2 24 ∧ T477.heap = h433 ∧ Fr n0 L477 ∧ ∀ t, Steps p.tables e below (T477.setTop (mkF m 54 #[.val (.ref a0), .val (.ref a1), .val (.int (1 : Int32))] [])) t → Steps p.tables e below (s₁.setTop (entryFrame m #[(.ref a0), (.ref a1)] 3)) t := by
    by_cases hc478 : r1 < s1
    · skip
      obtain ⟨T479, X479, e479, st479⟩ := getF X468 hx hZ hown (host := "") (Or.inl (hw _ (List.mem_of_getElem? (i := 45) rfl))) Via.refl e468 f437 (g := (mkF m 27 #[.val (.ref a0), .val (.ref a1), .val (.int (1 : Int32))] [(.ref a0)])) rfl rfl (hb hby d13_27)
      obtain ⟨cl480, Ar480, q480, S480, M480, H480, G480⟩ := id f440
      have hin481 : ¬ ((1 : Int32) < 0 ∨ cl480.slots.size ≤ ((1 : Int32)).toNatClampNeg) := inb_of S480 ⟨by decide, by decide⟩
      have hat482 : cl480.slots[((1 : Int32)).toNatClampNeg]? = some (.long w1) := H480.at hin481 rfl
      have pre483 := fun (t : State) (k : Steps p.tables e below (T479.setTop (mkF m 54 #[.val (.ref a0), .val (.ref a1), .val (.int (1 : Int32))] [])) t) => pre476 t (by
        show Steps p.tables e below (T468.setTop (mkF m 23 #[.val (.ref a0), .val (.ref a1), .val (.int (1 : Int32))] [(.int (lcmpW s1 r1))])) _
        refine XS.ifNo X468.here hx rfl (hb hby d13_23) rfl ((if0 _ _).trans (tlt ((own_gt s1 r1).mpr hc478)).2.2.2) ?_
        show Steps p.tables e below (T468.setTop (mkF m 26 #[.val (.ref a0), .val (.ref a1), .val (.int (1 : Int32))] [])) _
        refine XS.aloadN X468.here hx rfl (hb hby d13_26) rfl rfl ?_
        show Steps p.tables e below (T468.setTop (mkF m 27 #[.val (.ref a0), .val (.ref a1), .val (.int (1 : Int32))] [(.ref a0)])) _
        refine st479 _ ?_
        show Steps p.tables e below (T479.setTop (mkF m 30 #[.val (.ref a0), .val (.ref a1), .val (.int (1 : Int32))] [(.ref bw)])) _
        refine XS.iloadN X479.here hx rfl (hb hby d13_30) rfl ?_
        show Steps p.tables e below (T479.setTop (mkF m 31 #[.val (.ref a0), .val (.ref a1), .val (.int (1 : Int32))] [(.int (1 : Int32)), (.ref bw)])) _
        refine X479.laload hx (j := (1 : Int32)) (v := (.long w1)) (by rw [e479]; exact Ar480.1) (State.isArrayOf_alike hZ.alike Ar480.2.1) Ar480.2.2 hin481 hat482 (g := (mkF m 31 #[.val (.ref a0), .val (.ref a1), .val (.int (1 : Int32))] [(.int (1 : Int32)), (.ref bw)])) rfl rfl (hb hby d13_31) _ ?_
        show Steps p.tables e below (T479.setTop (mkF m 32 #[.val (.ref a0), .val (.ref a1), .val (.int (1 : Int32))] [(.long w1)])) _
        refine XS.lconst X479.here hx rfl (hb hby d13_32) ?_
        show Steps p.tables e below (T479.setTop (mkF m 33 #[.val (.ref a0), .val (.ref a1), .val (.int (1 : Int32))] [(.long (0 : Int64)), (.long w1)])) _
        refine XS.lcmp X479.here hx rfl (hb hby d13_33) rfl ?_
        show Steps p.tables e below (T479.setTop (mkF m 34 #[.val (.ref a0), .val (.ref a1), .val (.int (1 : Int32))] [(.int (lcmpW w1 (0 : Int64)))])) _
        refine XS.ifYes X479.here hx rfl (pc0 := 34) (pc' := 54) rfl (hb hby d13_34) rfl ((if0 _ _).trans (feq (mt (own_eq w1 (0 : Int64)).mp (hr1 hc478))).2) (by decide) (by decide) ?_
        exact k)
      exact ⟨T479, _, X479, e479, N456, fun t k => pre483 t (by exact k)⟩
    · skip
      have pre484 := fun (t : State) (k : Steps p.tables e below (T468.setTop (mkF m 54 #[.val (.ref a0), .val (.ref a1), .val (.int (1 : Int32))] [])) t) => pre476 t (by
        show Steps p.tables e below (T468.setTop (mkF m 23 #[.val (.ref a0), .val (.ref a1), .val (.int (1 : Int32))] [(.int (lcmpW s1 r1))])) _
        refine XS.ifYes X468.here hx rfl (pc0 := 23) (pc' := 54) rfl (hb hby d13_23) rfl ((if0 _ _).trans (flt (mt (own_gt s1 r1).mp hc478)).2.2.2) (by decide) (by decide) ?_
        exact k)
      exact ⟨T468, _, X468, e468, N456, fun t k => pre484 t (by exact k)⟩
  obtain ⟨cl485, Ar485, q485, S485, M485, H485, G485⟩ := id f442
  obtain ⟨cl486, Ar486, q486, S486, M486, H486, G486⟩ := id f442
  obtain ⟨cl487, Ar487, q487, S487, M487, H487, G487⟩ := id f442
  have hin488 : ¬ ((0 : Int32) < 0 ∨ cl487.slots.size ≤ ((0 : Int32)).toNatClampNeg) := inb_of S487 ⟨by decide, by decide⟩
  have hat489 : cl487.slots[((0 : Int32)).toNatClampNeg]? = some (.long s0) := H487.at hin488 rfl
  obtain ⟨T490, X490, e490, st490⟩ := getF X477 hx hZ hown (host := "") (Or.inl (hw _ (List.mem_of_getElem? (i := 47) rfl))) Via.refl e477 f438 (g := (mkF m 72 #[.val (.ref a0), .val (.ref a1), .val (.int (0 : Int32))] [(.ref a0), (.long s0)])) rfl rfl (hb hby d13_72)
  obtain ⟨cl491, Ar491, q491, S491, M491, H491, G491⟩ := id f441
  have hin492 : ¬ ((0 : Int32) < 0 ∨ cl491.slots.size ≤ ((0 : Int32)).toNatClampNeg) := inb_of S491 ⟨by decide, by decide⟩
  have hat493 : cl491.slots[((0 : Int32)).toNatClampNeg]? = some (.long r0) := H491.at hin492 rfl
  have pre558 := fun (t : State) (k : Steps p.tables e below (T490.setTop (mkF m 78 #[.val (.ref a0), .val (.ref a1), .val (.int (0 : Int32))] [(.int (lcmpW s0 r0))])) t) => pre477 t (by
    show Steps p.tables e below (T477.setTop (mkF m 54 #[.val (.ref a0), .val (.ref a1), .val (.int (1 : Int32))] [])) _
    refine XS.iinc X477.here hx rfl (hb hby d13_54) rfl (l' := #[.val (.ref a0), .val (.ref a1), .val (.int (2 : Int32))]) rfl ?_
    show Steps p.tables e below (T477.setTop (mkF m 57 #[.val (.ref a0), .val (.ref a1), .val (.int (2 : Int32))] [])) _
    refine XS.goto X477.here hx rfl (pc0 := 57) (pc' := 7) rfl (hb hby d13_57) (by decide) (by decide) ?_
    show Steps p.tables e below (T477.setTop (mkF m 7 #[.val (.ref a0), .val (.ref a1), .val (.int (2 : Int32))] [])) _
    refine XS.iloadN X477.here hx rfl (hb hby d13_7) rfl ?_
    show Steps p.tables e below (T477.setTop (mkF m 8 #[.val (.ref a0), .val (.ref a1), .val (.int (2 : Int32))] [(.int (2 : Int32))])) _
    refine XS.aloadN X477.here hx rfl (hb hby d13_8) rfl rfl ?_
    show Steps p.tables e below (T477.setTop (mkF m 9 #[.val (.ref a0), .val (.ref a1), .val (.int (2 : Int32))] [(.ref a1), (.int (2 : Int32))])) _
    refine X477.arraylength hx (by rw [e477]; exact Ar485.1) (State.isArrayOf_alike hZ.alike Ar485.2.1) (g := (mkF m 9 #[.val (.ref a0), .val (.ref a1), .val (.int (2 : Int32))] [(.ref a1), (.int (2 : Int32))])) rfl rfl (hb hby d13_9) _ ?_
    rw [len_of S485 M485]
    show Steps p.tables e below (T477.setTop (mkF m 10 #[.val (.ref a0), .val (.ref a1), .val (.int (2 : Int32))] [(.int (2 : Int32)), (.int (2 : Int32))])) _
    refine XS.icmpYes X477.here hx rfl (pc0 := 10) (pc' := 60) rfl (hb hby d13_10) rfl (flt (by decide : ¬ ((2 : Int32) < (2 : Int32)))).2.1 (by decide) (by decide) ?_
    show Steps p.tables e below (T477.setTop (mkF m 60 #[.val (.ref a0), .val (.ref a1), .val (.int (2 : Int32))] [])) _
    refine XS.iconst X477.here hx rfl (hb hby d13_60) ?_
    show Steps p.tables e below (T477.setTop (mkF m 61 #[.val (.ref a0), .val (.ref a1), .val (.int (2 : Int32))] [(.int (0 : Int32))])) _
    refine XS.istoreN X477.here hx rfl (hb hby d13_61) rfl (l' := #[.val (.ref a0), .val (.ref a1), .val (.int (0 : Int32))]) rfl ?_
    show Steps p.tables e below (T477.setTop (mkF m 62 #[.val (.ref a0), .val (.ref a1), .val (.int (0 : Int32))] [])) _
    refine XS.iloadN X477.here hx rfl (hb hby d13_62) rfl ?_
    show Steps p.tables e below (T477.setTop (mkF m 63 #[.val (.ref a0), .val (.ref a1), .val (.int (0 : Int32))] [(.int (0 : Int32))])) _
    refine XS.aloadN X477.here hx rfl (hb hby d13_63) rfl rfl ?_
    show Steps p.tables e below (T477.setTop (mkF m 64 #[.val (.ref a0), .val (.ref a1), .val (.int (0 : Int32))] [(.ref a1), (.int (0 : Int32))])) _
    refine X477.arraylength hx (by rw [e477]; exact Ar486.1) (State.isArrayOf_alike hZ.alike Ar486.2.1) (g := (mkF m 64 #[.val (.ref a0), .val (.ref a1), .val (.int (0 : Int32))] [(.ref a1), (.int (0 : Int32))])) rfl rfl (hb hby d13_64) _ ?_
    rw [len_of S486 M486]
    show Steps p.tables e below (T477.setTop (mkF m 65 #[.val (.ref a0), .val (.ref a1), .val (.int (0 : Int32))] [(.int (2 : Int32)), (.int (0 : Int32))])) _
    refine XS.icmpNo X477.here hx rfl (hb hby d13_65) rfl (tlt (by decide : (0 : Int32) < (2 : Int32))).2.1 ?_
    show Steps p.tables e below (T477.setTop (mkF m 68 #[.val (.ref a0), .val (.ref a1), .val (.int (0 : Int32))] [])) _
    refine XS.aloadN X477.here hx rfl (hb hby d13_68) rfl rfl ?_
    show Steps p.tables e below (T477.setTop (mkF m 69 #[.val (.ref a0), .val (.ref a1), .val (.int (0 : Int32))] [(.ref a1)])) _
    refine XS.iloadN X477.here hx rfl (hb hby d13_69) rfl ?_
    show Steps p.tables e below (T477.setTop (mkF m 70 #[.val (.ref a0), .val (.ref a1), .val (.int (0 : Int32))] [(.int (0 : Int32)), (.ref a1)])) _
    refine X477.laload hx (j := (0 : Int32)) (v := (.long s0)) (by rw [e477]; exact Ar487.1) (State.isArrayOf_alike hZ.alike Ar487.2.1) Ar487.2.2 hin488 hat489 (g := (mkF m 70 #[.val (.ref a0), .val (.ref a1), .val (.int (0 : Int32))] [(.int (0 : Int32)), (.ref a1)])) rfl rfl (hb hby d13_70) _ ?_
    show Steps p.tables e below (T477.setTop (mkF m 71 #[.val (.ref a0), .val (.ref a1), .val (.int (0 : Int32))] [(.long s0)])) _
    refine XS.aloadN X477.here hx rfl (hb hby d13_71) rfl rfl ?_
    show Steps p.tables e below (T477.setTop (mkF m 72 #[.val (.ref a0), .val (.ref a1), .val (.int (0 : Int32))] [(.ref a0), (.long s0)])) _
    refine st490 _ ?_
    show Steps p.tables e below (T490.setTop (mkF m 75 #[.val (.ref a0), .val (.ref a1), .val (.int (0 : Int32))] [(.ref br), (.long s0)])) _
    refine XS.iloadN X490.here hx rfl (hb hby d13_75) rfl ?_
    show Steps p.tables e below (T490.setTop (mkF m 76 #[.val (.ref a0), .val (.ref a1), .val (.int (0 : Int32))] [(.int (0 : Int32)), (.ref br), (.long s0)])) _
    refine X490.laload hx (j := (0 : Int32)) (v := (.long r0)) (by rw [e490]; exact Ar491.1) (State.isArrayOf_alike hZ.alike Ar491.2.1) Ar491.2.2 hin492 hat493 (g := (mkF m 76 #[.val (.ref a0), .val (.ref a1), .val (.int (0 : Int32))] [(.int (0 : Int32)), (.ref br), (.long s0)])) rfl rfl (hb hby d13_76) _ ?_
    show Steps p.tables e below (T490.setTop (mkF m 77 #[.val (.ref a0), .val (.ref a1), .val (.int (0 : Int32))] [(.long r0), (.long s0)])) _
    refine XS.lcmp X490.here hx rfl (hb hby d13_77) rfl ?_
    exact k)
  obtain ⟨T559, h559, L559, X559, e559, N559, Z559, hk, K559, f559_0, f559_1, f559_2, f559_3, f559_4, f559_5, f559_6, f559_7, pre559⟩ : ∃ (T559 : State) (h559 : Heap) (L559 : List Loc), Stand p l e rr13_2 (s.setVm T433.vm) m #[(.ref a0), (.ref a1)] below meth c T559 L559 2 24 ∧ T559.heap = h559 ∧ Fr n0 L559 ∧ n0 ≤ h559.size ∧ T433.heap.size ≤ h559.size ∧ Keep h0 h559 [bw, br] ∧ Exa Z h559 a0 "com/example/stowline/stowline/VolumeBound" ∧ Fld Z h559 a0 "com/example/stowline/stowline/VolumeBound" "capacities" "[J" (.ref bc) ∧ Fld Z h559 a0 "com/example/stowline/stowline/VolumeBound" "wholeCapacities" "[J" (.ref bw) ∧ Fld Z h559 a0 "com/example/stowline/stowline/VolumeBound" "remainders" "[J" (.ref br) ∧ Arv Z h559 bc k_bc .long (2 : Int32) [(.long c0), (.long c1)] (.long (0 : Int64)) ∧ Arv Z h559 bw k_bw .long (2 : Int32) [(.long (j13_2_0 w0 r0 s0)), (.long w1)] (.long (0 : Int64)) ∧ Arv Z h559 br k_br .long (2 : Int32) [(.long (j13_2_1 c0 r0 s0)), (.long r1)] (.long (0 : Int64)) ∧ Arv Z h559 a1 k_a1 .long (2 : Int32) [(.long s0), (.long s1)] (.long (0 : Int64)) ∧ ∀ t, Steps p.tables e below (T559.setTop (mkF m 125 #[.val (.ref a0), .val (.ref a1), .val (.int (0 : Int32))] [])) t → Steps p.tables e below (s₁.setTop (entryFrame m #[(.ref a0), (.ref a1)] 3)) t := by
    by_cases hc560 : r0 < s0
    · skip
      obtain ⟨T561, X561, e561, st561⟩ := getF X490 hx hZ hown (host := "") (Or.inl (hw _ (List.mem_of_getElem? (i := 45) rfl))) Via.refl e490 f437 (g := (mkF m 82 #[.val (.ref a0), .val (.ref a1), .val (.int (0 : Int32))] [(.ref a0)])) rfl rfl (hb hby d13_82)
      obtain ⟨cl562, Ar562, q562, S562, M562, H562, G562⟩ := id f440
      have hin563 : ¬ ((0 : Int32) < 0 ∨ cl562.slots.size ≤ ((0 : Int32)).toNatClampNeg) := inb_of S562 ⟨by decide, by decide⟩
      have hat564 : cl562.slots[((0 : Int32)).toNatClampNeg]? = some (.long w0) := H562.at hin563 rfl
      obtain ⟨cl565, Ar565, q565, S565, M565, H565, G565⟩ := id f440
      have hin566 : ¬ ((0 : Int32) < 0 ∨ cl565.slots.size ≤ ((0 : Int32)).toNatClampNeg) := inb_of S565 ⟨by decide, by decide⟩
      obtain ⟨T567, h567, X567, e567, W567, st567⟩ := stJ X561 hx hZ e561 Ar565 (j := (0 : Int32)) hin566 (g := (mkF m 90 #[.val (.ref a0), .val (.ref a1), .val (.int (0 : Int32))] [(.long (w0 - (1 : Int64))), (.int (0 : Int32)), (.ref bw)])) rfl rfl (hb hby d13_90)
      have V567 : Arv Z h567 bw k_bw .long (2 : Int32) [(.long (w0 - (1 : Int64))), (.long w1)] (.long (0 : Int64)) := Arv.set Ar565 q565 S565 M565 H565 G565 rfl W567 0 rfl (Nat.le_of_ble_eq_true rfl)
      have f568 := f435.wr W567
      have f569 := f436.other W567 (Or.inl ne_a0_bw)
      have f570 := f437.other W567 (Or.inl ne_a0_bw)
      have f571 := f438.other W567 (Or.inl ne_a0_bw)
      have f572 := f439.other W567 ne_bc_bw
      have f574 := f441.other W567 (Ne.symm ne_bw_br)
      have f575 := f442.other W567 ne_a1_bw
      have K576 := K433.wr W567 (Or.inl (List.mem_of_getElem? (i := 0) rfl))
      have Z577 := Nat.le_trans Z433 (Keep.of_wr W567).1
      have hk := Nat.le_trans hk (Keep.of_wr W567).1
      have N578 := Fr.snoc X567 N477 g_bw
      obtain ⟨T579, X579, e579, st579⟩ := getF X567 hx hZ hown (host := "") (Or.inl (hw _ (List.mem_of_getElem? (i := 47) rfl))) Via.refl e567 f571 (g := (mkF m 92 #[.val (.ref a0), .val (.ref a1), .val (.int (0 : Int32))] [(.ref a0)])) rfl rfl (hb hby d13_92)
      obtain ⟨cl580, Ar580, q580, S580, M580, H580, G580⟩ := id f574
      have hin581 : ¬ ((0 : Int32) < 0 ∨ cl580.slots.size ≤ ((0 : Int32)).toNatClampNeg) := inb_of S580 ⟨by decide, by decide⟩
      have hat582 : cl580.slots[((0 : Int32)).toNatClampNeg]? = some (.long r0) := H580.at hin581 rfl
      obtain ⟨T583, X583, e583, st583⟩ := getF X579 hx hZ hown (host := "") (Or.inl (hw _ (List.mem_of_getElem? (i := 43) rfl))) Via.refl e579 f569 (g := (mkF m 99 #[.val (.ref a0), .val (.ref a1), .val (.int (0 : Int32))] [(.ref a0), (.long r0), (.int (0 : Int32)), (.ref br)])) rfl rfl (hb hby d13_99)
      obtain ⟨cl584, Ar584, q584, S584, M584, H584, G584⟩ := id f572
      have hin585 : ¬ ((0 : Int32) < 0 ∨ cl584.slots.size ≤ ((0 : Int32)).toNatClampNeg) := inb_of S584 ⟨by decide, by decide⟩
      have hat586 : cl584.slots[((0 : Int32)).toNatClampNeg]? = some (.long c0) := H584.at hin585 rfl
      obtain ⟨cl587, Ar587, q587, S587, M587, H587, G587⟩ := id f575
      have hin588 : ¬ ((0 : Int32) < 0 ∨ cl587.slots.size ≤ ((0 : Int32)).toNatClampNeg) := inb_of S587 ⟨by decide, by decide⟩
      have hat589 : cl587.slots[((0 : Int32)).toNatClampNeg]? = some (.long s0) := H587.at hin588 rfl
      obtain ⟨cl590, Ar590, q590, S590, M590, H590, G590⟩ := id f574
      have hin591 : ¬ ((0 : Int32) < 0 ∨ cl590.slots.size ≤ ((0 : Int32)).toNatClampNeg) := inb_of S590 ⟨by decide, by decide⟩
      obtain ⟨T592, h592, X592, e592, W592, st592⟩ := stJ X583 hx hZ e583 Ar590 (j := (0 : Int32)) hin591 (g := (mkF m 109 #[.val (.ref a0), .val (.ref a1), .val (.int (0 : Int32))] [(.long (r0 + (c0 - s0))), (.int (0 : Int32)), (.ref br)])) rfl rfl (hb hby d13_109)
      have V592 : Arv Z h592 br k_br .long (2 : Int32) [(.long (r0 + (c0 - s0))), (.long r1)] (.long (0 : Int64)) := Arv.set Ar590 q590 S590 M590 H590 G590 rfl W592 0 rfl (Nat.le_of_ble_eq_true rfl)
      have f593 := f568.wr W592
      have f594 := f569.other W592 (Or.inl ne_a0_br)
      have f595 := f570.other W592 (Or.inl ne_a0_br)
      have f596 := f571.other W592 (Or.inl ne_a0_br)
      have f597 := f572.other W592 ne_bc_br
      have f598 := V567.other W592 ne_bw_br
      have f600 := f575.other W592 ne_a1_br
      have K601 := K576.wr W592 (Or.inl (List.mem_of_getElem? (i := 1) rfl))
      have Z602 := Nat.le_trans Z577 (Keep.of_wr W592).1
      have hk := Nat.le_trans hk (Keep.of_wr W592).1
      have N603 := Fr.snoc X592 N578 g_br
      have pre604 := fun (t : State) (k : Steps p.tables e below (T592.setTop (mkF m 125 #[.val (.ref a0), .val (.ref a1), .val (.int (0 : Int32))] [])) t) => pre558 t (by
        show Steps p.tables e below (T490.setTop (mkF m 78 #[.val (.ref a0), .val (.ref a1), .val (.int (0 : Int32))] [(.int (lcmpW s0 r0))])) _
        refine XS.ifNo X490.here hx rfl (hb hby d13_78) rfl ((if0 _ _).trans (tlt ((own_gt s0 r0).mpr hc560)).2.2.2) ?_
        show Steps p.tables e below (T490.setTop (mkF m 81 #[.val (.ref a0), .val (.ref a1), .val (.int (0 : Int32))] [])) _
        refine XS.aloadN X490.here hx rfl (hb hby d13_81) rfl rfl ?_
        show Steps p.tables e below (T490.setTop (mkF m 82 #[.val (.ref a0), .val (.ref a1), .val (.int (0 : Int32))] [(.ref a0)])) _
        refine st561 _ ?_
        show Steps p.tables e below (T561.setTop (mkF m 85 #[.val (.ref a0), .val (.ref a1), .val (.int (0 : Int32))] [(.ref bw)])) _
        refine XS.iloadN X561.here hx rfl (hb hby d13_85) rfl ?_
        show Steps p.tables e below (T561.setTop (mkF m 86 #[.val (.ref a0), .val (.ref a1), .val (.int (0 : Int32))] [(.int (0 : Int32)), (.ref bw)])) _
        refine XT.dup2 X561.here hx rfl (hb hby d13_86) rfl rfl rfl ?_
        show Steps p.tables e below (T561.setTop (mkF m 87 #[.val (.ref a0), .val (.ref a1), .val (.int (0 : Int32))] [(.int (0 : Int32)), (.ref bw), (.int (0 : Int32)), (.ref bw)])) _
        refine X561.laload hx (j := (0 : Int32)) (v := (.long w0)) (by rw [e561]; exact Ar562.1) (State.isArrayOf_alike hZ.alike Ar562.2.1) Ar562.2.2 hin563 hat564 (g := (mkF m 87 #[.val (.ref a0), .val (.ref a1), .val (.int (0 : Int32))] [(.int (0 : Int32)), (.ref bw), (.int (0 : Int32)), (.ref bw)])) rfl rfl (hb hby d13_87) _ ?_
        show Steps p.tables e below (T561.setTop (mkF m 88 #[.val (.ref a0), .val (.ref a1), .val (.int (0 : Int32))] [(.long w0), (.int (0 : Int32)), (.ref bw)])) _
        refine XS.lconst X561.here hx rfl (hb hby d13_88) ?_
        show Steps p.tables e below (T561.setTop (mkF m 89 #[.val (.ref a0), .val (.ref a1), .val (.int (0 : Int32))] [(.long (1 : Int64)), (.long w0), (.int (0 : Int32)), (.ref bw)])) _
        refine XS.lsub X561.here hx rfl (hb hby d13_89) rfl ?_
        show Steps p.tables e below (T561.setTop (mkF m 90 #[.val (.ref a0), .val (.ref a1), .val (.int (0 : Int32))] [(.long (w0 - (1 : Int64))), (.int (0 : Int32)), (.ref bw)])) _
        refine st567 _ ?_
        show Steps p.tables e below (T567.setTop (mkF m 91 #[.val (.ref a0), .val (.ref a1), .val (.int (0 : Int32))] [])) _
        refine XS.aloadN X567.here hx rfl (hb hby d13_91) rfl rfl ?_
        show Steps p.tables e below (T567.setTop (mkF m 92 #[.val (.ref a0), .val (.ref a1), .val (.int (0 : Int32))] [(.ref a0)])) _
        refine st579 _ ?_
        show Steps p.tables e below (T579.setTop (mkF m 95 #[.val (.ref a0), .val (.ref a1), .val (.int (0 : Int32))] [(.ref br)])) _
        refine XS.iloadN X579.here hx rfl (hb hby d13_95) rfl ?_
        show Steps p.tables e below (T579.setTop (mkF m 96 #[.val (.ref a0), .val (.ref a1), .val (.int (0 : Int32))] [(.int (0 : Int32)), (.ref br)])) _
        refine XT.dup2 X579.here hx rfl (hb hby d13_96) rfl rfl rfl ?_
        show Steps p.tables e below (T579.setTop (mkF m 97 #[.val (.ref a0), .val (.ref a1), .val (.int (0 : Int32))] [(.int (0 : Int32)), (.ref br), (.int (0 : Int32)), (.ref br)])) _
        refine X579.laload hx (j := (0 : Int32)) (v := (.long r0)) (by rw [e579]; exact Ar580.1) (State.isArrayOf_alike hZ.alike Ar580.2.1) Ar580.2.2 hin581 hat582 (g := (mkF m 97 #[.val (.ref a0), .val (.ref a1), .val (.int (0 : Int32))] [(.int (0 : Int32)), (.ref br), (.int (0 : Int32)), (.ref br)])) rfl rfl (hb hby d13_97) _ ?_
        show Steps p.tables e below (T579.setTop (mkF m 98 #[.val (.ref a0), .val (.ref a1), .val (.int (0 : Int32))] [(.long r0), (.int (0 : Int32)), (.ref br)])) _
        refine XS.aloadN X579.here hx rfl (hb hby d13_98) rfl rfl ?_
        show Steps p.tables e below (T579.setTop (mkF m 99 #[.val (.ref a0), .val (.ref a1), .val (.int (0 : Int32))] [(.ref a0), (.long r0), (.int (0 : Int32)), (.ref br)])) _
        refine st583 _ ?_
        show Steps p.tables e below (T583.setTop (mkF m 102 #[.val (.ref a0), .val (.ref a1), .val (.int (0 : Int32))] [(.ref bc), (.long r0), (.int (0 : Int32)), (.ref br)])) _
        refine XS.iloadN X583.here hx rfl (hb hby d13_102) rfl ?_
        show Steps p.tables e below (T583.setTop (mkF m 103 #[.val (.ref a0), .val (.ref a1), .val (.int (0 : Int32))] [(.int (0 : Int32)), (.ref bc), (.long r0), (.int (0 : Int32)), (.ref br)])) _
        refine X583.laload hx (j := (0 : Int32)) (v := (.long c0)) (by rw [e583]; exact Ar584.1) (State.isArrayOf_alike hZ.alike Ar584.2.1) Ar584.2.2 hin585 hat586 (g := (mkF m 103 #[.val (.ref a0), .val (.ref a1), .val (.int (0 : Int32))] [(.int (0 : Int32)), (.ref bc), (.long r0), (.int (0 : Int32)), (.ref br)])) rfl rfl (hb hby d13_103) _ ?_
        show Steps p.tables e below (T583.setTop (mkF m 104 #[.val (.ref a0), .val (.ref a1), .val (.int (0 : Int32))] [(.long c0), (.long r0), (.int (0 : Int32)), (.ref br)])) _
        refine XS.aloadN X583.here hx rfl (hb hby d13_104) rfl rfl ?_
        show Steps p.tables e below (T583.setTop (mkF m 105 #[.val (.ref a0), .val (.ref a1), .val (.int (0 : Int32))] [(.ref a1), (.long c0), (.long r0), (.int (0 : Int32)), (.ref br)])) _
        refine XS.iloadN X583.here hx rfl (hb hby d13_105) rfl ?_
        show Steps p.tables e below (T583.setTop (mkF m 106 #[.val (.ref a0), .val (.ref a1), .val (.int (0 : Int32))] [(.int (0 : Int32)), (.ref a1), (.long c0), (.long r0), (.int (0 : Int32)), (.ref br)])) _
        refine X583.laload hx (j := (0 : Int32)) (v := (.long s0)) (by rw [e583]; exact Ar587.1) (State.isArrayOf_alike hZ.alike Ar587.2.1) Ar587.2.2 hin588 hat589 (g := (mkF m 106 #[.val (.ref a0), .val (.ref a1), .val (.int (0 : Int32))] [(.int (0 : Int32)), (.ref a1), (.long c0), (.long r0), (.int (0 : Int32)), (.ref br)])) rfl rfl (hb hby d13_106) _ ?_
        show Steps p.tables e below (T583.setTop (mkF m 107 #[.val (.ref a0), .val (.ref a1), .val (.int (0 : Int32))] [(.long s0), (.long c0), (.long r0), (.int (0 : Int32)), (.ref br)])) _
        refine XS.lsub X583.here hx rfl (hb hby d13_107) rfl ?_
        show Steps p.tables e below (T583.setTop (mkF m 108 #[.val (.ref a0), .val (.ref a1), .val (.int (0 : Int32))] [(.long (c0 - s0)), (.long r0), (.int (0 : Int32)), (.ref br)])) _
        refine XS.ladd X583.here hx rfl (hb hby d13_108) rfl ?_
        show Steps p.tables e below (T583.setTop (mkF m 109 #[.val (.ref a0), .val (.ref a1), .val (.int (0 : Int32))] [(.long (r0 + (c0 - s0))), (.int (0 : Int32)), (.ref br)])) _
        refine st592 _ ?_
        show Steps p.tables e below (T592.setTop (mkF m 110 #[.val (.ref a0), .val (.ref a1), .val (.int (0 : Int32))] [])) _
        refine XS.goto X592.here hx rfl (pc0 := 110) (pc' := 125) rfl (hb hby d13_110) (by decide) (by decide) ?_
        exact k)
      have hj605 : (j13_2_0 w0 r0 s0) = (w0 - (1 : Int64)) := by unfold j13_2_0; first | (rw [if_pos hc560]) | (simp only [if_pos hc560])
      have hj606 : (j13_2_1 c0 r0 s0) = (r0 + (c0 - s0)) := by unfold j13_2_1; first | (rw [if_pos hc560]) | (simp only [if_pos hc560])
      exact ⟨T592, h592, _, X592, e592, N603, Z602, hk, K601, f593, f594, f595, f596, f597, (by rw [hj605]; exact f598), (by rw [hj606]; exact V592), f600, fun t k => pre604 t (by exact k)⟩
    · skip
      obtain ⟨T607, X607, e607, st607⟩ := getF X490 hx hZ hown (host := "") (Or.inl (hw _ (List.mem_of_getElem? (i := 47) rfl))) Via.refl e490 f438 (g := (mkF m 114 #[.val (.ref a0), .val (.ref a1), .val (.int (0 : Int32))] [(.ref a0)])) rfl rfl (hb hby d13_114)
      obtain ⟨cl608, Ar608, q608, S608, M608, H608, G608⟩ := id f441
      have hin609 : ¬ ((0 : Int32) < 0 ∨ cl608.slots.size ≤ ((0 : Int32)).toNatClampNeg) := inb_of S608 ⟨by decide, by decide⟩
      have hat610 : cl608.slots[((0 : Int32)).toNatClampNeg]? = some (.long r0) := H608.at hin609 rfl
      obtain ⟨cl611, Ar611, q611, S611, M611, H611, G611⟩ := id f442
      have hin612 : ¬ ((0 : Int32) < 0 ∨ cl611.slots.size ≤ ((0 : Int32)).toNatClampNeg) := inb_of S611 ⟨by decide, by decide⟩
      have hat613 : cl611.slots[((0 : Int32)).toNatClampNeg]? = some (.long s0) := H611.at hin612 rfl
      obtain ⟨cl614, Ar614, q614, S614, M614, H614, G614⟩ := id f441
      have hin615 : ¬ ((0 : Int32) < 0 ∨ cl614.slots.size ≤ ((0 : Int32)).toNatClampNeg) := inb_of S614 ⟨by decide, by decide⟩
      obtain ⟨T616, h616, X616, e616, W616, st616⟩ := stJ X607 hx hZ e607 Ar614 (j := (0 : Int32)) hin615 (g := (mkF m 124 #[.val (.ref a0), .val (.ref a1), .val (.int (0 : Int32))] [(.long (r0 - s0)), (.int (0 : Int32)), (.ref br)])) rfl rfl (hb hby d13_124)
      have V616 : Arv Z h616 br k_br .long (2 : Int32) [(.long (r0 - s0)), (.long r1)] (.long (0 : Int64)) := Arv.set Ar614 q614 S614 M614 H614 G614 rfl W616 0 rfl (Nat.le_of_ble_eq_true rfl)
      have f617 := f435.wr W616
      have f618 := f436.other W616 (Or.inl ne_a0_br)
      have f619 := f437.other W616 (Or.inl ne_a0_br)
      have f620 := f438.other W616 (Or.inl ne_a0_br)
      have f621 := f439.other W616 ne_bc_br
      have f622 := f440.other W616 ne_bw_br
      have f624 := f442.other W616 ne_a1_br
      have K625 := K433.wr W616 (Or.inl (List.mem_of_getElem? (i := 1) rfl))
      have Z626 := Nat.le_trans Z433 (Keep.of_wr W616).1
      have hk := Nat.le_trans hk (Keep.of_wr W616).1
      have N627 := Fr.snoc X616 N477 g_br
      have pre628 := fun (t : State) (k : Steps p.tables e below (T616.setTop (mkF m 125 #[.val (.ref a0), .val (.ref a1), .val (.int (0 : Int32))] [])) t) => pre558 t (by
        show Steps p.tables e below (T490.setTop (mkF m 78 #[.val (.ref a0), .val (.ref a1), .val (.int (0 : Int32))] [(.int (lcmpW s0 r0))])) _
        refine XS.ifYes X490.here hx rfl (pc0 := 78) (pc' := 113) rfl (hb hby d13_78) rfl ((if0 _ _).trans (flt (mt (own_gt s0 r0).mp hc560)).2.2.2) (by decide) (by decide) ?_
        show Steps p.tables e below (T490.setTop (mkF m 113 #[.val (.ref a0), .val (.ref a1), .val (.int (0 : Int32))] [])) _
        refine XS.aloadN X490.here hx rfl (hb hby d13_113) rfl rfl ?_
        show Steps p.tables e below (T490.setTop (mkF m 114 #[.val (.ref a0), .val (.ref a1), .val (.int (0 : Int32))] [(.ref a0)])) _
        refine st607 _ ?_
        show Steps p.tables e below (T607.setTop (mkF m 117 #[.val (.ref a0), .val (.ref a1), .val (.int (0 : Int32))] [(.ref br)])) _
        refine XS.iloadN X607.here hx rfl (hb hby d13_117) rfl ?_
        show Steps p.tables e below (T607.setTop (mkF m 118 #[.val (.ref a0), .val (.ref a1), .val (.int (0 : Int32))] [(.int (0 : Int32)), (.ref br)])) _
        refine XT.dup2 X607.here hx rfl (hb hby d13_118) rfl rfl rfl ?_
        show Steps p.tables e below (T607.setTop (mkF m 119 #[.val (.ref a0), .val (.ref a1), .val (.int (0 : Int32))] [(.int (0 : Int32)), (.ref br), (.int (0 : Int32)), (.ref br)])) _
        refine X607.laload hx (j := (0 : Int32)) (v := (.long r0)) (by rw [e607]; exact Ar608.1) (State.isArrayOf_alike hZ.alike Ar608.2.1) Ar608.2.2 hin609 hat610 (g := (mkF m 119 #[.val (.ref a0), .val (.ref a1), .val (.int (0 : Int32))] [(.int (0 : Int32)), (.ref br), (.int (0 : Int32)), (.ref br)])) rfl rfl (hb hby d13_119) _ ?_
        show Steps p.tables e below (T607.setTop (mkF m 120 #[.val (.ref a0), .val (.ref a1), .val (.int (0 : Int32))] [(.long r0), (.int (0 : Int32)), (.ref br)])) _
        refine XS.aloadN X607.here hx rfl (hb hby d13_120) rfl rfl ?_
        show Steps p.tables e below (T607.setTop (mkF m 121 #[.val (.ref a0), .val (.ref a1), .val (.int (0 : Int32))] [(.ref a1), (.long r0), (.int (0 : Int32)), (.ref br)])) _
        refine XS.iloadN X607.here hx rfl (hb hby d13_121) rfl ?_
        show Steps p.tables e below (T607.setTop (mkF m 122 #[.val (.ref a0), .val (.ref a1), .val (.int (0 : Int32))] [(.int (0 : Int32)), (.ref a1), (.long r0), (.int (0 : Int32)), (.ref br)])) _
        refine X607.laload hx (j := (0 : Int32)) (v := (.long s0)) (by rw [e607]; exact Ar611.1) (State.isArrayOf_alike hZ.alike Ar611.2.1) Ar611.2.2 hin612 hat613 (g := (mkF m 122 #[.val (.ref a0), .val (.ref a1), .val (.int (0 : Int32))] [(.int (0 : Int32)), (.ref a1), (.long r0), (.int (0 : Int32)), (.ref br)])) rfl rfl (hb hby d13_122) _ ?_
        show Steps p.tables e below (T607.setTop (mkF m 123 #[.val (.ref a0), .val (.ref a1), .val (.int (0 : Int32))] [(.long s0), (.long r0), (.int (0 : Int32)), (.ref br)])) _
        refine XS.lsub X607.here hx rfl (hb hby d13_123) rfl ?_
        show Steps p.tables e below (T607.setTop (mkF m 124 #[.val (.ref a0), .val (.ref a1), .val (.int (0 : Int32))] [(.long (r0 - s0)), (.int (0 : Int32)), (.ref br)])) _
        refine st616 _ ?_
        exact k)
      have hj629 : (j13_2_0 w0 r0 s0) = w0 := by unfold j13_2_0; first | (rw [if_neg hc560]) | (simp only [if_neg hc560])
      have hj630 : (j13_2_1 c0 r0 s0) = (r0 - s0) := by unfold j13_2_1; first | (rw [if_neg hc560]) | (simp only [if_neg hc560])
      exact ⟨T616, h616, _, X616, e616, N627, Z626, hk, K625, f617, f618, f619, f620, f621, (by rw [hj629]; exact f622), (by rw [hj630]; exact V616), f624, fun t k => pre628 t (by exact k)⟩
  obtain ⟨cl631, Ar631, q631, S631, M631, H631, G631⟩ := id f559_7
  obtain ⟨cl632, Ar632, q632, S632, M632, H632, G632⟩ := id f559_7
  have hin633 : ¬ ((1 : Int32) < 0 ∨ cl632.slots.size ≤ ((1 : Int32)).toNatClampNeg) := inb_of S632 ⟨by decide, by decide⟩
  have hat634 : cl632.slots[((1 : Int32)).toNatClampNeg]? = some (.long s1) := H632.at hin633 rfl
  obtain ⟨T635, X635, e635, st635⟩ := getF X559 hx hZ hown (host := "") (Or.inl (hw _ (List.mem_of_getElem? (i := 47) rfl))) Via.refl e559 f559_3 (g := (mkF m 72 #[.val (.ref a0), .val (.ref a1), .val (.int (1 : Int32))] [(.ref a0), (.long s1)])) rfl rfl (hb hby d13_72)
  obtain ⟨cl636, Ar636, q636, S636, M636, H636, G636⟩ := id f559_6
  have hin637 : ¬ ((1 : Int32) < 0 ∨ cl636.slots.size ≤ ((1 : Int32)).toNatClampNeg) := inb_of S636 ⟨by decide, by decide⟩
  have hat638 : cl636.slots[((1 : Int32)).toNatClampNeg]? = some (.long r1) := H636.at hin637 rfl
  have pre703 := fun (t : State) (k : Steps p.tables e below (T635.setTop (mkF m 78 #[.val (.ref a0), .val (.ref a1), .val (.int (1 : Int32))] [(.int (lcmpW s1 r1))])) t) => pre559 t (by
    show Steps p.tables e below (T559.setTop (mkF m 125 #[.val (.ref a0), .val (.ref a1), .val (.int (0 : Int32))] [])) _
    refine XS.iinc X559.here hx rfl (hb hby d13_125) rfl (l' := #[.val (.ref a0), .val (.ref a1), .val (.int (1 : Int32))]) rfl ?_
    show Steps p.tables e below (T559.setTop (mkF m 128 #[.val (.ref a0), .val (.ref a1), .val (.int (1 : Int32))] [])) _
    refine XS.goto X559.here hx rfl (pc0 := 128) (pc' := 62) rfl (hb hby d13_128) (by decide) (by decide) ?_
    show Steps p.tables e below (T559.setTop (mkF m 62 #[.val (.ref a0), .val (.ref a1), .val (.int (1 : Int32))] [])) _
    refine XS.iloadN X559.here hx rfl (hb hby d13_62) rfl ?_
    show Steps p.tables e below (T559.setTop (mkF m 63 #[.val (.ref a0), .val (.ref a1), .val (.int (1 : Int32))] [(.int (1 : Int32))])) _
    refine XS.aloadN X559.here hx rfl (hb hby d13_63) rfl rfl ?_
    show Steps p.tables e below (T559.setTop (mkF m 64 #[.val (.ref a0), .val (.ref a1), .val (.int (1 : Int32))] [(.ref a1), (.int (1 : Int32))])) _
    refine X559.arraylength hx (by rw [e559]; exact Ar631.1) (State.isArrayOf_alike hZ.alike Ar631.2.1) (g := (mkF m 64 #[.val (.ref a0), .val (.ref a1), .val (.int (1 : Int32))] [(.ref a1), (.int (1 : Int32))])) rfl rfl (hb hby d13_64) _ ?_
    rw [len_of S631 M631]
    show Steps p.tables e below (T559.setTop (mkF m 65 #[.val (.ref a0), .val (.ref a1), .val (.int (1 : Int32))] [(.int (2 : Int32)), (.int (1 : Int32))])) _
    refine XS.icmpNo X559.here hx rfl (hb hby d13_65) rfl (tlt (by decide : (1 : Int32) < (2 : Int32))).2.1 ?_
    show Steps p.tables e below (T559.setTop (mkF m 68 #[.val (.ref a0), .val (.ref a1), .val (.int (1 : Int32))] [])) _
    refine XS.aloadN X559.here hx rfl (hb hby d13_68) rfl rfl ?_
    show Steps p.tables e below (T559.setTop (mkF m 69 #[.val (.ref a0), .val (.ref a1), .val (.int (1 : Int32))] [(.ref a1)])) _
    refine XS.iloadN X559.here hx rfl (hb hby d13_69) rfl ?_
    show Steps p.tables e below (T559.setTop (mkF m 70 #[.val (.ref a0), .val (.ref a1), .val (.int (1 : Int32))] [(.int (1 : Int32)), (.ref a1)])) _
    refine X559.laload hx (j := (1 : Int32)) (v := (.long s1)) (by rw [e559]; exact Ar632.1) (State.isArrayOf_alike hZ.alike Ar632.2.1) Ar632.2.2 hin633 hat634 (g := (mkF m 70 #[.val (.ref a0), .val (.ref a1), .val (.int (1 : Int32))] [(.int (1 : Int32)), (.ref a1)])) rfl rfl (hb hby d13_70) _ ?_
    show Steps p.tables e below (T559.setTop (mkF m 71 #[.val (.ref a0), .val (.ref a1), .val (.int (1 : Int32))] [(.long s1)])) _
    refine XS.aloadN X559.here hx rfl (hb hby d13_71) rfl rfl ?_
    show Steps p.tables e below (T559.setTop (mkF m 72 #[.val (.ref a0), .val (.ref a1), .val (.int (1 : Int32))] [(.ref a0), (.long s1)])) _
    refine st635 _ ?_
    show Steps p.tables e below (T635.setTop (mkF m 75 #[.val (.ref a0), .val (.ref a1), .val (.int (1 : Int32))] [(.ref br), (.long s1)])) _
    refine XS.iloadN X635.here hx rfl (hb hby d13_75) rfl ?_
    show Steps p.tables e below (T635.setTop (mkF m 76 #[.val (.ref a0), .val (.ref a1), .val (.int (1 : Int32))] [(.int (1 : Int32)), (.ref br), (.long s1)])) _
    refine X635.laload hx (j := (1 : Int32)) (v := (.long r1)) (by rw [e635]; exact Ar636.1) (State.isArrayOf_alike hZ.alike Ar636.2.1) Ar636.2.2 hin637 hat638 (g := (mkF m 76 #[.val (.ref a0), .val (.ref a1), .val (.int (1 : Int32))] [(.int (1 : Int32)), (.ref br), (.long s1)])) rfl rfl (hb hby d13_76) _ ?_
    show Steps p.tables e below (T635.setTop (mkF m 77 #[.val (.ref a0), .val (.ref a1), .val (.int (1 : Int32))] [(.long r1), (.long s1)])) _
    refine XS.lcmp X635.here hx rfl (hb hby d13_77) rfl ?_
    exact k)
  obtain ⟨T704, h704, L704, X704, e704, N704, Z704, hk, K704, f704_0, f704_1, f704_2, f704_3, f704_4, f704_5, f704_6, f704_7, pre704⟩ : ∃ (T704 : State) (h704 : Heap) (L704 : List Loc), Stand p l e rr13_2 (s.setVm T433.vm) m #[(.ref a0), (.ref a1)] below meth c T704 L704 2 24 ∧ T704.heap = h704 ∧ Fr n0 L704 ∧ n0 ≤ h704.size ∧ T433.heap.size ≤ h704.size ∧ Keep h0 h704 [bw, br] ∧ Exa Z h704 a0 "com/example/stowline/stowline/VolumeBound" ∧ Fld Z h704 a0 "com/example/stowline/stowline/VolumeBound" "capacities" "[J" (.ref bc) ∧ Fld Z h704 a0 "com/example/stowline/stowline/VolumeBound" "wholeCapacities" "[J" (.ref bw) ∧ Fld Z h704 a0 "com/example/stowline/stowline/VolumeBound" "remainders" "[J" (.ref br) ∧ Arv Z h704 bc k_bc .long (2 : Int32) [(.long c0), (.long c1)] (.long (0 : Int64)) ∧ Arv Z h704 bw k_bw .long (2 : Int32) [(.long (j13_2_0 w0 r0 s0)), (.long (j13_2_2 w1 r1 s1))] (.long (0 : Int64)) ∧ Arv Z h704 br k_br .long (2 : Int32) [(.long (j13_2_1 c0 r0 s0)), (.long (j13_2_3 c1 r1 s1))] (.long (0 : Int64)) ∧ Arv Z h704 a1 k_a1 .long (2 : Int32) [(.long s0), (.long s1)] (.long (0 : Int64)) ∧ ∀ t, Steps p.tables e below (T704.setTop (mkF m 125 #[.val (.ref a0), .val (.ref a1), .val (.int (1 : Int32))] [])) t → Steps p.tables e below (s₁.setTop (entryFrame m #[(.ref a0), (.ref a1)] 3)) t := by
    by_cases hc705 : r1 < s1
    · skip
      obtain ⟨T706, X706, e706, st706⟩ := getF X635 hx hZ hown (host := "") (Or.inl (hw _ (List.mem_of_getElem? (i := 45) rfl))) Via.refl e635 f559_2 (g := (mkF m 82 #[.val (.ref a0), .val (.ref a1), .val (.int (1 : Int32))] [(.ref a0)])) rfl rfl (hb hby d13_82)
      obtain ⟨cl707, Ar707, q707, S707, M707, H707, G707⟩ := id f559_5
      have hin708 : ¬ ((1 : Int32) < 0 ∨ cl707.slots.size ≤ ((1 : Int32)).toNatClampNeg) := inb_of S707 ⟨by decide, by decide⟩
      have hat709 : cl707.slots[((1 : Int32)).toNatClampNeg]? = some (.long w1) := H707.at hin708 rfl
      obtain ⟨cl710, Ar710, q710, S710, M710, H710, G710⟩ := id f559_5
      have hin711 : ¬ ((1 : Int32) < 0 ∨ cl710.slots.size ≤ ((1 : Int32)).toNatClampNeg) := inb_of S710 ⟨by decide, by decide⟩
      obtain ⟨T712, h712, X712, e712, W712, st712⟩ := stJ X706 hx hZ e706 Ar710 (j := (1 : Int32)) hin711 (g := (mkF m 90 #[.val (.ref a0), .val (.ref a1), .val (.int (1 : Int32))] [(.long (w1 - (1 : Int64))), (.int (1 : Int32)), (.ref bw)])) rfl rfl (hb hby d13_90)
      have V712 : Arv Z h712 bw k_bw .long (2 : Int32) [(.long (j13_2_0 w0 r0 s0)), (.long (w1 - (1 : Int64)))] (.long (0 : Int64)) := Arv.set Ar710 q710 S710 M710 H710 G710 rfl W712 1 rfl (Nat.le_of_ble_eq_true rfl)
      have f713 := f559_0.wr W712
      have f714 := f559_1.other W712 (Or.inl ne_a0_bw)
      have f715 := f559_2.other W712 (Or.inl ne_a0_bw)
      have f716 := f559_3.other W712 (Or.inl ne_a0_bw)
      have f717 := f559_4.other W712 ne_bc_bw
      have f719 := f559_6.other W712 (Ne.symm ne_bw_br)
      have f720 := f559_7.other W712 ne_a1_bw
      have K721 := K559.wr W712 (Or.inl (List.mem_of_getElem? (i := 0) rfl))
      have Z722 := Nat.le_trans Z559 (Keep.of_wr W712).1
      have hk := Nat.le_trans hk (Keep.of_wr W712).1
      have N723 := Fr.snoc X712 N559 g_bw
      obtain ⟨T724, X724, e724, st724⟩ := getF X712 hx hZ hown (host := "") (Or.inl (hw _ (List.mem_of_getElem? (i := 47) rfl))) Via.refl e712 f716 (g := (mkF m 92 #[.val (.ref a0), .val (.ref a1), .val (.int (1 : Int32))] [(.ref a0)])) rfl rfl (hb hby d13_92)
      obtain ⟨cl725, Ar725, q725, S725, M725, H725, G725⟩ := id f719
      have hin726 : ¬ ((1 : Int32) < 0 ∨ cl725.slots.size ≤ ((1 : Int32)).toNatClampNeg) := inb_of S725 ⟨by decide, by decide⟩
      have hat727 : cl725.slots[((1 : Int32)).toNatClampNeg]? = some (.long r1) := H725.at hin726 rfl
      obtain ⟨T728, X728, e728, st728⟩ := getF X724 hx hZ hown (host := "") (Or.inl (hw _ (List.mem_of_getElem? (i := 43) rfl))) Via.refl e724 f714 (g := (mkF m 99 #[.val (.ref a0), .val (.ref a1), .val (.int (1 : Int32))] [(.ref a0), (.long r1), (.int (1 : Int32)), (.ref br)])) rfl rfl (hb hby d13_99)
      obtain ⟨cl729, Ar729, q729, S729, M729, H729, G729⟩ := id f717
      have hin730 : ¬ ((1 : Int32) < 0 ∨ cl729.slots.size ≤ ((1 : Int32)).toNatClampNeg) := inb_of S729 ⟨by decide, by decide⟩
      have hat731 : cl729.slots[((1 : Int32)).toNatClampNeg]? = some (.long c1) := H729.at hin730 rfl
      obtain ⟨cl732, Ar732, q732, S732, M732, H732, G732⟩ := id f720
      have hin733 : ¬ ((1 : Int32) < 0 ∨ cl732.slots.size ≤ ((1 : Int32)).toNatClampNeg) := inb_of S732 ⟨by decide, by decide⟩
      have hat734 : cl732.slots[((1 : Int32)).toNatClampNeg]? = some (.long s1) := H732.at hin733 rfl
      obtain ⟨cl735, Ar735, q735, S735, M735, H735, G735⟩ := id f719
      have hin736 : ¬ ((1 : Int32) < 0 ∨ cl735.slots.size ≤ ((1 : Int32)).toNatClampNeg) := inb_of S735 ⟨by decide, by decide⟩
      obtain ⟨T737, h737, X737, e737, W737, st737⟩ := stJ X728 hx hZ e728 Ar735 (j := (1 : Int32)) hin736 (g := (mkF m 109 #[.val (.ref a0), .val (.ref a1), .val (.int (1 : Int32))] [(.long (r1 + (c1 - s1))), (.int (1 : Int32)), (.ref br)])) rfl rfl (hb hby d13_109)
      have V737 : Arv Z h737 br k_br .long (2 : Int32) [(.long (j13_2_1 c0 r0 s0)), (.long (r1 + (c1 - s1)))] (.long (0 : Int64)) := Arv.set Ar735 q735 S735 M735 H735 G735 rfl W737 1 rfl (Nat.le_of_ble_eq_true rfl)
      have f738 := f713.wr W737
      have f739 := f714.other W737 (Or.inl ne_a0_br)
      have f740 := f715.other W737 (Or.inl ne_a0_br)
      have f741 := f716.other W737 (Or.inl ne_a0_br)
      have f742 := f717.other W737 ne_bc_br
      have f743 := V712.other W737 ne_bw_br
      have f745 := f720.other W737 ne_a1_br
      have K746 := K721.wr W737 (Or.inl (List.mem_of_getElem? (i := 1) rfl))
      have Z747 := Nat.le_trans Z722 (Keep.of_wr W737).1
      have hk := Nat.le_trans hk (Keep.of_wr W737).1
      have N748 := Fr.snoc X737 N723 g_br
      have pre749 := fun (t : State) (k : Steps p.tables e below (T737.setTop (mkF m 125 #[.val (.ref a0), .val (.ref a1), .val (.int (1 : Int32))] [])) t) => pre703 t (by
        show Steps p.tables e below (T635.setTop (mkF m 78 #[.val (.ref a0), .val (.ref a1), .val (.int (1 : Int32))] [(.int (lcmpW s1 r1))])) _
        refine XS.ifNo X635.here hx rfl (hb hby d13_78) rfl ((if0 _ _).trans (tlt ((own_gt s1 r1).mpr hc705)).2.2.2) ?_
        show Steps p.tables e below (T635.setTop (mkF m 81 #[.val (.ref a0), .val (.ref a1), .val (.int (1 : Int32))] [])) _
        refine XS.aloadN X635.here hx rfl (hb hby d13_81) rfl rfl ?_
        show Steps p.tables e below (T635.setTop (mkF m 82 #[.val (.ref a0), .val (.ref a1), .val (.int (1 : Int32))] [(.ref a0)])) _
        refine st706 _ ?_
        show Steps p.tables e below (T706.setTop (mkF m 85 #[.val (.ref a0), .val (.ref a1), .val (.int (1 : Int32))] [(.ref bw)])) _
        refine XS.iloadN X706.here hx rfl (hb hby d13_85) rfl ?_
        show Steps p.tables e below (T706.setTop (mkF m 86 #[.val (.ref a0), .val (.ref a1), .val (.int (1 : Int32))] [(.int (1 : Int32)), (.ref bw)])) _
        refine XT.dup2 X706.here hx rfl (hb hby d13_86) rfl rfl rfl ?_
        show Steps p.tables e below (T706.setTop (mkF m 87 #[.val (.ref a0), .val (.ref a1), .val (.int (1 : Int32))] [(.int (1 : Int32)), (.ref bw), (.int (1 : Int32)), (.ref bw)])) _
        refine X706.laload hx (j := (1 : Int32)) (v := (.long w1)) (by rw [e706]; exact Ar707.1) (State.isArrayOf_alike hZ.alike Ar707.2.1) Ar707.2.2 hin708 hat709 (g := (mkF m 87 #[.val (.ref a0), .val (.ref a1), .val (.int (1 : Int32))] [(.int (1 : Int32)), (.ref bw), (.int (1 : Int32)), (.ref bw)])) rfl rfl (hb hby d13_87) _ ?_
        show Steps p.tables e below (T706.setTop (mkF m 88 #[.val (.ref a0), .val (.ref a1), .val (.int (1 : Int32))] [(.long w1), (.int (1 : Int32)), (.ref bw)])) _
        refine XS.lconst X706.here hx rfl (hb hby d13_88) ?_
        show Steps p.tables e below (T706.setTop (mkF m 89 #[.val (.ref a0), .val (.ref a1), .val (.int (1 : Int32))] [(.long (1 : Int64)), (.long w1), (.int (1 : Int32)), (.ref bw)])) _
        refine XS.lsub X706.here hx rfl (hb hby d13_89) rfl ?_
        show Steps p.tables e below (T706.setTop (mkF m 90 #[.val (.ref a0), .val (.ref a1), .val (.int (1 : Int32))] [(.long (w1 - (1 : Int64))), (.int (1 : Int32)), (.ref bw)])) _
        refine st712 _ ?_
        show Steps p.tables e below (T712.setTop (mkF m 91 #[.val (.ref a0), .val (.ref a1), .val (.int (1 : Int32))] [])) _
        refine XS.aloadN X712.here hx rfl (hb hby d13_91) rfl rfl ?_
        show Steps p.tables e below (T712.setTop (mkF m 92 #[.val (.ref a0), .val (.ref a1), .val (.int (1 : Int32))] [(.ref a0)])) _
        refine st724 _ ?_
        show Steps p.tables e below (T724.setTop (mkF m 95 #[.val (.ref a0), .val (.ref a1), .val (.int (1 : Int32))] [(.ref br)])) _
        refine XS.iloadN X724.here hx rfl (hb hby d13_95) rfl ?_
        show Steps p.tables e below (T724.setTop (mkF m 96 #[.val (.ref a0), .val (.ref a1), .val (.int (1 : Int32))] [(.int (1 : Int32)), (.ref br)])) _
        refine XT.dup2 X724.here hx rfl (hb hby d13_96) rfl rfl rfl ?_
        show Steps p.tables e below (T724.setTop (mkF m 97 #[.val (.ref a0), .val (.ref a1), .val (.int (1 : Int32))] [(.int (1 : Int32)), (.ref br), (.int (1 : Int32)), (.ref br)])) _
        refine X724.laload hx (j := (1 : Int32)) (v := (.long r1)) (by rw [e724]; exact Ar725.1) (State.isArrayOf_alike hZ.alike Ar725.2.1) Ar725.2.2 hin726 hat727 (g := (mkF m 97 #[.val (.ref a0), .val (.ref a1), .val (.int (1 : Int32))] [(.int (1 : Int32)), (.ref br), (.int (1 : Int32)), (.ref br)])) rfl rfl (hb hby d13_97) _ ?_
        show Steps p.tables e below (T724.setTop (mkF m 98 #[.val (.ref a0), .val (.ref a1), .val (.int (1 : Int32))] [(.long r1), (.int (1 : Int32)), (.ref br)])) _
        refine XS.aloadN X724.here hx rfl (hb hby d13_98) rfl rfl ?_
        show Steps p.tables e below (T724.setTop (mkF m 99 #[.val (.ref a0), .val (.ref a1), .val (.int (1 : Int32))] [(.ref a0), (.long r1), (.int (1 : Int32)), (.ref br)])) _
        refine st728 _ ?_
        show Steps p.tables e below (T728.setTop (mkF m 102 #[.val (.ref a0), .val (.ref a1), .val (.int (1 : Int32))] [(.ref bc), (.long r1), (.int (1 : Int32)), (.ref br)])) _
        refine XS.iloadN X728.here hx rfl (hb hby d13_102) rfl ?_
        show Steps p.tables e below (T728.setTop (mkF m 103 #[.val (.ref a0), .val (.ref a1), .val (.int (1 : Int32))] [(.int (1 : Int32)), (.ref bc), (.long r1), (.int (1 : Int32)), (.ref br)])) _
        refine X728.laload hx (j := (1 : Int32)) (v := (.long c1)) (by rw [e728]; exact Ar729.1) (State.isArrayOf_alike hZ.alike Ar729.2.1) Ar729.2.2 hin730 hat731 (g := (mkF m 103 #[.val (.ref a0), .val (.ref a1), .val (.int (1 : Int32))] [(.int (1 : Int32)), (.ref bc), (.long r1), (.int (1 : Int32)), (.ref br)])) rfl rfl (hb hby d13_103) _ ?_
        show Steps p.tables e below (T728.setTop (mkF m 104 #[.val (.ref a0), .val (.ref a1), .val (.int (1 : Int32))] [(.long c1), (.long r1), (.int (1 : Int32)), (.ref br)])) _
        refine XS.aloadN X728.here hx rfl (hb hby d13_104) rfl rfl ?_
        show Steps p.tables e below (T728.setTop (mkF m 105 #[.val (.ref a0), .val (.ref a1), .val (.int (1 : Int32))] [(.ref a1), (.long c1), (.long r1), (.int (1 : Int32)), (.ref br)])) _
        refine XS.iloadN X728.here hx rfl (hb hby d13_105) rfl ?_
        show Steps p.tables e below (T728.setTop (mkF m 106 #[.val (.ref a0), .val (.ref a1), .val (.int (1 : Int32))] [(.int (1 : Int32)), (.ref a1), (.long c1), (.long r1), (.int (1 : Int32)), (.ref br)])) _
        refine X728.laload hx (j := (1 : Int32)) (v := (.long s1)) (by rw [e728]; exact Ar732.1) (State.isArrayOf_alike hZ.alike Ar732.2.1) Ar732.2.2 hin733 hat734 (g := (mkF m 106 #[.val (.ref a0), .val (.ref a1), .val (.int (1 : Int32))] [(.int (1 : Int32)), (.ref a1), (.long c1), (.long r1), (.int (1 : Int32)), (.ref br)])) rfl rfl (hb hby d13_106) _ ?_
        show Steps p.tables e below (T728.setTop (mkF m 107 #[.val (.ref a0), .val (.ref a1), .val (.int (1 : Int32))] [(.long s1), (.long c1), (.long r1), (.int (1 : Int32)), (.ref br)])) _
        refine XS.lsub X728.here hx rfl (hb hby d13_107) rfl ?_
        show Steps p.tables e below (T728.setTop (mkF m 108 #[.val (.ref a0), .val (.ref a1), .val (.int (1 : Int32))] [(.long (c1 - s1)), (.long r1), (.int (1 : Int32)), (.ref br)])) _
        refine XS.ladd X728.here hx rfl (hb hby d13_108) rfl ?_
        show Steps p.tables e below (T728.setTop (mkF m 109 #[.val (.ref a0), .val (.ref a1), .val (.int (1 : Int32))] [(.long (r1 + (c1 - s1))), (.int (1 : Int32)), (.ref br)])) _
        refine st737 _ ?_
        show Steps p.tables e below (T737.setTop (mkF m 110 #[.val (.ref a0), .val (.ref a1), .val (.int (1 : Int32))] [])) _
        refine XS.goto X737.here hx rfl (pc0 := 110) (pc' := 125) rfl (hb hby d13_110) (by decide) (by decide) ?_
        exact k)
      have hj750 : (j13_2_2 w1 r1 s1) = (w1 - (1 : Int64)) := by unfold j13_2_2; first | (rw [if_pos hc705]) | (simp only [if_pos hc705])
      have hj751 : (j13_2_3 c1 r1 s1) = (r1 + (c1 - s1)) := by unfold j13_2_3; first | (rw [if_pos hc705]) | (simp only [if_pos hc705])
      exact ⟨T737, h737, _, X737, e737, N748, Z747, hk, K746, f738, f739, f740, f741, f742, (by rw [hj750]; exact f743), (by rw [hj751]; exact V737), f745, fun t k => pre749 t (by exact k)⟩
    · skip
      obtain ⟨T752, X752, e752, st752⟩ := getF X635 hx hZ hown (host := "") (Or.inl (hw _ (List.mem_of_getElem? (i := 47) rfl))) Via.refl e635 f559_3 (g := (mkF m 114 #[.val (.ref a0), .val (.ref a1), .val (.int (1 : Int32))] [(.ref a0)])) rfl rfl (hb hby d13_114)
      obtain ⟨cl753, Ar753, q753, S753, M753, H753, G753⟩ := id f559_6
      have hin754 : ¬ ((1 : Int32) < 0 ∨ cl753.slots.size ≤ ((1 : Int32)).toNatClampNeg) := inb_of S753 ⟨by decide, by decide⟩
      have hat755 : cl753.slots[((1 : Int32)).toNatClampNeg]? = some (.long r1) := H753.at hin754 rfl
      obtain ⟨cl756, Ar756, q756, S756, M756, H756, G756⟩ := id f559_7
      have hin757 : ¬ ((1 : Int32) < 0 ∨ cl756.slots.size ≤ ((1 : Int32)).toNatClampNeg) := inb_of S756 ⟨by decide, by decide⟩
      have hat758 : cl756.slots[((1 : Int32)).toNatClampNeg]? = some (.long s1) := H756.at hin757 rfl
      obtain ⟨cl759, Ar759, q759, S759, M759, H759, G759⟩ := id f559_6
      have hin760 : ¬ ((1 : Int32) < 0 ∨ cl759.slots.size ≤ ((1 : Int32)).toNatClampNeg) := inb_of S759 ⟨by decide, by decide⟩
      obtain ⟨T761, h761, X761, e761, W761, st761⟩ := stJ X752 hx hZ e752 Ar759 (j := (1 : Int32)) hin760 (g := (mkF m 124 #[.val (.ref a0), .val (.ref a1), .val (.int (1 : Int32))] [(.long (r1 - s1)), (.int (1 : Int32)), (.ref br)])) rfl rfl (hb hby d13_124)
      have V761 : Arv Z h761 br k_br .long (2 : Int32) [(.long (j13_2_1 c0 r0 s0)), (.long (r1 - s1))] (.long (0 : Int64)) := Arv.set Ar759 q759 S759 M759 H759 G759 rfl W761 1 rfl (Nat.le_of_ble_eq_true rfl)
      have f762 := f559_0.wr W761
      have f763 := f559_1.other W761 (Or.inl ne_a0_br)
      have f764 := f559_2.other W761 (Or.inl ne_a0_br)
      have f765 := f559_3.other W761 (Or.inl ne_a0_br)
      have f766 := f559_4.other W761 ne_bc_br
      have f767 := f559_5.other W761 ne_bw_br
      have f769 := f559_7.other W761 ne_a1_br
      have K770 := K559.wr W761 (Or.inl (List.mem_of_getElem? (i := 1) rfl))
      have Z771 := Nat.le_trans Z559 (Keep.of_wr W761).1
      have hk := Nat.le_trans hk (Keep.of_wr W761).1
      have N772 := Fr.snoc X761 N559 g_br
      have pre773 := fun (t : State) (k : Steps p.tables e below (T761.setTop (mkF m 125 #[.val (.ref a0), .val (.ref a1), .val (.int (1 : Int32))] [])) t) => pre703 t (by
        show Steps p.tables e below (T635.setTop (mkF m 78 #[.val (.ref a0), .val (.ref a1), .val (.int (1 : Int32))] [(.int (lcmpW s1 r1))])) _
        refine XS.ifYes X635.here hx rfl (pc0 := 78) (pc' := 113) rfl (hb hby d13_78) rfl ((if0 _ _).trans (flt (mt (own_gt s1 r1).mp hc705)).2.2.2) (by decide) (by decide) ?_
        show Steps p.tables e below (T635.setTop (mkF m 113 #[.val (.ref a0), .val (.ref a1), .val (.int (1 : Int32))] [])) _
        refine XS.aloadN X635.here hx rfl (hb hby d13_113) rfl rfl ?_
        show Steps p.tables e below (T635.setTop (mkF m 114 #[.val (.ref a0), .val (.ref a1), .val (.int (1 : Int32))] [(.ref a0)])) _
        refine st752 _ ?_
        show Steps p.tables e below (T752.setTop (mkF m 117 #[.val (.ref a0), .val (.ref a1), .val (.int (1 : Int32))] [(.ref br)])) _
        refine XS.iloadN X752.here hx rfl (hb hby d13_117) rfl ?_
        show Steps p.tables e below (T752.setTop (mkF m 118 #[.val (.ref a0), .val (.ref a1), .val (.int (1 : Int32))] [(.int (1 : Int32)), (.ref br)])) _
        refine XT.dup2 X752.here hx rfl (hb hby d13_118) rfl rfl rfl ?_
        show Steps p.tables e below (T752.setTop (mkF m 119 #[.val (.ref a0), .val (.ref a1), .val (.int (1 : Int32))] [(.int (1 : Int32)), (.ref br), (.int (1 : Int32)), (.ref br)])) _
        refine X752.laload hx (j := (1 : Int32)) (v := (.long r1)) (by rw [e752]; exact Ar753.1) (State.isArrayOf_alike hZ.alike Ar753.2.1) Ar753.2.2 hin754 hat755 (g := (mkF m 119 #[.val (.ref a0), .val (.ref a1), .val (.int (1 : Int32))] [(.int (1 : Int32)), (.ref br), (.int (1 : Int32)), (.ref br)])) rfl rfl (hb hby d13_119) _ ?_
        show Steps p.tables e below (T752.setTop (mkF m 120 #[.val (.ref a0), .val (.ref a1), .val (.int (1 : Int32))] [(.long r1), (.int (1 : Int32)), (.ref br)])) _
        refine XS.aloadN X752.here hx rfl (hb hby d13_120) rfl rfl ?_
        show Steps p.tables e below (T752.setTop (mkF m 121 #[.val (.ref a0), .val (.ref a1), .val (.int (1 : Int32))] [(.ref a1), (.long r1), (.int (1 : Int32)), (.ref br)])) _
        refine XS.iloadN X752.here hx rfl (hb hby d13_121) rfl ?_
        show Steps p.tables e below (T752.setTop (mkF m 122 #[.val (.ref a0), .val (.ref a1), .val (.int (1 : Int32))] [(.int (1 : Int32)), (.ref a1), (.long r1), (.int (1 : Int32)), (.ref br)])) _
        refine X752.laload hx (j := (1 : Int32)) (v := (.long s1)) (by rw [e752]; exact Ar756.1) (State.isArrayOf_alike hZ.alike Ar756.2.1) Ar756.2.2 hin757 hat758 (g := (mkF m 122 #[.val (.ref a0), .val (.ref a1), .val (.int (1 : Int32))] [(.int (1 : Int32)), (.ref a1), (.long r1), (.int (1 : Int32)), (.ref br)])) rfl rfl (hb hby d13_122) _ ?_
        show Steps p.tables e below (T752.setTop (mkF m 123 #[.val (.ref a0), .val (.ref a1), .val (.int (1 : Int32))] [(.long s1), (.long r1), (.int (1 : Int32)), (.ref br)])) _
        refine XS.lsub X752.here hx rfl (hb hby d13_123) rfl ?_
        show Steps p.tables e below (T752.setTop (mkF m 124 #[.val (.ref a0), .val (.ref a1), .val (.int (1 : Int32))] [(.long (r1 - s1)), (.int (1 : Int32)), (.ref br)])) _
        refine st761 _ ?_
        exact k)
      have hj774 : (j13_2_2 w1 r1 s1) = w1 := by unfold j13_2_2; first | (rw [if_neg hc705]) | (simp only [if_neg hc705])
      have hj775 : (j13_2_3 c1 r1 s1) = (r1 - s1) := by unfold j13_2_3; first | (rw [if_neg hc705]) | (simp only [if_neg hc705])
      exact ⟨T761, h761, _, X761, e761, N772, Z771, hk, K770, f762, f763, f764, f765, f766, (by rw [hj774]; exact f767), (by rw [hj775]; exact V761), f769, fun t k => pre773 t (by exact k)⟩
  obtain ⟨cl776, Ar776, q776, S776, M776, H776, G776⟩ := id f704_7
  obtain ⟨fs, hr, hrun, hended, hRW⟩ := X704.leaveW hS (own_hk hk e704) (v := none) (fun _ => rfl)
  refine ⟨_, _, pre704 _ ?_, hrun, hended, _, _, rfl, ?_, hRW.1, hRW.2.1, hRW.2.2.1, hRW.2.2.2.mono (by decide) (by decide)⟩
  · skip
    show Steps p.tables e below (T704.setTop (mkF m 125 #[.val (.ref a0), .val (.ref a1), .val (.int (1 : Int32))] [])) _
    refine XS.iinc X704.here hx rfl (hb hby d13_125) rfl (l' := #[.val (.ref a0), .val (.ref a1), .val (.int (2 : Int32))]) rfl ?_
    show Steps p.tables e below (T704.setTop (mkF m 128 #[.val (.ref a0), .val (.ref a1), .val (.int (2 : Int32))] [])) _
    refine XS.goto X704.here hx rfl (pc0 := 128) (pc' := 62) rfl (hb hby d13_128) (by decide) (by decide) ?_
    show Steps p.tables e below (T704.setTop (mkF m 62 #[.val (.ref a0), .val (.ref a1), .val (.int (2 : Int32))] [])) _
    refine XS.iloadN X704.here hx rfl (hb hby d13_62) rfl ?_
    show Steps p.tables e below (T704.setTop (mkF m 63 #[.val (.ref a0), .val (.ref a1), .val (.int (2 : Int32))] [(.int (2 : Int32))])) _
    refine XS.aloadN X704.here hx rfl (hb hby d13_63) rfl rfl ?_
    show Steps p.tables e below (T704.setTop (mkF m 64 #[.val (.ref a0), .val (.ref a1), .val (.int (2 : Int32))] [(.ref a1), (.int (2 : Int32))])) _
    refine X704.arraylength hx (by rw [e704]; exact Ar776.1) (State.isArrayOf_alike hZ.alike Ar776.2.1) (g := (mkF m 64 #[.val (.ref a0), .val (.ref a1), .val (.int (2 : Int32))] [(.ref a1), (.int (2 : Int32))])) rfl rfl (hb hby d13_64) _ ?_
    rw [len_of S776 M776]
    show Steps p.tables e below (T704.setTop (mkF m 65 #[.val (.ref a0), .val (.ref a1), .val (.int (2 : Int32))] [(.int (2 : Int32)), (.int (2 : Int32))])) _
    refine XS.icmpYes X704.here hx rfl (pc0 := 65) (pc' := 131) rfl (hb hby d13_65) rfl (flt (by decide : ¬ ((2 : Int32) < (2 : Int32)))).2.1 (by decide) (by decide) ?_
    show Steps p.tables e below (T704.setTop (mkF m 131 #[.val (.ref a0), .val (.ref a1), .val (.int (2 : Int32))] [])) _
    exact X704.returnOut hx Bd.returns (hb hby d13_131) hr
  · show Q13_2 Z a0 a1 bc bw br c0 c1 w0 w1 r0 r1 s0 s1 k_bc k_bw k_br k_a1 h0 n0 _ T704.heap _
    rw [e704]
    exact ⟨rfl, N704, K704, f704_5, f704_6⟩
theorem d10_0 : decode prog_29_method_5_code 0 = .ok (.lconst 0, 1) := by decide +kernel
theorem d10_1 : decode prog_29_method_5_code 1 = .ok (.lstore_n 1, 1) := by decide +kernel
theorem d10_2 : decode prog_29_method_5_code 2 = .ok (.iconst 0, 1) := by decide +kernel
theorem d10_3 : decode prog_29_method_5_code 3 = .ok (.istore_n 3, 1) := by decide +kernel
theorem d10_4 : decode prog_29_method_5_code 4 = .ok (.iload_n 3, 1) := by decide +kernel
theorem d10_5 : decode prog_29_method_5_code 5 = .ok (.aload_n 0, 1) := by decide +kernel
theorem d10_6 : decode prog_29_method_5_code 6 = .ok (.getfield 13, 3) := by decide +kernel
theorem d10_9 : decode prog_29_method_5_code 9 = .ok (.arraylength, 1) := by decide +kernel
theorem d10_10 : decode prog_29_method_5_code 10 = .ok (.if_icmp .ge 42, 3) := by decide +kernel
theorem d10_13 : decode prog_29_method_5_code 13 = .ok (.aload_n 0, 1) := by decide +kernel
theorem d10_14 : decode prog_29_method_5_code 14 = .ok (.getfield 19, 3) := by decide +kernel
theorem d10_17 : decode prog_29_method_5_code 17 = .ok (.iload_n 3, 1) := by decide +kernel
theorem d10_18 : decode prog_29_method_5_code 18 = .ok (.laload, 1) := by decide +kernel
theorem d10_19 : decode prog_29_method_5_code 19 = .ok (.aload_n 0, 1) := by decide +kernel
theorem d10_20 : decode prog_29_method_5_code 20 = .ok (.getfield 22, 3) := by decide +kernel
theorem d10_23 : decode prog_29_method_5_code 23 = .ok (.iload_n 3, 1) := by decide +kernel
theorem d10_24 : decode prog_29_method_5_code 24 = .ok (.laload, 1) := by decide +kernel
theorem d10_25 : decode prog_29_method_5_code 25 = .ok (.lconst 0, 1) := by decide +kernel
theorem d10_26 : decode prog_29_method_5_code 26 = .ok (.lcmp, 1) := by decide +kernel
theorem d10_27 : decode prog_29_method_5_code 27 = .ok (.ifCond .le 7, 3) := by decide +kernel
theorem d10_30 : decode prog_29_method_5_code 30 = .ok (.iconst 1, 1) := by decide +kernel
theorem d10_31 : decode prog_29_method_5_code 31 = .ok (.goto 4, 3) := by decide +kernel
theorem d10_34 : decode prog_29_method_5_code 34 = .ok (.iconst 0, 1) := by decide +kernel
theorem d10_35 : decode prog_29_method_5_code 35 = .ok (.i2l, 1) := by decide +kernel
theorem d10_36 : decode prog_29_method_5_code 36 = .ok (.ladd, 1) := by decide +kernel
theorem d10_37 : decode prog_29_method_5_code 37 = .ok (.lstore 4, 2) := by decide +kernel
theorem d10_39 : decode prog_29_method_5_code 39 = .ok (.lload_n 1, 1) := by decide +kernel
theorem d10_40 : decode prog_29_method_5_code 40 = .ok (.lload 4, 2) := by decide +kernel
theorem pd_7 : parseMethodDescriptor "(JJ)J" = some ⟨[.long, .long], some .long⟩ := by decide +kernel
theorem d10_42 : decode prog_29_method_5_code 42 = .ok (.invokestatic 38, 3) := by decide +kernel
theorem d10_45 : decode prog_29_method_5_code 45 = .ok (.lstore_n 1, 1) := by decide +kernel
theorem d10_46 : decode prog_29_method_5_code 46 = .ok (.iinc 3 1, 3) := by decide +kernel
theorem d10_49 : decode prog_29_method_5_code 49 = .ok (.goto (-45), 3) := by decide +kernel
theorem d10_52 : decode prog_29_method_5_code 52 = .ok (.lload_n 1, 1) := by decide +kernel
theorem d10_53 : decode prog_29_method_5_code 53 = .ok (.lreturn, 1) := by decide +kernel
def j10_2_0 (r0 : Int64) : Int32 := (if (0 : Int64) < r0 then (1 : Int32) else (0 : Int32))
def j10_2_1 (r1 : Int64) : Int32 := (if (0 : Int64) < r1 then (1 : Int32) else (0 : Int32))
theorem ef10_2 (m : MethodId) (x0 : Addr) : entryFrame m #[(.ref x0)] 6 = mkF m 0 #[.val (.ref x0), .unset, .unset, .unset, .unset, .unset] [] := by first | (simp [entryFrame, mkF, argsToLocals, Value.category]; done) | rfl
abbrev rr10_2 : Room := { frames := 1, cells := 0, slots := 0, locals := 15 }
def Q10_2 (Z : State) (a0 : Addr) (bc : Addr) (bw : Addr) (br : Addr) (c0 : Int64) (c1 : Int64) (w0 : Int64) (w1 : Int64) (r0 : Int64) (r1 : Int64) (k_bc : ClassId) (k_bw : ClassId) (k_br : ClassId) (h0 : Heap) (n0 : Nat) (v : Option Value) (h : Heap) (L : List Loc) : Prop := v = some (.long (j11_0 (j11_0 (0 : Int64) (w0 + ((j10_2_0 r0).toInt64))) (w1 + ((j10_2_1 r1).toInt64)))) ∧ Fr n0 L ∧ h = h0
set_option maxRecDepth 65536 in
set_option maxHeartbeats 40000000 in
theorem rm10_2 (l : Launch) (Z : State) (aw : Array Value) (hw : ∀ d ∈ tables_1, d.before aw Z = true) (ws : List Jvm.Cond) (a0 : Addr) (bc : Addr) (bw : Addr) (br : Addr) (c0 : Int64) (c1 : Int64) (w0 : Int64) (w1 : Int64) (r0 : Int64) (r1 : Int64) (k_bc : ClassId) (k_bw : ClassId) (k_br : ClassId) (h0 : Heap) (n0 : Nat) (Z0 : n0 ≤ h0.size) (E_a0 : Exa Z h0 a0 "com/example/stowline/stowline/VolumeBound") (F_capacities_a0 : Fld Z h0 a0 "com/example/stowline/stowline/VolumeBound" "capacities" "[J" (.ref bc)) (F_wholeCapacities_a0 : Fld Z h0 a0 "com/example/stowline/stowline/VolumeBound" "wholeCapacities" "[J" (.ref bw)) (F_remainders_a0 : Fld Z h0 a0 "com/example/stowline/stowline/VolumeBound" "remainders" "[J" (.ref br)) (V_bc : Arv Z h0 bc k_bc .long (2 : Int32) [(.long c0), (.long c1)] (.long (0 : Int64))) (V_bw : Arv Z h0 bw k_bw .long (2 : Int32) [(.long w0), (.long w1)] (.long (0 : Int64))) (V_br : Arv Z h0 br k_br .long (2 : Int32) [(.long r0), (.long r1)] (.long (0 : Int64))) :
    MetFree l (⟨"com/example/stowline/stowline/VolumeBound", "value", "()J"⟩ : MethodName) (head1 (Jvm.Cond.code (⟨"com/example/stowline/stowline/VolumeBound", "value", "()J"⟩ : MethodName) prog_29_method_5_code 6 (some .long) :: ws) rr10_2) (fun a U => a = #[(.ref a0)] ∧ Z.Warmed39 U.vm ∧ U.heap = h0) (fun _ _ _ _ _ => True) (fun _ U o U' => ∃ v L, o = .returned v ∧ Q10_2 Z a0 bc bw br c0 c1 w0 w1 r0 r1 k_bc k_bw k_br h0 n0 v U'.heap L ∧ FrameEnd U o U' L rr10_2.cells rr10_2.slots) := by
  refine MetFree.of_bodySF (plainFor_of_name pn_3) hisR ?_
  intro p e s m args below meth c s₁ Bd hml0 hP hK
  obtain ⟨rfl, hZ, hh⟩ := hP
  have hx := Bd.exec
  have hby := Bd.bytes
  have hml : c.maxLocals = 6 := hml0
  have hown : s.vm.findClass "com/example/stowline/stowline/VolumeBound" = some m.cls := findClass_of_methodNamed Bd.named
  have hnm := (name_of_methodNamed Bd.named Bd.method).1
  have X0 : Stand p l e rr10_2 s m #[(.ref a0)] below meth c s₁ [] 0 0 := Stand.of_body Bd
  have e0 : s₁.heap = h0 := by rw [← hh, Bd.state]; rfl
  have N0 := Fr.nil n0
  have pre0 : ∀ t, Steps p.tables e below (s₁.setTop (mkF m 0 #[.val (.ref a0), .unset, .unset, .unset, .unset, .unset] [])) t → Steps p.tables e below (s₁.setTop (entryFrame m #[(.ref a0)] 6)) t := fun t k => castTop (ef10_2 m a0) k
  obtain ⟨T777, X777, e777, st777⟩ := getF X0 hx hZ hown (host := "") (Or.inl (hw _ (List.mem_of_getElem? (i := 43) rfl))) Via.refl e0 F_capacities_a0 (g := (mkF m 6 #[.val (.ref a0), .val (.long (0 : Int64)), .second, .val (.int (0 : Int32)), .unset, .unset] [(.ref a0), (.int (0 : Int32))])) rfl rfl (hb hby d10_6)
  obtain ⟨cl778, Ar778, q778, S778, M778, H778, G778⟩ := id V_bc
  obtain ⟨T779, X779, e779, st779⟩ := getF X777 hx hZ hown (host := "") (Or.inl (hw _ (List.mem_of_getElem? (i := 45) rfl))) Via.refl e777 F_wholeCapacities_a0 (g := (mkF m 14 #[.val (.ref a0), .val (.long (0 : Int64)), .second, .val (.int (0 : Int32)), .unset, .unset] [(.ref a0)])) rfl rfl (hb hby d10_14)
  obtain ⟨cl780, Ar780, q780, S780, M780, H780, G780⟩ := id V_bw
  have hin781 : ¬ ((0 : Int32) < 0 ∨ cl780.slots.size ≤ ((0 : Int32)).toNatClampNeg) := inb_of S780 ⟨by decide, by decide⟩
  have hat782 : cl780.slots[((0 : Int32)).toNatClampNeg]? = some (.long w0) := H780.at hin781 rfl
  obtain ⟨T783, X783, e783, st783⟩ := getF X779 hx hZ hown (host := "") (Or.inl (hw _ (List.mem_of_getElem? (i := 47) rfl))) Via.refl e779 F_remainders_a0 (g := (mkF m 20 #[.val (.ref a0), .val (.long (0 : Int64)), .second, .val (.int (0 : Int32)), .unset, .unset] [(.ref a0), (.long w0)])) rfl rfl (hb hby d10_20)
  obtain ⟨cl784, Ar784, q784, S784, M784, H784, G784⟩ := id V_br
  have hin785 : ¬ ((0 : Int32) < 0 ∨ cl784.slots.size ≤ ((0 : Int32)).toNatClampNeg) := inb_of S784 ⟨by decide, by decide⟩
  have hat786 : cl784.slots[((0 : Int32)).toNatClampNeg]? = some (.long r0) := H784.at hin785 rfl
  have pre787 := fun (t : State) (k : Steps p.tables e below (T783.setTop (mkF m 27 #[.val (.ref a0), .val (.long (0 : Int64)), .second, .val (.int (0 : Int32)), .unset, .unset] [(.int (lcmpW r0 (0 : Int64))), (.long w0)])) t) => pre0 t (by
    show Steps p.tables e below (s₁.setTop (mkF m 0 #[.val (.ref a0), .unset, .unset, .unset, .unset, .unset] [])) _
    refine XS.lconst X0.here hx rfl (hb hby d10_0) ?_
    show Steps p.tables e below (s₁.setTop (mkF m 1 #[.val (.ref a0), .unset, .unset, .unset, .unset, .unset] [(.long (0 : Int64))])) _
    refine XS.lstoreN X0.here hx rfl (hb hby d10_1) rfl (l' := #[.val (.ref a0), .val (.long (0 : Int64)), .second, .unset, .unset, .unset]) rfl ?_
    show Steps p.tables e below (s₁.setTop (mkF m 2 #[.val (.ref a0), .val (.long (0 : Int64)), .second, .unset, .unset, .unset] [])) _
    refine XS.iconst X0.here hx rfl (hb hby d10_2) ?_
    show Steps p.tables e below (s₁.setTop (mkF m 3 #[.val (.ref a0), .val (.long (0 : Int64)), .second, .unset, .unset, .unset] [(.int (0 : Int32))])) _
    refine XS.istoreN X0.here hx rfl (hb hby d10_3) rfl (l' := #[.val (.ref a0), .val (.long (0 : Int64)), .second, .val (.int (0 : Int32)), .unset, .unset]) rfl ?_
    show Steps p.tables e below (s₁.setTop (mkF m 4 #[.val (.ref a0), .val (.long (0 : Int64)), .second, .val (.int (0 : Int32)), .unset, .unset] [])) _
    refine XS.iloadN X0.here hx rfl (hb hby d10_4) rfl ?_
    show Steps p.tables e below (s₁.setTop (mkF m 5 #[.val (.ref a0), .val (.long (0 : Int64)), .second, .val (.int (0 : Int32)), .unset, .unset] [(.int (0 : Int32))])) _
    refine XS.aloadN X0.here hx rfl (hb hby d10_5) rfl rfl ?_
    show Steps p.tables e below (s₁.setTop (mkF m 6 #[.val (.ref a0), .val (.long (0 : Int64)), .second, .val (.int (0 : Int32)), .unset, .unset] [(.ref a0), (.int (0 : Int32))])) _
    refine st777 _ ?_
    show Steps p.tables e below (T777.setTop (mkF m 9 #[.val (.ref a0), .val (.long (0 : Int64)), .second, .val (.int (0 : Int32)), .unset, .unset] [(.ref bc), (.int (0 : Int32))])) _
    refine X777.arraylength hx (by rw [e777]; exact Ar778.1) (State.isArrayOf_alike hZ.alike Ar778.2.1) (g := (mkF m 9 #[.val (.ref a0), .val (.long (0 : Int64)), .second, .val (.int (0 : Int32)), .unset, .unset] [(.ref bc), (.int (0 : Int32))])) rfl rfl (hb hby d10_9) _ ?_
    rw [len_of S778 M778]
    show Steps p.tables e below (T777.setTop (mkF m 10 #[.val (.ref a0), .val (.long (0 : Int64)), .second, .val (.int (0 : Int32)), .unset, .unset] [(.int (2 : Int32)), (.int (0 : Int32))])) _
    refine XS.icmpNo X777.here hx rfl (hb hby d10_10) rfl (tlt (by decide : (0 : Int32) < (2 : Int32))).2.1 ?_
    show Steps p.tables e below (T777.setTop (mkF m 13 #[.val (.ref a0), .val (.long (0 : Int64)), .second, .val (.int (0 : Int32)), .unset, .unset] [])) _
    refine XS.aloadN X777.here hx rfl (hb hby d10_13) rfl rfl ?_
    show Steps p.tables e below (T777.setTop (mkF m 14 #[.val (.ref a0), .val (.long (0 : Int64)), .second, .val (.int (0 : Int32)), .unset, .unset] [(.ref a0)])) _
    refine st779 _ ?_
    show Steps p.tables e below (T779.setTop (mkF m 17 #[.val (.ref a0), .val (.long (0 : Int64)), .second, .val (.int (0 : Int32)), .unset, .unset] [(.ref bw)])) _
    refine XS.iloadN X779.here hx rfl (hb hby d10_17) rfl ?_
    show Steps p.tables e below (T779.setTop (mkF m 18 #[.val (.ref a0), .val (.long (0 : Int64)), .second, .val (.int (0 : Int32)), .unset, .unset] [(.int (0 : Int32)), (.ref bw)])) _
    refine X779.laload hx (j := (0 : Int32)) (v := (.long w0)) (by rw [e779]; exact Ar780.1) (State.isArrayOf_alike hZ.alike Ar780.2.1) Ar780.2.2 hin781 hat782 (g := (mkF m 18 #[.val (.ref a0), .val (.long (0 : Int64)), .second, .val (.int (0 : Int32)), .unset, .unset] [(.int (0 : Int32)), (.ref bw)])) rfl rfl (hb hby d10_18) _ ?_
    show Steps p.tables e below (T779.setTop (mkF m 19 #[.val (.ref a0), .val (.long (0 : Int64)), .second, .val (.int (0 : Int32)), .unset, .unset] [(.long w0)])) _
    refine XS.aloadN X779.here hx rfl (hb hby d10_19) rfl rfl ?_
    show Steps p.tables e below (T779.setTop (mkF m 20 #[.val (.ref a0), .val (.long (0 : Int64)), .second, .val (.int (0 : Int32)), .unset, .unset] [(.ref a0), (.long w0)])) _
    refine st783 _ ?_
    show Steps p.tables e below (T783.setTop (mkF m 23 #[.val (.ref a0), .val (.long (0 : Int64)), .second, .val (.int (0 : Int32)), .unset, .unset] [(.ref br), (.long w0)])) _
    refine XS.iloadN X783.here hx rfl (hb hby d10_23) rfl ?_
    show Steps p.tables e below (T783.setTop (mkF m 24 #[.val (.ref a0), .val (.long (0 : Int64)), .second, .val (.int (0 : Int32)), .unset, .unset] [(.int (0 : Int32)), (.ref br), (.long w0)])) _
    refine X783.laload hx (j := (0 : Int32)) (v := (.long r0)) (by rw [e783]; exact Ar784.1) (State.isArrayOf_alike hZ.alike Ar784.2.1) Ar784.2.2 hin785 hat786 (g := (mkF m 24 #[.val (.ref a0), .val (.long (0 : Int64)), .second, .val (.int (0 : Int32)), .unset, .unset] [(.int (0 : Int32)), (.ref br), (.long w0)])) rfl rfl (hb hby d10_24) _ ?_
    show Steps p.tables e below (T783.setTop (mkF m 25 #[.val (.ref a0), .val (.long (0 : Int64)), .second, .val (.int (0 : Int32)), .unset, .unset] [(.long r0), (.long w0)])) _
    refine XS.lconst X783.here hx rfl (hb hby d10_25) ?_
    show Steps p.tables e below (T783.setTop (mkF m 26 #[.val (.ref a0), .val (.long (0 : Int64)), .second, .val (.int (0 : Int32)), .unset, .unset] [(.long (0 : Int64)), (.long r0), (.long w0)])) _
    refine XS.lcmp X783.here hx rfl (hb hby d10_26) rfl ?_
    exact k)
  have pre788 := fun (t : State) (k : Steps p.tables e below (T783.setTop (mkF m 35 #[.val (.ref a0), .val (.long (0 : Int64)), .second, .val (.int (0 : Int32)), .unset, .unset] [(.int (j10_2_0 r0)), (.long w0)])) t) => pre787 t (by
    by_cases hc789 : (0 : Int64) < r0
    · skip
      show Steps p.tables e below (T783.setTop (mkF m 27 #[.val (.ref a0), .val (.long (0 : Int64)), .second, .val (.int (0 : Int32)), .unset, .unset] [(.int (lcmpW r0 (0 : Int64))), (.long w0)])) _
      refine XS.ifNo X783.here hx rfl (hb hby d10_27) rfl ((if0 _ _).trans (tlt ((own_gt r0 (0 : Int64)).mpr hc789)).2.2.2) ?_
      show Steps p.tables e below (T783.setTop (mkF m 30 #[.val (.ref a0), .val (.long (0 : Int64)), .second, .val (.int (0 : Int32)), .unset, .unset] [(.long w0)])) _
      refine XS.iconst X783.here hx rfl (hb hby d10_30) ?_
      show Steps p.tables e below (T783.setTop (mkF m 31 #[.val (.ref a0), .val (.long (0 : Int64)), .second, .val (.int (0 : Int32)), .unset, .unset] [(.int (1 : Int32)), (.long w0)])) _
      refine XS.goto X783.here hx rfl (pc0 := 31) (pc' := 35) rfl (hb hby d10_31) (by decide) (by decide) ?_
      have hj790 : (j10_2_0 r0) = (1 : Int32) := by unfold j10_2_0; first | (rw [if_pos hc789]) | (simp only [if_pos hc789])
      rw [hj790] at k
      exact k
    · skip
      show Steps p.tables e below (T783.setTop (mkF m 27 #[.val (.ref a0), .val (.long (0 : Int64)), .second, .val (.int (0 : Int32)), .unset, .unset] [(.int (lcmpW r0 (0 : Int64))), (.long w0)])) _
      refine XS.ifYes X783.here hx rfl (pc0 := 27) (pc' := 34) rfl (hb hby d10_27) rfl ((if0 _ _).trans (flt (mt (own_gt r0 (0 : Int64)).mp hc789)).2.2.2) (by decide) (by decide) ?_
      show Steps p.tables e below (T783.setTop (mkF m 34 #[.val (.ref a0), .val (.long (0 : Int64)), .second, .val (.int (0 : Int32)), .unset, .unset] [(.long w0)])) _
      refine XS.iconst X783.here hx rfl (hb hby d10_34) ?_
      have hj791 : (j10_2_0 r0) = (0 : Int32) := by unfold j10_2_0; first | (rw [if_neg hc789]) | (simp only [if_neg hc789])
      rw [hj791] at k
      exact k)
  obtain ⟨_, _, ⟨T792, L792, k792, n792⟩, -, X792, ⟨Lc792, hQ792, l792, y792, z792⟩, st792⟩ := Jvm.LawKit.callS X783 hx (y := (⟨"java/lang/Math", "max", "(JJ)J"⟩ : MethodName)) hown (mvT hZ (hw _ (List.mem_of_getElem? (i := 68) rfl))) (mvT hZ (hw _ (List.mem_of_getElem? (i := 69) rfl))) (mvT hZ (hw _ (List.mem_of_getElem? (i := 70) rfl))) (mvT hZ (hw _ (List.mem_of_getElem? (i := 71) rfl))) (by decide) (backOf (W := 0) (rm11 l Z aw hw [] ((0 : Int64)) ((w0 + ((j10_2_0 r0).toInt64))) h0 n0 Z0 ) hZ (hw _ (List.mem_of_getElem? (i := 71) rfl)) (hw _ (List.mem_of_getElem? (i := 70) rfl)) (by decide) (by decide)) (g := (mkF m 42 #[.val (.ref a0), .val (.long (0 : Int64)), .second, .val (.int (0 : Int32)), .val (.long (w0 + ((j10_2_0 r0).toInt64))), .second] [(.long (w0 + ((j10_2_0 r0).toInt64))), (.long (0 : Int64))])) rfl (by rw [hml]; rfl) (argsL := [(.long (0 : Int64)), (.long (w0 + ((j10_2_0 r0).toInt64)))]) (rest := []) (lenOf pd_7 rfl) rfl (by show 2 * 0 + _ ≤ _; exact Nat.le_of_eq rfl) (hb hby d10_42) (fun _ _ => ⟨rfl, e783, (by decide : 0 + 0 ≤ _), (by decide : 0 + 0 ≤ _)⟩)
  dsimp only [Pt.U, Pt.locs, Pt.cells, Pt.slots] at X792 l792 y792 z792 st792 hQ792
  subst l792 y792 z792
  obtain ⟨rfl, N792q, e792⟩ := hQ792
  have N792 := Fr.app N0 N792q
  obtain ⟨T793, X793, e793, st793⟩ := getF X792 hx hZ hown (host := "") (Or.inl (hw _ (List.mem_of_getElem? (i := 43) rfl))) Via.refl e792 F_capacities_a0 (g := (mkF m 6 #[.val (.ref a0), .val (.long (j11_0 (0 : Int64) (w0 + ((j10_2_0 r0).toInt64)))), .second, .val (.int (1 : Int32)), .val (.long (w0 + ((j10_2_0 r0).toInt64))), .second] [(.ref a0), (.int (1 : Int32))])) rfl rfl (hb hby d10_6)
  obtain ⟨cl794, Ar794, q794, S794, M794, H794, G794⟩ := id V_bc
  obtain ⟨T795, X795, e795, st795⟩ := getF X793 hx hZ hown (host := "") (Or.inl (hw _ (List.mem_of_getElem? (i := 45) rfl))) Via.refl e793 F_wholeCapacities_a0 (g := (mkF m 14 #[.val (.ref a0), .val (.long (j11_0 (0 : Int64) (w0 + ((j10_2_0 r0).toInt64)))), .second, .val (.int (1 : Int32)), .val (.long (w0 + ((j10_2_0 r0).toInt64))), .second] [(.ref a0)])) rfl rfl (hb hby d10_14)
  obtain ⟨cl796, Ar796, q796, S796, M796, H796, G796⟩ := id V_bw
  have hin797 : ¬ ((1 : Int32) < 0 ∨ cl796.slots.size ≤ ((1 : Int32)).toNatClampNeg) := inb_of S796 ⟨by decide, by decide⟩
  have hat798 : cl796.slots[((1 : Int32)).toNatClampNeg]? = some (.long w1) := H796.at hin797 rfl
  obtain ⟨T799, X799, e799, st799⟩ := getF X795 hx hZ hown (host := "") (Or.inl (hw _ (List.mem_of_getElem? (i := 47) rfl))) Via.refl e795 F_remainders_a0 (g := (mkF m 20 #[.val (.ref a0), .val (.long (j11_0 (0 : Int64) (w0 + ((j10_2_0 r0).toInt64)))), .second, .val (.int (1 : Int32)), .val (.long (w0 + ((j10_2_0 r0).toInt64))), .second] [(.ref a0), (.long w1)])) rfl rfl (hb hby d10_20)
  obtain ⟨cl800, Ar800, q800, S800, M800, H800, G800⟩ := id V_br
  have hin801 : ¬ ((1 : Int32) < 0 ∨ cl800.slots.size ≤ ((1 : Int32)).toNatClampNeg) := inb_of S800 ⟨by decide, by decide⟩
  have hat802 : cl800.slots[((1 : Int32)).toNatClampNeg]? = some (.long r1) := H800.at hin801 rfl
  have pre803 := fun (t : State) (k : Steps p.tables e below (T799.setTop (mkF m 27 #[.val (.ref a0), .val (.long (j11_0 (0 : Int64) (w0 + ((j10_2_0 r0).toInt64)))), .second, .val (.int (1 : Int32)), .val (.long (w0 + ((j10_2_0 r0).toInt64))), .second] [(.int (lcmpW r1 (0 : Int64))), (.long w1)])) t) => pre788 t (by
    show Steps p.tables e below (T783.setTop (mkF m 35 #[.val (.ref a0), .val (.long (0 : Int64)), .second, .val (.int (0 : Int32)), .unset, .unset] [(.int (j10_2_0 r0)), (.long w0)])) _
    refine XS.i2l X783.here hx rfl (hb hby d10_35) rfl ?_
    show Steps p.tables e below (T783.setTop (mkF m 36 #[.val (.ref a0), .val (.long (0 : Int64)), .second, .val (.int (0 : Int32)), .unset, .unset] [(.long ((j10_2_0 r0).toInt64)), (.long w0)])) _
    refine XS.ladd X783.here hx rfl (hb hby d10_36) rfl ?_
    show Steps p.tables e below (T783.setTop (mkF m 37 #[.val (.ref a0), .val (.long (0 : Int64)), .second, .val (.int (0 : Int32)), .unset, .unset] [(.long (w0 + ((j10_2_0 r0).toInt64)))])) _
    refine XS.lstore X783.here hx rfl (hb hby d10_37) rfl (l' := #[.val (.ref a0), .val (.long (0 : Int64)), .second, .val (.int (0 : Int32)), .val (.long (w0 + ((j10_2_0 r0).toInt64))), .second]) rfl ?_
    show Steps p.tables e below (T783.setTop (mkF m 39 #[.val (.ref a0), .val (.long (0 : Int64)), .second, .val (.int (0 : Int32)), .val (.long (w0 + ((j10_2_0 r0).toInt64))), .second] [])) _
    refine XS.lloadN X783.here hx rfl (hb hby d10_39) rfl ?_
    show Steps p.tables e below (T783.setTop (mkF m 40 #[.val (.ref a0), .val (.long (0 : Int64)), .second, .val (.int (0 : Int32)), .val (.long (w0 + ((j10_2_0 r0).toInt64))), .second] [(.long (0 : Int64))])) _
    refine XS.lload X783.here hx rfl (hb hby d10_40) rfl ?_
    show Steps p.tables e below (T783.setTop (mkF m 42 #[.val (.ref a0), .val (.long (0 : Int64)), .second, .val (.int (0 : Int32)), .val (.long (w0 + ((j10_2_0 r0).toInt64))), .second] [(.long (w0 + ((j10_2_0 r0).toInt64))), (.long (0 : Int64))])) _
    refine st792 _ ?_
    show Steps p.tables e below (T792.setTop (mkF m 45 #[.val (.ref a0), .val (.long (0 : Int64)), .second, .val (.int (0 : Int32)), .val (.long (w0 + ((j10_2_0 r0).toInt64))), .second] [(.long (j11_0 (0 : Int64) (w0 + ((j10_2_0 r0).toInt64))))])) _
    refine XS.lstoreN X792.here hx rfl (hb hby d10_45) rfl (l' := #[.val (.ref a0), .val (.long (j11_0 (0 : Int64) (w0 + ((j10_2_0 r0).toInt64)))), .second, .val (.int (0 : Int32)), .val (.long (w0 + ((j10_2_0 r0).toInt64))), .second]) rfl ?_
    show Steps p.tables e below (T792.setTop (mkF m 46 #[.val (.ref a0), .val (.long (j11_0 (0 : Int64) (w0 + ((j10_2_0 r0).toInt64)))), .second, .val (.int (0 : Int32)), .val (.long (w0 + ((j10_2_0 r0).toInt64))), .second] [])) _
    refine XS.iinc X792.here hx rfl (hb hby d10_46) rfl (l' := #[.val (.ref a0), .val (.long (j11_0 (0 : Int64) (w0 + ((j10_2_0 r0).toInt64)))), .second, .val (.int (1 : Int32)), .val (.long (w0 + ((j10_2_0 r0).toInt64))), .second]) rfl ?_
    show Steps p.tables e below (T792.setTop (mkF m 49 #[.val (.ref a0), .val (.long (j11_0 (0 : Int64) (w0 + ((j10_2_0 r0).toInt64)))), .second, .val (.int (1 : Int32)), .val (.long (w0 + ((j10_2_0 r0).toInt64))), .second] [])) _
    refine XS.goto X792.here hx rfl (pc0 := 49) (pc' := 4) rfl (hb hby d10_49) (by decide) (by decide) ?_
    show Steps p.tables e below (T792.setTop (mkF m 4 #[.val (.ref a0), .val (.long (j11_0 (0 : Int64) (w0 + ((j10_2_0 r0).toInt64)))), .second, .val (.int (1 : Int32)), .val (.long (w0 + ((j10_2_0 r0).toInt64))), .second] [])) _
    refine XS.iloadN X792.here hx rfl (hb hby d10_4) rfl ?_
    show Steps p.tables e below (T792.setTop (mkF m 5 #[.val (.ref a0), .val (.long (j11_0 (0 : Int64) (w0 + ((j10_2_0 r0).toInt64)))), .second, .val (.int (1 : Int32)), .val (.long (w0 + ((j10_2_0 r0).toInt64))), .second] [(.int (1 : Int32))])) _
    refine XS.aloadN X792.here hx rfl (hb hby d10_5) rfl rfl ?_
    show Steps p.tables e below (T792.setTop (mkF m 6 #[.val (.ref a0), .val (.long (j11_0 (0 : Int64) (w0 + ((j10_2_0 r0).toInt64)))), .second, .val (.int (1 : Int32)), .val (.long (w0 + ((j10_2_0 r0).toInt64))), .second] [(.ref a0), (.int (1 : Int32))])) _
    refine st793 _ ?_
    show Steps p.tables e below (T793.setTop (mkF m 9 #[.val (.ref a0), .val (.long (j11_0 (0 : Int64) (w0 + ((j10_2_0 r0).toInt64)))), .second, .val (.int (1 : Int32)), .val (.long (w0 + ((j10_2_0 r0).toInt64))), .second] [(.ref bc), (.int (1 : Int32))])) _
    refine X793.arraylength hx (by rw [e793]; exact Ar794.1) (State.isArrayOf_alike hZ.alike Ar794.2.1) (g := (mkF m 9 #[.val (.ref a0), .val (.long (j11_0 (0 : Int64) (w0 + ((j10_2_0 r0).toInt64)))), .second, .val (.int (1 : Int32)), .val (.long (w0 + ((j10_2_0 r0).toInt64))), .second] [(.ref bc), (.int (1 : Int32))])) rfl rfl (hb hby d10_9) _ ?_
    rw [len_of S794 M794]
    show Steps p.tables e below (T793.setTop (mkF m 10 #[.val (.ref a0), .val (.long (j11_0 (0 : Int64) (w0 + ((j10_2_0 r0).toInt64)))), .second, .val (.int (1 : Int32)), .val (.long (w0 + ((j10_2_0 r0).toInt64))), .second] [(.int (2 : Int32)), (.int (1 : Int32))])) _
    refine XS.icmpNo X793.here hx rfl (hb hby d10_10) rfl (tlt (by decide : (1 : Int32) < (2 : Int32))).2.1 ?_
    show Steps p.tables e below (T793.setTop (mkF m 13 #[.val (.ref a0), .val (.long (j11_0 (0 : Int64) (w0 + ((j10_2_0 r0).toInt64)))), .second, .val (.int (1 : Int32)), .val (.long (w0 + ((j10_2_0 r0).toInt64))), .second] [])) _
    refine XS.aloadN X793.here hx rfl (hb hby d10_13) rfl rfl ?_
    show Steps p.tables e below (T793.setTop (mkF m 14 #[.val (.ref a0), .val (.long (j11_0 (0 : Int64) (w0 + ((j10_2_0 r0).toInt64)))), .second, .val (.int (1 : Int32)), .val (.long (w0 + ((j10_2_0 r0).toInt64))), .second] [(.ref a0)])) _
    refine st795 _ ?_
    show Steps p.tables e below (T795.setTop (mkF m 17 #[.val (.ref a0), .val (.long (j11_0 (0 : Int64) (w0 + ((j10_2_0 r0).toInt64)))), .second, .val (.int (1 : Int32)), .val (.long (w0 + ((j10_2_0 r0).toInt64))), .second] [(.ref bw)])) _
    refine XS.iloadN X795.here hx rfl (hb hby d10_17) rfl ?_
    show Steps p.tables e below (T795.setTop (mkF m 18 #[.val (.ref a0), .val (.long (j11_0 (0 : Int64) (w0 + ((j10_2_0 r0).toInt64)))), .second, .val (.int (1 : Int32)), .val (.long (w0 + ((j10_2_0 r0).toInt64))), .second] [(.int (1 : Int32)), (.ref bw)])) _
    refine X795.laload hx (j := (1 : Int32)) (v := (.long w1)) (by rw [e795]; exact Ar796.1) (State.isArrayOf_alike hZ.alike Ar796.2.1) Ar796.2.2 hin797 hat798 (g := (mkF m 18 #[.val (.ref a0), .val (.long (j11_0 (0 : Int64) (w0 + ((j10_2_0 r0).toInt64)))), .second, .val (.int (1 : Int32)), .val (.long (w0 + ((j10_2_0 r0).toInt64))), .second] [(.int (1 : Int32)), (.ref bw)])) rfl rfl (hb hby d10_18) _ ?_
    show Steps p.tables e below (T795.setTop (mkF m 19 #[.val (.ref a0), .val (.long (j11_0 (0 : Int64) (w0 + ((j10_2_0 r0).toInt64)))), .second, .val (.int (1 : Int32)), .val (.long (w0 + ((j10_2_0 r0).toInt64))), .second] [(.long w1)])) _
    refine XS.aloadN X795.here hx rfl (hb hby d10_19) rfl rfl ?_
    show Steps p.tables e below (T795.setTop (mkF m 20 #[.val (.ref a0), .val (.long (j11_0 (0 : Int64) (w0 + ((j10_2_0 r0).toInt64)))), .second, .val (.int (1 : Int32)), .val (.long (w0 + ((j10_2_0 r0).toInt64))), .second] [(.ref a0), (.long w1)])) _
    refine st799 _ ?_
    show Steps p.tables e below (T799.setTop (mkF m 23 #[.val (.ref a0), .val (.long (j11_0 (0 : Int64) (w0 + ((j10_2_0 r0).toInt64)))), .second, .val (.int (1 : Int32)), .val (.long (w0 + ((j10_2_0 r0).toInt64))), .second] [(.ref br), (.long w1)])) _
    refine XS.iloadN X799.here hx rfl (hb hby d10_23) rfl ?_
    show Steps p.tables e below (T799.setTop (mkF m 24 #[.val (.ref a0), .val (.long (j11_0 (0 : Int64) (w0 + ((j10_2_0 r0).toInt64)))), .second, .val (.int (1 : Int32)), .val (.long (w0 + ((j10_2_0 r0).toInt64))), .second] [(.int (1 : Int32)), (.ref br), (.long w1)])) _
    refine X799.laload hx (j := (1 : Int32)) (v := (.long r1)) (by rw [e799]; exact Ar800.1) (State.isArrayOf_alike hZ.alike Ar800.2.1) Ar800.2.2 hin801 hat802 (g := (mkF m 24 #[.val (.ref a0), .val (.long (j11_0 (0 : Int64) (w0 + ((j10_2_0 r0).toInt64)))), .second, .val (.int (1 : Int32)), .val (.long (w0 + ((j10_2_0 r0).toInt64))), .second] [(.int (1 : Int32)), (.ref br), (.long w1)])) rfl rfl (hb hby d10_24) _ ?_
    show Steps p.tables e below (T799.setTop (mkF m 25 #[.val (.ref a0), .val (.long (j11_0 (0 : Int64) (w0 + ((j10_2_0 r0).toInt64)))), .second, .val (.int (1 : Int32)), .val (.long (w0 + ((j10_2_0 r0).toInt64))), .second] [(.long r1), (.long w1)])) _
    refine XS.lconst X799.here hx rfl (hb hby d10_25) ?_
    show Steps p.tables e below (T799.setTop (mkF m 26 #[.val (.ref a0), .val (.long (j11_0 (0 : Int64) (w0 + ((j10_2_0 r0).toInt64)))), .second, .val (.int (1 : Int32)), .val (.long (w0 + ((j10_2_0 r0).toInt64))), .second] [(.long (0 : Int64)), (.long r1), (.long w1)])) _
    refine XS.lcmp X799.here hx rfl (hb hby d10_26) rfl ?_
    exact k)
  have pre804 := fun (t : State) (k : Steps p.tables e below (T799.setTop (mkF m 35 #[.val (.ref a0), .val (.long (j11_0 (0 : Int64) (w0 + ((j10_2_0 r0).toInt64)))), .second, .val (.int (1 : Int32)), .val (.long (w0 + ((j10_2_0 r0).toInt64))), .second] [(.int (j10_2_1 r1)), (.long w1)])) t) => pre803 t (by
    by_cases hc805 : (0 : Int64) < r1
    · skip
      show Steps p.tables e below (T799.setTop (mkF m 27 #[.val (.ref a0), .val (.long (j11_0 (0 : Int64) (w0 + ((j10_2_0 r0).toInt64)))), .second, .val (.int (1 : Int32)), .val (.long (w0 + ((j10_2_0 r0).toInt64))), .second] [(.int (lcmpW r1 (0 : Int64))), (.long w1)])) _
      refine XS.ifNo X799.here hx rfl (hb hby d10_27) rfl ((if0 _ _).trans (tlt ((own_gt r1 (0 : Int64)).mpr hc805)).2.2.2) ?_
      show Steps p.tables e below (T799.setTop (mkF m 30 #[.val (.ref a0), .val (.long (j11_0 (0 : Int64) (w0 + ((j10_2_0 r0).toInt64)))), .second, .val (.int (1 : Int32)), .val (.long (w0 + ((j10_2_0 r0).toInt64))), .second] [(.long w1)])) _
      refine XS.iconst X799.here hx rfl (hb hby d10_30) ?_
      show Steps p.tables e below (T799.setTop (mkF m 31 #[.val (.ref a0), .val (.long (j11_0 (0 : Int64) (w0 + ((j10_2_0 r0).toInt64)))), .second, .val (.int (1 : Int32)), .val (.long (w0 + ((j10_2_0 r0).toInt64))), .second] [(.int (1 : Int32)), (.long w1)])) _
      refine XS.goto X799.here hx rfl (pc0 := 31) (pc' := 35) rfl (hb hby d10_31) (by decide) (by decide) ?_
      have hj806 : (j10_2_1 r1) = (1 : Int32) := by unfold j10_2_1; first | (rw [if_pos hc805]) | (simp only [if_pos hc805])
      rw [hj806] at k
      exact k
    · skip
      show Steps p.tables e below (T799.setTop (mkF m 27 #[.val (.ref a0), .val (.long (j11_0 (0 : Int64) (w0 + ((j10_2_0 r0).toInt64)))), .second, .val (.int (1 : Int32)), .val (.long (w0 + ((j10_2_0 r0).toInt64))), .second] [(.int (lcmpW r1 (0 : Int64))), (.long w1)])) _
      refine XS.ifYes X799.here hx rfl (pc0 := 27) (pc' := 34) rfl (hb hby d10_27) rfl ((if0 _ _).trans (flt (mt (own_gt r1 (0 : Int64)).mp hc805)).2.2.2) (by decide) (by decide) ?_
      show Steps p.tables e below (T799.setTop (mkF m 34 #[.val (.ref a0), .val (.long (j11_0 (0 : Int64) (w0 + ((j10_2_0 r0).toInt64)))), .second, .val (.int (1 : Int32)), .val (.long (w0 + ((j10_2_0 r0).toInt64))), .second] [(.long w1)])) _
      refine XS.iconst X799.here hx rfl (hb hby d10_34) ?_
      have hj807 : (j10_2_1 r1) = (0 : Int32) := by unfold j10_2_1; first | (rw [if_neg hc805]) | (simp only [if_neg hc805])
      rw [hj807] at k
      exact k)
  obtain ⟨_, _, ⟨T808, L808, k808, n808⟩, -, X808, ⟨Lc808, hQ808, l808, y808, z808⟩, st808⟩ := Jvm.LawKit.callS X799 hx (y := (⟨"java/lang/Math", "max", "(JJ)J"⟩ : MethodName)) hown (mvT hZ (hw _ (List.mem_of_getElem? (i := 68) rfl))) (mvT hZ (hw _ (List.mem_of_getElem? (i := 69) rfl))) (mvT hZ (hw _ (List.mem_of_getElem? (i := 70) rfl))) (mvT hZ (hw _ (List.mem_of_getElem? (i := 71) rfl))) (by decide) (backOf (W := 0) (rm11 l Z aw hw [] ((j11_0 (0 : Int64) (w0 + ((j10_2_0 r0).toInt64)))) ((w1 + ((j10_2_1 r1).toInt64))) h0 n0 Z0 ) hZ (hw _ (List.mem_of_getElem? (i := 71) rfl)) (hw _ (List.mem_of_getElem? (i := 70) rfl)) (by decide) (by decide)) (g := (mkF m 42 #[.val (.ref a0), .val (.long (j11_0 (0 : Int64) (w0 + ((j10_2_0 r0).toInt64)))), .second, .val (.int (1 : Int32)), .val (.long (w1 + ((j10_2_1 r1).toInt64))), .second] [(.long (w1 + ((j10_2_1 r1).toInt64))), (.long (j11_0 (0 : Int64) (w0 + ((j10_2_0 r0).toInt64))))])) rfl (by rw [hml]; rfl) (argsL := [(.long (j11_0 (0 : Int64) (w0 + ((j10_2_0 r0).toInt64)))), (.long (w1 + ((j10_2_1 r1).toInt64)))]) (rest := []) (lenOf pd_7 rfl) rfl (by show 2 * 0 + _ ≤ _; exact Nat.le_of_eq rfl) (hb hby d10_42) (fun _ _ => ⟨rfl, e799, (by decide : 0 + 0 ≤ _), (by decide : 0 + 0 ≤ _)⟩)
  dsimp only [Pt.U, Pt.locs, Pt.cells, Pt.slots] at X808 l808 y808 z808 st808 hQ808
  subst l808 y808 z808
  obtain ⟨rfl, N808q, e808⟩ := hQ808
  have N808 := Fr.app N792 N808q
  obtain ⟨T809, X809, e809, st809⟩ := getF X808 hx hZ hown (host := "") (Or.inl (hw _ (List.mem_of_getElem? (i := 43) rfl))) Via.refl e808 F_capacities_a0 (g := (mkF m 6 #[.val (.ref a0), .val (.long (j11_0 (j11_0 (0 : Int64) (w0 + ((j10_2_0 r0).toInt64))) (w1 + ((j10_2_1 r1).toInt64)))), .second, .val (.int (2 : Int32)), .val (.long (w1 + ((j10_2_1 r1).toInt64))), .second] [(.ref a0), (.int (2 : Int32))])) rfl rfl (hb hby d10_6)
  obtain ⟨cl810, Ar810, q810, S810, M810, H810, G810⟩ := id V_bc
  obtain ⟨fs, hr, hrun, hended, hW, hsame⟩ := X809.leave (v := some (.long (j11_0 (j11_0 (0 : Int64) (w0 + ((j10_2_0 r0).toInt64))) (w1 + ((j10_2_1 r1).toInt64))))) (fun h => by rw [Bd.returns] at h; cases h)
  refine ⟨_, _, pre804 _ ?_, hrun, hended, _, _, rfl, ?_, ⟨_, rfl⟩, hW, hsame.mono (by decide) (by decide)⟩
  · skip
    show Steps p.tables e below (T799.setTop (mkF m 35 #[.val (.ref a0), .val (.long (j11_0 (0 : Int64) (w0 + ((j10_2_0 r0).toInt64)))), .second, .val (.int (1 : Int32)), .val (.long (w0 + ((j10_2_0 r0).toInt64))), .second] [(.int (j10_2_1 r1)), (.long w1)])) _
    refine XS.i2l X799.here hx rfl (hb hby d10_35) rfl ?_
    show Steps p.tables e below (T799.setTop (mkF m 36 #[.val (.ref a0), .val (.long (j11_0 (0 : Int64) (w0 + ((j10_2_0 r0).toInt64)))), .second, .val (.int (1 : Int32)), .val (.long (w0 + ((j10_2_0 r0).toInt64))), .second] [(.long ((j10_2_1 r1).toInt64)), (.long w1)])) _
    refine XS.ladd X799.here hx rfl (hb hby d10_36) rfl ?_
    show Steps p.tables e below (T799.setTop (mkF m 37 #[.val (.ref a0), .val (.long (j11_0 (0 : Int64) (w0 + ((j10_2_0 r0).toInt64)))), .second, .val (.int (1 : Int32)), .val (.long (w0 + ((j10_2_0 r0).toInt64))), .second] [(.long (w1 + ((j10_2_1 r1).toInt64)))])) _
    refine XS.lstore X799.here hx rfl (hb hby d10_37) rfl (l' := #[.val (.ref a0), .val (.long (j11_0 (0 : Int64) (w0 + ((j10_2_0 r0).toInt64)))), .second, .val (.int (1 : Int32)), .val (.long (w1 + ((j10_2_1 r1).toInt64))), .second]) rfl ?_
    show Steps p.tables e below (T799.setTop (mkF m 39 #[.val (.ref a0), .val (.long (j11_0 (0 : Int64) (w0 + ((j10_2_0 r0).toInt64)))), .second, .val (.int (1 : Int32)), .val (.long (w1 + ((j10_2_1 r1).toInt64))), .second] [])) _
    refine XS.lloadN X799.here hx rfl (hb hby d10_39) rfl ?_
    show Steps p.tables e below (T799.setTop (mkF m 40 #[.val (.ref a0), .val (.long (j11_0 (0 : Int64) (w0 + ((j10_2_0 r0).toInt64)))), .second, .val (.int (1 : Int32)), .val (.long (w1 + ((j10_2_1 r1).toInt64))), .second] [(.long (j11_0 (0 : Int64) (w0 + ((j10_2_0 r0).toInt64))))])) _
    refine XS.lload X799.here hx rfl (hb hby d10_40) rfl ?_
    show Steps p.tables e below (T799.setTop (mkF m 42 #[.val (.ref a0), .val (.long (j11_0 (0 : Int64) (w0 + ((j10_2_0 r0).toInt64)))), .second, .val (.int (1 : Int32)), .val (.long (w1 + ((j10_2_1 r1).toInt64))), .second] [(.long (w1 + ((j10_2_1 r1).toInt64))), (.long (j11_0 (0 : Int64) (w0 + ((j10_2_0 r0).toInt64))))])) _
    refine st808 _ ?_
    show Steps p.tables e below (T808.setTop (mkF m 45 #[.val (.ref a0), .val (.long (j11_0 (0 : Int64) (w0 + ((j10_2_0 r0).toInt64)))), .second, .val (.int (1 : Int32)), .val (.long (w1 + ((j10_2_1 r1).toInt64))), .second] [(.long (j11_0 (j11_0 (0 : Int64) (w0 + ((j10_2_0 r0).toInt64))) (w1 + ((j10_2_1 r1).toInt64))))])) _
    refine XS.lstoreN X808.here hx rfl (hb hby d10_45) rfl (l' := #[.val (.ref a0), .val (.long (j11_0 (j11_0 (0 : Int64) (w0 + ((j10_2_0 r0).toInt64))) (w1 + ((j10_2_1 r1).toInt64)))), .second, .val (.int (1 : Int32)), .val (.long (w1 + ((j10_2_1 r1).toInt64))), .second]) rfl ?_
    show Steps p.tables e below (T808.setTop (mkF m 46 #[.val (.ref a0), .val (.long (j11_0 (j11_0 (0 : Int64) (w0 + ((j10_2_0 r0).toInt64))) (w1 + ((j10_2_1 r1).toInt64)))), .second, .val (.int (1 : Int32)), .val (.long (w1 + ((j10_2_1 r1).toInt64))), .second] [])) _
    refine XS.iinc X808.here hx rfl (hb hby d10_46) rfl (l' := #[.val (.ref a0), .val (.long (j11_0 (j11_0 (0 : Int64) (w0 + ((j10_2_0 r0).toInt64))) (w1 + ((j10_2_1 r1).toInt64)))), .second, .val (.int (2 : Int32)), .val (.long (w1 + ((j10_2_1 r1).toInt64))), .second]) rfl ?_
    show Steps p.tables e below (T808.setTop (mkF m 49 #[.val (.ref a0), .val (.long (j11_0 (j11_0 (0 : Int64) (w0 + ((j10_2_0 r0).toInt64))) (w1 + ((j10_2_1 r1).toInt64)))), .second, .val (.int (2 : Int32)), .val (.long (w1 + ((j10_2_1 r1).toInt64))), .second] [])) _
    refine XS.goto X808.here hx rfl (pc0 := 49) (pc' := 4) rfl (hb hby d10_49) (by decide) (by decide) ?_
    show Steps p.tables e below (T808.setTop (mkF m 4 #[.val (.ref a0), .val (.long (j11_0 (j11_0 (0 : Int64) (w0 + ((j10_2_0 r0).toInt64))) (w1 + ((j10_2_1 r1).toInt64)))), .second, .val (.int (2 : Int32)), .val (.long (w1 + ((j10_2_1 r1).toInt64))), .second] [])) _
    refine XS.iloadN X808.here hx rfl (hb hby d10_4) rfl ?_
    show Steps p.tables e below (T808.setTop (mkF m 5 #[.val (.ref a0), .val (.long (j11_0 (j11_0 (0 : Int64) (w0 + ((j10_2_0 r0).toInt64))) (w1 + ((j10_2_1 r1).toInt64)))), .second, .val (.int (2 : Int32)), .val (.long (w1 + ((j10_2_1 r1).toInt64))), .second] [(.int (2 : Int32))])) _
    refine XS.aloadN X808.here hx rfl (hb hby d10_5) rfl rfl ?_
    show Steps p.tables e below (T808.setTop (mkF m 6 #[.val (.ref a0), .val (.long (j11_0 (j11_0 (0 : Int64) (w0 + ((j10_2_0 r0).toInt64))) (w1 + ((j10_2_1 r1).toInt64)))), .second, .val (.int (2 : Int32)), .val (.long (w1 + ((j10_2_1 r1).toInt64))), .second] [(.ref a0), (.int (2 : Int32))])) _
    refine st809 _ ?_
    show Steps p.tables e below (T809.setTop (mkF m 9 #[.val (.ref a0), .val (.long (j11_0 (j11_0 (0 : Int64) (w0 + ((j10_2_0 r0).toInt64))) (w1 + ((j10_2_1 r1).toInt64)))), .second, .val (.int (2 : Int32)), .val (.long (w1 + ((j10_2_1 r1).toInt64))), .second] [(.ref bc), (.int (2 : Int32))])) _
    refine X809.arraylength hx (by rw [e809]; exact Ar810.1) (State.isArrayOf_alike hZ.alike Ar810.2.1) (g := (mkF m 9 #[.val (.ref a0), .val (.long (j11_0 (j11_0 (0 : Int64) (w0 + ((j10_2_0 r0).toInt64))) (w1 + ((j10_2_1 r1).toInt64)))), .second, .val (.int (2 : Int32)), .val (.long (w1 + ((j10_2_1 r1).toInt64))), .second] [(.ref bc), (.int (2 : Int32))])) rfl rfl (hb hby d10_9) _ ?_
    rw [len_of S810 M810]
    show Steps p.tables e below (T809.setTop (mkF m 10 #[.val (.ref a0), .val (.long (j11_0 (j11_0 (0 : Int64) (w0 + ((j10_2_0 r0).toInt64))) (w1 + ((j10_2_1 r1).toInt64)))), .second, .val (.int (2 : Int32)), .val (.long (w1 + ((j10_2_1 r1).toInt64))), .second] [(.int (2 : Int32)), (.int (2 : Int32))])) _
    refine XS.icmpYes X809.here hx rfl (pc0 := 10) (pc' := 52) rfl (hb hby d10_10) rfl (flt (by decide : ¬ ((2 : Int32) < (2 : Int32)))).2.1 (by decide) (by decide) ?_
    show Steps p.tables e below (T809.setTop (mkF m 52 #[.val (.ref a0), .val (.long (j11_0 (j11_0 (0 : Int64) (w0 + ((j10_2_0 r0).toInt64))) (w1 + ((j10_2_1 r1).toInt64)))), .second, .val (.int (2 : Int32)), .val (.long (w1 + ((j10_2_1 r1).toInt64))), .second] [])) _
    refine XS.lloadN X809.here hx rfl (hb hby d10_52) rfl ?_
    show Steps p.tables e below (T809.setTop (mkF m 53 #[.val (.ref a0), .val (.long (j11_0 (j11_0 (0 : Int64) (w0 + ((j10_2_0 r0).toInt64))) (w1 + ((j10_2_1 r1).toInt64)))), .second, .val (.int (2 : Int32)), .val (.long (w1 + ((j10_2_1 r1).toInt64))), .second] [(.long (j11_0 (j11_0 (0 : Int64) (w0 + ((j10_2_0 r0).toInt64))) (w1 + ((j10_2_1 r1).toInt64))))])) _
    exact retOut X809 hx Bd.returns rfl (Or.inr (Or.inl ⟨rfl, rfl, _, rfl⟩)) (hb hby d10_53) hr
  · show Q10_2 Z a0 bc bw br c0 c1 w0 w1 r0 r1 k_bc k_bw k_br h0 n0 _ T809.heap _
    rw [e809]
    exact ⟨rfl, N808, rfl⟩
theorem d1_0 : decode method_2_code 0 = .ok (.lload_n 0, 1) := by decide +kernel
theorem d1_1 : decode method_2_code 1 = .ok (.ldc2_w 9, 3) := by decide +kernel
theorem d1_4 : decode method_2_code 4 = .ok (.land, 1) := by decide +kernel
theorem d1_5 : decode method_2_code 5 = .ok (.lstore_n 2, 1) := by decide +kernel
theorem d1_6 : decode method_2_code 6 = .ok (.lload_n 2, 1) := by decide +kernel
theorem d1_7 : decode method_2_code 7 = .ok (.lconst 0, 1) := by decide +kernel
theorem d1_8 : decode method_2_code 8 = .ok (.lcmp, 1) := by decide +kernel
theorem d1_9 : decode method_2_code 9 = .ok (.ifCond .ne 7, 3) := by decide +kernel
theorem d1_12 : decode method_2_code 12 = .ok (.lconst 1, 1) := by decide +kernel
theorem d1_13 : decode method_2_code 13 = .ok (.goto 4, 3) := by decide +kernel
theorem d1_16 : decode method_2_code 16 = .ok (.lload_n 2, 1) := by decide +kernel
theorem d1_17 : decode method_2_code 17 = .ok (.lreturn, 1) := by decide +kernel
def j1_0 (q0 : Int64) : Int64 := (if (q0 &&& (9223372036854775807 : Int64)) = (0 : Int64) then (1 : Int64) else (q0 &&& (9223372036854775807 : Int64)))
theorem pn_4 : plainName "com/example/stowline/stowline/VolumeBoundValuePinLaw" = true := by first | (simp [plainName, overriddenIn]; done) | decide +kernel
theorem ef1 (m : MethodId) (x0 : Int64) : entryFrame m #[(.long x0)] 4 = mkF m 0 #[.val (.long x0), .second, .unset, .unset] [] := by first | (simp [entryFrame, mkF, argsToLocals, Value.category]; done) | rfl
abbrev rr1 : Room := { frames := 0, cells := 0, slots := 0, locals := 0 }
def Q1 (Z : State) (q0 : Int64) (h0 : Heap) (n0 : Nat) (v : Option Value) (h : Heap) (L : List Loc) : Prop := v = some (.long (j1_0 q0)) ∧ Fr n0 L ∧ h = h0
set_option maxRecDepth 65536 in
set_option maxHeartbeats 40000000 in
theorem rm1 (l : Launch) (Z : State) (aw : Array Value) (hw : ∀ d ∈ tables_1, d.before aw Z = true) (ws : List Jvm.Cond) (q0 : Int64) (h0 : Heap) (n0 : Nat) (Z0 : n0 ≤ h0.size)  :
    MetFree l (⟨"com/example/stowline/stowline/VolumeBoundValuePinLaw", "cap", "(J)J"⟩ : MethodName) (head1 (Jvm.Cond.code (⟨"com/example/stowline/stowline/VolumeBoundValuePinLaw", "cap", "(J)J"⟩ : MethodName) method_2_code 4 (some .long) :: ws) rr1) (fun a U => a = #[(.long q0)] ∧ Z.Warmed39 U.vm ∧ U.heap = h0) (fun _ _ _ _ _ => True) (fun _ U o U' => ∃ v L, o = .returned v ∧ Q1 Z q0 h0 n0 v U'.heap L ∧ FrameEnd U o U' L rr1.cells rr1.slots) := by
  refine MetFree.of_bodySF (plainFor_of_name pn_4) hisR ?_
  intro p e s m args below meth c s₁ Bd hml0 hP hK
  obtain ⟨rfl, hZ, hh⟩ := hP
  have hx := Bd.exec
  have hby := Bd.bytes
  have hml : c.maxLocals = 4 := hml0
  have hown : s.vm.findClass "com/example/stowline/stowline/VolumeBoundValuePinLaw" = some m.cls := findClass_of_methodNamed Bd.named
  have hnm := (name_of_methodNamed Bd.named Bd.method).1
  have X0 : Stand p l e rr1 s m #[(.long q0)] below meth c s₁ [] 0 0 := Stand.of_body Bd
  have e0 : s₁.heap = h0 := by rw [← hh, Bd.state]; rfl
  have N0 := Fr.nil n0
  have pre0 : ∀ t, Steps p.tables e below (s₁.setTop (mkF m 0 #[.val (.long q0), .second, .unset, .unset] [])) t → Steps p.tables e below (s₁.setTop (entryFrame m #[(.long q0)] 4)) t := fun t k => castTop (ef1 m q0) k
  have pre811 := fun (t : State) (k : Steps p.tables e below (s₁.setTop (mkF m 9 #[.val (.long q0), .second, .val (.long (q0 &&& (9223372036854775807 : Int64))), .second] [(.int (lcmpW (q0 &&& (9223372036854775807 : Int64)) (0 : Int64)))])) t) => pre0 t (by
    show Steps p.tables e below (s₁.setTop (mkF m 0 #[.val (.long q0), .second, .unset, .unset] [])) _
    refine XS.lloadN X0.here hx rfl (hb hby d1_0) rfl ?_
    show Steps p.tables e below (s₁.setTop (mkF m 1 #[.val (.long q0), .second, .unset, .unset] [(.long q0)])) _
    refine X0.ldc2Long hx hown (mvT hZ (hw _ (List.mem_of_getElem? (i := 4) rfl))) (g := (mkF m 1 #[.val (.long q0), .second, .unset, .unset] [(.long q0)])) rfl (hb hby d1_1) _ ?_
    show Steps p.tables e below (s₁.setTop (mkF m 4 #[.val (.long q0), .second, .unset, .unset] [(.long (9223372036854775807 : Int64)), (.long q0)])) _
    refine XS.land X0.here hx rfl (hb hby d1_4) rfl ?_
    show Steps p.tables e below (s₁.setTop (mkF m 5 #[.val (.long q0), .second, .unset, .unset] [(.long (q0 &&& (9223372036854775807 : Int64)))])) _
    refine XS.lstoreN X0.here hx rfl (hb hby d1_5) rfl (l' := #[.val (.long q0), .second, .val (.long (q0 &&& (9223372036854775807 : Int64))), .second]) rfl ?_
    show Steps p.tables e below (s₁.setTop (mkF m 6 #[.val (.long q0), .second, .val (.long (q0 &&& (9223372036854775807 : Int64))), .second] [])) _
    refine XS.lloadN X0.here hx rfl (hb hby d1_6) rfl ?_
    show Steps p.tables e below (s₁.setTop (mkF m 7 #[.val (.long q0), .second, .val (.long (q0 &&& (9223372036854775807 : Int64))), .second] [(.long (q0 &&& (9223372036854775807 : Int64)))])) _
    refine XS.lconst X0.here hx rfl (hb hby d1_7) ?_
    show Steps p.tables e below (s₁.setTop (mkF m 8 #[.val (.long q0), .second, .val (.long (q0 &&& (9223372036854775807 : Int64))), .second] [(.long (0 : Int64)), (.long (q0 &&& (9223372036854775807 : Int64)))])) _
    refine XS.lcmp X0.here hx rfl (hb hby d1_8) rfl ?_
    exact k)
  have pre812 := fun (t : State) (k : Steps p.tables e below (s₁.setTop (mkF m 17 #[.val (.long q0), .second, .val (.long (q0 &&& (9223372036854775807 : Int64))), .second] [(.long (j1_0 q0))])) t) => pre811 t (by
    by_cases hc813 : (q0 &&& (9223372036854775807 : Int64)) = (0 : Int64)
    · skip
      show Steps p.tables e below (s₁.setTop (mkF m 9 #[.val (.long q0), .second, .val (.long (q0 &&& (9223372036854775807 : Int64))), .second] [(.int (lcmpW (q0 &&& (9223372036854775807 : Int64)) (0 : Int64)))])) _
      refine XS.ifNo X0.here hx rfl (hb hby d1_9) rfl ((if0 _ _).trans (teq ((own_eq (q0 &&& (9223372036854775807 : Int64)) (0 : Int64)).mpr hc813)).2) ?_
      show Steps p.tables e below (s₁.setTop (mkF m 12 #[.val (.long q0), .second, .val (.long (q0 &&& (9223372036854775807 : Int64))), .second] [])) _
      refine XS.lconst X0.here hx rfl (hb hby d1_12) ?_
      show Steps p.tables e below (s₁.setTop (mkF m 13 #[.val (.long q0), .second, .val (.long (q0 &&& (9223372036854775807 : Int64))), .second] [(.long (1 : Int64))])) _
      refine XS.goto X0.here hx rfl (pc0 := 13) (pc' := 17) rfl (hb hby d1_13) (by decide) (by decide) ?_
      have hj814 : (j1_0 q0) = (1 : Int64) := by unfold j1_0; first | (rw [if_pos hc813]) | (simp only [if_pos hc813])
      rw [hj814] at k
      exact k
    · skip
      show Steps p.tables e below (s₁.setTop (mkF m 9 #[.val (.long q0), .second, .val (.long (q0 &&& (9223372036854775807 : Int64))), .second] [(.int (lcmpW (q0 &&& (9223372036854775807 : Int64)) (0 : Int64)))])) _
      refine XS.ifYes X0.here hx rfl (pc0 := 9) (pc' := 16) rfl (hb hby d1_9) rfl ((if0 _ _).trans (feq (mt (own_eq (q0 &&& (9223372036854775807 : Int64)) (0 : Int64)).mp hc813)).2) (by decide) (by decide) ?_
      show Steps p.tables e below (s₁.setTop (mkF m 16 #[.val (.long q0), .second, .val (.long (q0 &&& (9223372036854775807 : Int64))), .second] [])) _
      refine XS.lloadN X0.here hx rfl (hb hby d1_16) rfl ?_
      have hj815 : (j1_0 q0) = (q0 &&& (9223372036854775807 : Int64)) := by unfold j1_0; first | (rw [if_neg hc813]) | (simp only [if_neg hc813])
      rw [hj815] at k
      exact k)
  obtain ⟨fs, hr, hrun, hended, hW, hsame⟩ := X0.leave (v := some (.long (j1_0 q0))) (fun h => by rw [Bd.returns] at h; cases h)
  refine ⟨_, _, pre812 _ ?_, hrun, hended, _, _, rfl, ?_, ⟨_, rfl⟩, hW, hsame.mono (by decide) (by decide)⟩
  · skip
    show Steps p.tables e below (s₁.setTop (mkF m 17 #[.val (.long q0), .second, .val (.long (q0 &&& (9223372036854775807 : Int64))), .second] [(.long (j1_0 q0))])) _
    exact retOut X0 hx Bd.returns rfl (Or.inr (Or.inl ⟨rfl, rfl, _, rfl⟩)) (hb hby d1_17) hr
  · show Q1 Z q0 h0 n0 _ s₁.heap _
    rw [e0]
    exact ⟨rfl, N0, rfl⟩
theorem own_c1 (c : Int64) (h : ¬ c < (1 : Int64)) (hm : ¬ c = (9223372036854775807 : Int64)) : ¬ ((c + (1 : Int64)) = (0 : Int64)) := by
  have lc := c.toInt_lt
  have o : (1 : Int64).toInt = 1 := rfl
  have m : (9223372036854775807 : Int64).toInt = 9223372036854775807 := rfl
  rw [Int64.lt_iff_toInt_lt, o] at h
  rw [← Int64.toInt_inj, m] at hm
  rw [← Int64.toInt_inj, Jvm.Kit.i64_add (by rw [o]; omega) (by rw [o]; omega), o, show (0 : Int64).toInt = 0 from rfl]
  omega
theorem d2_0 : decode method_3_code 0 = .ok (.lload_n 0, 1) := by decide +kernel
theorem d2_1 : decode method_3_code 1 = .ok (.ldc2_w 9, 3) := by decide +kernel
theorem d2_4 : decode method_3_code 4 = .ok (.land, 1) := by decide +kernel
theorem d2_5 : decode method_3_code 5 = .ok (.lstore 4, 2) := by decide +kernel
theorem d2_7 : decode method_3_code 7 = .ok (.lload_n 2, 1) := by decide +kernel
theorem d2_8 : decode method_3_code 8 = .ok (.ldc2_w 9, 3) := by decide +kernel
theorem d2_11 : decode method_3_code 11 = .ok (.lcmp, 1) := by decide +kernel
theorem d2_12 : decode method_3_code 12 = .ok (.ifCond .ne 8, 3) := by decide +kernel
theorem d2_15 : decode method_3_code 15 = .ok (.lload 4, 2) := by decide +kernel
theorem d2_17 : decode method_3_code 17 = .ok (.goto 9, 3) := by decide +kernel
theorem d2_26 : decode method_3_code 26 = .ok (.lreturn, 1) := by decide +kernel
theorem d2_20 : decode method_3_code 20 = .ok (.lload 4, 2) := by decide +kernel
theorem d2_22 : decode method_3_code 22 = .ok (.lload_n 2, 1) := by decide +kernel
theorem d2_23 : decode method_3_code 23 = .ok (.lconst 1, 1) := by decide +kernel
theorem d2_24 : decode method_3_code 24 = .ok (.ladd, 1) := by decide +kernel
theorem d2_25 : decode method_3_code 25 = .ok (.lrem, 1) := by decide +kernel
def v2 (q0 : Int64) (q1 : Int64) : Int64 := (if q1 = (9223372036854775807 : Int64) then (q0 &&& (9223372036854775807 : Int64)) else ((q0 &&& (9223372036854775807 : Int64)) - (q0 &&& (9223372036854775807 : Int64)) / (q1 + (1 : Int64)) * (q1 + (1 : Int64))))
theorem ef2 (m : MethodId) (x0 : Int64) (x1 : Int64) : entryFrame m #[(.long x0), (.long x1)] 6 = mkF m 0 #[.val (.long x0), .second, .val (.long x1), .second, .unset, .unset] [] := by first | (simp [entryFrame, mkF, argsToLocals, Value.category]; done) | rfl
abbrev rr2 : Room := { frames := 0, cells := 0, slots := 0, locals := 0 }
def Q2 (Z : State) (q0 : Int64) (q1 : Int64) (h0 : Heap) (n0 : Nat) (v : Option Value) (h : Heap) (L : List Loc) : Prop := v = some (.long (v2 q0 q1)) ∧ Fr n0 L ∧ h = h0
set_option maxRecDepth 65536 in
set_option maxHeartbeats 40000000 in
theorem rm2 (l : Launch) (Z : State) (aw : Array Value) (hw : ∀ d ∈ tables_1, d.before aw Z = true) (ws : List Jvm.Cond) (q0 : Int64) (q1 : Int64) (h0 : Heap) (n0 : Nat) (Z0 : n0 ≤ h0.size) (hq : ¬ q1 < (1 : Int64)) :
    MetFree l (⟨"com/example/stowline/stowline/VolumeBoundValuePinLaw", "size", "(JJ)J"⟩ : MethodName) (head1 (Jvm.Cond.code (⟨"com/example/stowline/stowline/VolumeBoundValuePinLaw", "size", "(JJ)J"⟩ : MethodName) method_3_code 6 (some .long) :: ws) rr2) (fun a U => a = #[(.long q0), (.long q1)] ∧ Z.Warmed39 U.vm ∧ U.heap = h0) (fun _ _ _ _ _ => True) (fun _ U o U' => ∃ v L, o = .returned v ∧ Q2 Z q0 q1 h0 n0 v U'.heap L ∧ FrameEnd U o U' L rr2.cells rr2.slots) := by
  refine MetFree.of_bodySF (plainFor_of_name pn_4) hisR ?_
  intro p e s m args below meth c s₁ Bd hml0 hP hK
  obtain ⟨rfl, hZ, hh⟩ := hP
  have hx := Bd.exec
  have hby := Bd.bytes
  have hml : c.maxLocals = 6 := hml0
  have hown : s.vm.findClass "com/example/stowline/stowline/VolumeBoundValuePinLaw" = some m.cls := findClass_of_methodNamed Bd.named
  have hnm := (name_of_methodNamed Bd.named Bd.method).1
  have X0 : Stand p l e rr2 s m #[(.long q0), (.long q1)] below meth c s₁ [] 0 0 := Stand.of_body Bd
  have e0 : s₁.heap = h0 := by rw [← hh, Bd.state]; rfl
  have N0 := Fr.nil n0
  have pre0 : ∀ t, Steps p.tables e below (s₁.setTop (mkF m 0 #[.val (.long q0), .second, .val (.long q1), .second, .unset, .unset] [])) t → Steps p.tables e below (s₁.setTop (entryFrame m #[(.long q0), (.long q1)] 6)) t := fun t k => castTop (ef2 m q0 q1) k
  have pre817 := fun (t : State) (k : Steps p.tables e below (s₁.setTop (mkF m 12 #[.val (.long q0), .second, .val (.long q1), .second, .val (.long (q0 &&& (9223372036854775807 : Int64))), .second] [(.int (lcmpW q1 (9223372036854775807 : Int64)))])) t) => pre0 t (by
    show Steps p.tables e below (s₁.setTop (mkF m 0 #[.val (.long q0), .second, .val (.long q1), .second, .unset, .unset] [])) _
    refine XS.lloadN X0.here hx rfl (hb hby d2_0) rfl ?_
    show Steps p.tables e below (s₁.setTop (mkF m 1 #[.val (.long q0), .second, .val (.long q1), .second, .unset, .unset] [(.long q0)])) _
    refine X0.ldc2Long hx hown (mvT hZ (hw _ (List.mem_of_getElem? (i := 4) rfl))) (g := (mkF m 1 #[.val (.long q0), .second, .val (.long q1), .second, .unset, .unset] [(.long q0)])) rfl (hb hby d2_1) _ ?_
    show Steps p.tables e below (s₁.setTop (mkF m 4 #[.val (.long q0), .second, .val (.long q1), .second, .unset, .unset] [(.long (9223372036854775807 : Int64)), (.long q0)])) _
    refine XS.land X0.here hx rfl (hb hby d2_4) rfl ?_
    show Steps p.tables e below (s₁.setTop (mkF m 5 #[.val (.long q0), .second, .val (.long q1), .second, .unset, .unset] [(.long (q0 &&& (9223372036854775807 : Int64)))])) _
    refine XS.lstore X0.here hx rfl (hb hby d2_5) rfl (l' := #[.val (.long q0), .second, .val (.long q1), .second, .val (.long (q0 &&& (9223372036854775807 : Int64))), .second]) rfl ?_
    show Steps p.tables e below (s₁.setTop (mkF m 7 #[.val (.long q0), .second, .val (.long q1), .second, .val (.long (q0 &&& (9223372036854775807 : Int64))), .second] [])) _
    refine XS.lloadN X0.here hx rfl (hb hby d2_7) rfl ?_
    show Steps p.tables e below (s₁.setTop (mkF m 8 #[.val (.long q0), .second, .val (.long q1), .second, .val (.long (q0 &&& (9223372036854775807 : Int64))), .second] [(.long q1)])) _
    refine X0.ldc2Long hx hown (mvT hZ (hw _ (List.mem_of_getElem? (i := 4) rfl))) (g := (mkF m 8 #[.val (.long q0), .second, .val (.long q1), .second, .val (.long (q0 &&& (9223372036854775807 : Int64))), .second] [(.long q1)])) rfl (hb hby d2_8) _ ?_
    show Steps p.tables e below (s₁.setTop (mkF m 11 #[.val (.long q0), .second, .val (.long q1), .second, .val (.long (q0 &&& (9223372036854775807 : Int64))), .second] [(.long (9223372036854775807 : Int64)), (.long q1)])) _
    refine XS.lcmp X0.here hx rfl (hb hby d2_11) rfl ?_
    exact k)
  by_cases hc816 : q1 = (9223372036854775807 : Int64)
  · skip
    obtain ⟨fs, hr, hrun, hended, hW, hsame⟩ := X0.leave (v := some (.long (q0 &&& (9223372036854775807 : Int64)))) (fun h => by rw [Bd.returns] at h; cases h)
    refine ⟨_, _, pre817 _ ?_, hrun, hended, _, _, rfl, ?_, ⟨_, rfl⟩, hW, hsame.mono (by decide) (by decide)⟩
    · skip
      show Steps p.tables e below (s₁.setTop (mkF m 12 #[.val (.long q0), .second, .val (.long q1), .second, .val (.long (q0 &&& (9223372036854775807 : Int64))), .second] [(.int (lcmpW q1 (9223372036854775807 : Int64)))])) _
      refine XS.ifNo X0.here hx rfl (hb hby d2_12) rfl ((if0 _ _).trans (teq ((own_eq q1 (9223372036854775807 : Int64)).mpr hc816)).2) ?_
      show Steps p.tables e below (s₁.setTop (mkF m 15 #[.val (.long q0), .second, .val (.long q1), .second, .val (.long (q0 &&& (9223372036854775807 : Int64))), .second] [])) _
      refine XS.lload X0.here hx rfl (hb hby d2_15) rfl ?_
      show Steps p.tables e below (s₁.setTop (mkF m 17 #[.val (.long q0), .second, .val (.long q1), .second, .val (.long (q0 &&& (9223372036854775807 : Int64))), .second] [(.long (q0 &&& (9223372036854775807 : Int64)))])) _
      refine XS.goto X0.here hx rfl (pc0 := 17) (pc' := 26) rfl (hb hby d2_17) (by decide) (by decide) ?_
      show Steps p.tables e below (s₁.setTop (mkF m 26 #[.val (.long q0), .second, .val (.long q1), .second, .val (.long (q0 &&& (9223372036854775807 : Int64))), .second] [(.long (q0 &&& (9223372036854775807 : Int64)))])) _
      exact retOut X0 hx Bd.returns rfl (Or.inr (Or.inl ⟨rfl, rfl, _, rfl⟩)) (hb hby d2_26) hr
    · show Q2 Z q0 q1 h0 n0 _ s₁.heap _
      rw [e0]
      have hv : (q0 &&& (9223372036854775807 : Int64)) = (v2 q0 q1) := by unfold v2; first | (rw [if_pos hc816]) | (simp only [if_pos hc816])
      exact ⟨(by rw [← hv]), N0, rfl⟩
  · skip
    obtain ⟨fs, hr, hrun, hended, hW, hsame⟩ := X0.leave (v := some (.long ((q0 &&& (9223372036854775807 : Int64)) - (q0 &&& (9223372036854775807 : Int64)) / (q1 + (1 : Int64)) * (q1 + (1 : Int64))))) (fun h => by rw [Bd.returns] at h; cases h)
    refine ⟨_, _, pre817 _ ?_, hrun, hended, _, _, rfl, ?_, ⟨_, rfl⟩, hW, hsame.mono (by decide) (by decide)⟩
    · skip
      show Steps p.tables e below (s₁.setTop (mkF m 12 #[.val (.long q0), .second, .val (.long q1), .second, .val (.long (q0 &&& (9223372036854775807 : Int64))), .second] [(.int (lcmpW q1 (9223372036854775807 : Int64)))])) _
      refine XS.ifYes X0.here hx rfl (pc0 := 12) (pc' := 20) rfl (hb hby d2_12) rfl ((if0 _ _).trans (feq (mt (own_eq q1 (9223372036854775807 : Int64)).mp hc816)).2) (by decide) (by decide) ?_
      show Steps p.tables e below (s₁.setTop (mkF m 20 #[.val (.long q0), .second, .val (.long q1), .second, .val (.long (q0 &&& (9223372036854775807 : Int64))), .second] [])) _
      refine XS.lload X0.here hx rfl (hb hby d2_20) rfl ?_
      show Steps p.tables e below (s₁.setTop (mkF m 22 #[.val (.long q0), .second, .val (.long q1), .second, .val (.long (q0 &&& (9223372036854775807 : Int64))), .second] [(.long (q0 &&& (9223372036854775807 : Int64)))])) _
      refine XS.lloadN X0.here hx rfl (hb hby d2_22) rfl ?_
      show Steps p.tables e below (s₁.setTop (mkF m 23 #[.val (.long q0), .second, .val (.long q1), .second, .val (.long (q0 &&& (9223372036854775807 : Int64))), .second] [(.long q1), (.long (q0 &&& (9223372036854775807 : Int64)))])) _
      refine XS.lconst X0.here hx rfl (hb hby d2_23) ?_
      show Steps p.tables e below (s₁.setTop (mkF m 24 #[.val (.long q0), .second, .val (.long q1), .second, .val (.long (q0 &&& (9223372036854775807 : Int64))), .second] [(.long (1 : Int64)), (.long q1), (.long (q0 &&& (9223372036854775807 : Int64)))])) _
      refine XS.ladd X0.here hx rfl (hb hby d2_24) rfl ?_
      show Steps p.tables e below (s₁.setTop (mkF m 25 #[.val (.long q0), .second, .val (.long q1), .second, .val (.long (q0 &&& (9223372036854775807 : Int64))), .second] [(.long (q1 + (1 : Int64))), (.long (q0 &&& (9223372036854775807 : Int64)))])) _
      refine XS.lrem X0.here hx rfl (hb hby d2_25) rfl (own_c1 q1 hq hc816) ?_
      show Steps p.tables e below (s₁.setTop (mkF m 26 #[.val (.long q0), .second, .val (.long q1), .second, .val (.long (q0 &&& (9223372036854775807 : Int64))), .second] [(.long ((q0 &&& (9223372036854775807 : Int64)) - (q0 &&& (9223372036854775807 : Int64)) / (q1 + (1 : Int64)) * (q1 + (1 : Int64))))])) _
      exact retOut X0 hx Bd.returns rfl (Or.inr (Or.inl ⟨rfl, rfl, _, rfl⟩)) (hb hby d2_26) hr
    · show Q2 Z q0 q1 h0 n0 _ s₁.heap _
      rw [e0]
      have hv : ((q0 &&& (9223372036854775807 : Int64)) - (q0 &&& (9223372036854775807 : Int64)) / (q1 + (1 : Int64)) * (q1 + (1 : Int64))) = (v2 q0 q1) := by unfold v2; first | (rw [if_neg hc816]) | (simp only [if_neg hc816])
      exact ⟨(by rw [← hv]), N0, rfl⟩
theorem d12_0 : decode method_4_code 0 = .ok (.lload_n 0, 1) := by decide +kernel
theorem d12_1 : decode method_4_code 1 = .ok (.lconst 0, 1) := by decide +kernel
theorem d12_2 : decode method_4_code 2 = .ok (.lcmp, 1) := by decide +kernel
theorem d12_3 : decode method_4_code 3 = .ok (.ifCond .ne 11, 3) := by decide +kernel
theorem d12_6 : decode method_4_code 6 = .ok (.lload_n 2, 1) := by decide +kernel
theorem d12_7 : decode method_4_code 7 = .ok (.lconst 0, 1) := by decide +kernel
theorem d12_8 : decode method_4_code 8 = .ok (.lcmp, 1) := by decide +kernel
theorem d12_9 : decode method_4_code 9 = .ok (.ifCond .ne 5, 3) := by decide +kernel
theorem d12_12 : decode method_4_code 12 = .ok (.lconst 0, 1) := by decide +kernel
theorem d12_13 : decode method_4_code 13 = .ok (.lreturn, 1) := by decide +kernel
theorem d12_14 : decode method_4_code 14 = .ok (.lload_n 0, 1) := by decide +kernel
theorem d12_15 : decode method_4_code 15 = .ok (.lload 4, 2) := by decide +kernel
theorem d12_17 : decode method_4_code 17 = .ok (.lload_n 2, 1) := by decide +kernel
theorem d12_18 : decode method_4_code 18 = .ok (.lsub, 1) := by decide +kernel
theorem d12_19 : decode method_4_code 19 = .ok (.lcmp, 1) := by decide +kernel
theorem d12_20 : decode method_4_code 20 = .ok (.ifCond .gt 5, 3) := by decide +kernel
theorem d12_25 : decode method_4_code 25 = .ok (.ldc2_w 11, 3) := by decide +kernel
theorem d12_28 : decode method_4_code 28 = .ok (.lreturn, 1) := by decide +kernel
theorem d12_23 : decode method_4_code 23 = .ok (.lconst 1, 1) := by decide +kernel
theorem d12_24 : decode method_4_code 24 = .ok (.lreturn, 1) := by decide +kernel
def v12 (q0 : Int64) (q1 : Int64) (q2 : Int64) : Int64 := (if q0 = (0 : Int64) then (if q1 = (0 : Int64) then (0 : Int64) else (if (q2 - q1) < q0 then (2 : Int64) else (1 : Int64))) else (if (q2 - q1) < q0 then (2 : Int64) else (1 : Int64)))
theorem ef12 (m : MethodId) (x0 : Int64) (x1 : Int64) (x2 : Int64) : entryFrame m #[(.long x0), (.long x1), (.long x2)] 6 = mkF m 0 #[.val (.long x0), .second, .val (.long x1), .second, .val (.long x2), .second] [] := by first | (simp [entryFrame, mkF, argsToLocals, Value.category]; done) | rfl
abbrev rr12 : Room := { frames := 0, cells := 0, slots := 0, locals := 0 }
def Q12 (Z : State) (q0 : Int64) (q1 : Int64) (q2 : Int64) (h0 : Heap) (n0 : Nat) (v : Option Value) (h : Heap) (L : List Loc) : Prop := v = some (.long (v12 q0 q1 q2)) ∧ Fr n0 L ∧ h = h0
set_option maxRecDepth 65536 in
set_option maxHeartbeats 40000000 in
theorem rm12 (l : Launch) (Z : State) (aw : Array Value) (hw : ∀ d ∈ tables_1, d.before aw Z = true) (ws : List Jvm.Cond) (q0 : Int64) (q1 : Int64) (q2 : Int64) (h0 : Heap) (n0 : Nat) (Z0 : n0 ≤ h0.size)  :
    MetFree l (⟨"com/example/stowline/stowline/VolumeBoundValuePinLaw", "ceilTwo", "(JJJ)J"⟩ : MethodName) (head1 (Jvm.Cond.code (⟨"com/example/stowline/stowline/VolumeBoundValuePinLaw", "ceilTwo", "(JJJ)J"⟩ : MethodName) method_4_code 6 (some .long) :: ws) rr12) (fun a U => a = #[(.long q0), (.long q1), (.long q2)] ∧ Z.Warmed39 U.vm ∧ U.heap = h0) (fun _ _ _ _ _ => True) (fun _ U o U' => ∃ v L, o = .returned v ∧ Q12 Z q0 q1 q2 h0 n0 v U'.heap L ∧ FrameEnd U o U' L rr12.cells rr12.slots) := by
  refine MetFree.of_bodySF (plainFor_of_name pn_4) hisR ?_
  intro p e s m args below meth c s₁ Bd hml0 hP hK
  obtain ⟨rfl, hZ, hh⟩ := hP
  have hx := Bd.exec
  have hby := Bd.bytes
  have hml : c.maxLocals = 6 := hml0
  have hown : s.vm.findClass "com/example/stowline/stowline/VolumeBoundValuePinLaw" = some m.cls := findClass_of_methodNamed Bd.named
  have hnm := (name_of_methodNamed Bd.named Bd.method).1
  have X0 : Stand p l e rr12 s m #[(.long q0), (.long q1), (.long q2)] below meth c s₁ [] 0 0 := Stand.of_body Bd
  have e0 : s₁.heap = h0 := by rw [← hh, Bd.state]; rfl
  have N0 := Fr.nil n0
  have pre0 : ∀ t, Steps p.tables e below (s₁.setTop (mkF m 0 #[.val (.long q0), .second, .val (.long q1), .second, .val (.long q2), .second] [])) t → Steps p.tables e below (s₁.setTop (entryFrame m #[(.long q0), (.long q1), (.long q2)] 6)) t := fun t k => castTop (ef12 m q0 q1 q2) k
  have pre819 := fun (t : State) (k : Steps p.tables e below (s₁.setTop (mkF m 3 #[.val (.long q0), .second, .val (.long q1), .second, .val (.long q2), .second] [(.int (lcmpW q0 (0 : Int64)))])) t) => pre0 t (by
    show Steps p.tables e below (s₁.setTop (mkF m 0 #[.val (.long q0), .second, .val (.long q1), .second, .val (.long q2), .second] [])) _
    refine XS.lloadN X0.here hx rfl (hb hby d12_0) rfl ?_
    show Steps p.tables e below (s₁.setTop (mkF m 1 #[.val (.long q0), .second, .val (.long q1), .second, .val (.long q2), .second] [(.long q0)])) _
    refine XS.lconst X0.here hx rfl (hb hby d12_1) ?_
    show Steps p.tables e below (s₁.setTop (mkF m 2 #[.val (.long q0), .second, .val (.long q1), .second, .val (.long q2), .second] [(.long (0 : Int64)), (.long q0)])) _
    refine XS.lcmp X0.here hx rfl (hb hby d12_2) rfl ?_
    exact k)
  by_cases hc818 : q0 = (0 : Int64)
  · skip
    have pre821 := fun (t : State) (k : Steps p.tables e below (s₁.setTop (mkF m 9 #[.val (.long q0), .second, .val (.long q1), .second, .val (.long q2), .second] [(.int (lcmpW q1 (0 : Int64)))])) t) => pre819 t (by
      show Steps p.tables e below (s₁.setTop (mkF m 3 #[.val (.long q0), .second, .val (.long q1), .second, .val (.long q2), .second] [(.int (lcmpW q0 (0 : Int64)))])) _
      refine XS.ifNo X0.here hx rfl (hb hby d12_3) rfl ((if0 _ _).trans (teq ((own_eq q0 (0 : Int64)).mpr hc818)).2) ?_
      show Steps p.tables e below (s₁.setTop (mkF m 6 #[.val (.long q0), .second, .val (.long q1), .second, .val (.long q2), .second] [])) _
      refine XS.lloadN X0.here hx rfl (hb hby d12_6) rfl ?_
      show Steps p.tables e below (s₁.setTop (mkF m 7 #[.val (.long q0), .second, .val (.long q1), .second, .val (.long q2), .second] [(.long q1)])) _
      refine XS.lconst X0.here hx rfl (hb hby d12_7) ?_
      show Steps p.tables e below (s₁.setTop (mkF m 8 #[.val (.long q0), .second, .val (.long q1), .second, .val (.long q2), .second] [(.long (0 : Int64)), (.long q1)])) _
      refine XS.lcmp X0.here hx rfl (hb hby d12_8) rfl ?_
      exact k)
    by_cases hc820 : q1 = (0 : Int64)
    · skip
      obtain ⟨fs, hr, hrun, hended, hW, hsame⟩ := X0.leave (v := some (.long (0 : Int64))) (fun h => by rw [Bd.returns] at h; cases h)
      refine ⟨_, _, pre821 _ ?_, hrun, hended, _, _, rfl, ?_, ⟨_, rfl⟩, hW, hsame.mono (by decide) (by decide)⟩
      · skip
        show Steps p.tables e below (s₁.setTop (mkF m 9 #[.val (.long q0), .second, .val (.long q1), .second, .val (.long q2), .second] [(.int (lcmpW q1 (0 : Int64)))])) _
        refine XS.ifNo X0.here hx rfl (hb hby d12_9) rfl ((if0 _ _).trans (teq ((own_eq q1 (0 : Int64)).mpr hc820)).2) ?_
        show Steps p.tables e below (s₁.setTop (mkF m 12 #[.val (.long q0), .second, .val (.long q1), .second, .val (.long q2), .second] [])) _
        refine XS.lconst X0.here hx rfl (hb hby d12_12) ?_
        show Steps p.tables e below (s₁.setTop (mkF m 13 #[.val (.long q0), .second, .val (.long q1), .second, .val (.long q2), .second] [(.long (0 : Int64))])) _
        exact retOut X0 hx Bd.returns rfl (Or.inr (Or.inl ⟨rfl, rfl, _, rfl⟩)) (hb hby d12_13) hr
      · show Q12 Z q0 q1 q2 h0 n0 _ s₁.heap _
        rw [e0]
        have hv : (0 : Int64) = (v12 q0 q1 q2) := by unfold v12; first | (rw [if_pos hc818, if_pos hc820]) | (simp only [if_pos hc818, if_pos hc820])
        exact ⟨(by rw [← hv]), N0, rfl⟩
    · skip
      have pre823 := fun (t : State) (k : Steps p.tables e below (s₁.setTop (mkF m 20 #[.val (.long q0), .second, .val (.long q1), .second, .val (.long q2), .second] [(.int (lcmpW q0 (q2 - q1)))])) t) => pre821 t (by
        show Steps p.tables e below (s₁.setTop (mkF m 9 #[.val (.long q0), .second, .val (.long q1), .second, .val (.long q2), .second] [(.int (lcmpW q1 (0 : Int64)))])) _
        refine XS.ifYes X0.here hx rfl (pc0 := 9) (pc' := 14) rfl (hb hby d12_9) rfl ((if0 _ _).trans (feq (mt (own_eq q1 (0 : Int64)).mp hc820)).2) (by decide) (by decide) ?_
        show Steps p.tables e below (s₁.setTop (mkF m 14 #[.val (.long q0), .second, .val (.long q1), .second, .val (.long q2), .second] [])) _
        refine XS.lloadN X0.here hx rfl (hb hby d12_14) rfl ?_
        show Steps p.tables e below (s₁.setTop (mkF m 15 #[.val (.long q0), .second, .val (.long q1), .second, .val (.long q2), .second] [(.long q0)])) _
        refine XS.lload X0.here hx rfl (hb hby d12_15) rfl ?_
        show Steps p.tables e below (s₁.setTop (mkF m 17 #[.val (.long q0), .second, .val (.long q1), .second, .val (.long q2), .second] [(.long q2), (.long q0)])) _
        refine XS.lloadN X0.here hx rfl (hb hby d12_17) rfl ?_
        show Steps p.tables e below (s₁.setTop (mkF m 18 #[.val (.long q0), .second, .val (.long q1), .second, .val (.long q2), .second] [(.long q1), (.long q2), (.long q0)])) _
        refine XS.lsub X0.here hx rfl (hb hby d12_18) rfl ?_
        show Steps p.tables e below (s₁.setTop (mkF m 19 #[.val (.long q0), .second, .val (.long q1), .second, .val (.long q2), .second] [(.long (q2 - q1)), (.long q0)])) _
        refine XS.lcmp X0.here hx rfl (hb hby d12_19) rfl ?_
        exact k)
      by_cases hc822 : (q2 - q1) < q0
      · skip
        obtain ⟨fs, hr, hrun, hended, hW, hsame⟩ := X0.leave (v := some (.long (2 : Int64))) (fun h => by rw [Bd.returns] at h; cases h)
        refine ⟨_, _, pre823 _ ?_, hrun, hended, _, _, rfl, ?_, ⟨_, rfl⟩, hW, hsame.mono (by decide) (by decide)⟩
        · skip
          show Steps p.tables e below (s₁.setTop (mkF m 20 #[.val (.long q0), .second, .val (.long q1), .second, .val (.long q2), .second] [(.int (lcmpW q0 (q2 - q1)))])) _
          refine XS.ifYes X0.here hx rfl (pc0 := 20) (pc' := 25) rfl (hb hby d12_20) rfl ((if0 _ _).trans (tlt ((own_gt q0 (q2 - q1)).mpr hc822)).2.2.1) (by decide) (by decide) ?_
          show Steps p.tables e below (s₁.setTop (mkF m 25 #[.val (.long q0), .second, .val (.long q1), .second, .val (.long q2), .second] [])) _
          refine X0.ldc2Long hx hown (mvT hZ (hw _ (List.mem_of_getElem? (i := 81) rfl))) (g := (mkF m 25 #[.val (.long q0), .second, .val (.long q1), .second, .val (.long q2), .second] [])) rfl (hb hby d12_25) _ ?_
          show Steps p.tables e below (s₁.setTop (mkF m 28 #[.val (.long q0), .second, .val (.long q1), .second, .val (.long q2), .second] [(.long (2 : Int64))])) _
          exact retOut X0 hx Bd.returns rfl (Or.inr (Or.inl ⟨rfl, rfl, _, rfl⟩)) (hb hby d12_28) hr
        · show Q12 Z q0 q1 q2 h0 n0 _ s₁.heap _
          rw [e0]
          have hv : (2 : Int64) = (v12 q0 q1 q2) := by unfold v12; first | (rw [if_pos hc818, if_neg hc820, if_pos hc822]) | (simp only [if_pos hc818, if_neg hc820, if_pos hc822])
          exact ⟨(by rw [← hv]), N0, rfl⟩
      · skip
        obtain ⟨fs, hr, hrun, hended, hW, hsame⟩ := X0.leave (v := some (.long (1 : Int64))) (fun h => by rw [Bd.returns] at h; cases h)
        refine ⟨_, _, pre823 _ ?_, hrun, hended, _, _, rfl, ?_, ⟨_, rfl⟩, hW, hsame.mono (by decide) (by decide)⟩
        · skip
          show Steps p.tables e below (s₁.setTop (mkF m 20 #[.val (.long q0), .second, .val (.long q1), .second, .val (.long q2), .second] [(.int (lcmpW q0 (q2 - q1)))])) _
          refine XS.ifNo X0.here hx rfl (hb hby d12_20) rfl ((if0 _ _).trans (flt (mt (own_gt q0 (q2 - q1)).mp hc822)).2.2.1) ?_
          show Steps p.tables e below (s₁.setTop (mkF m 23 #[.val (.long q0), .second, .val (.long q1), .second, .val (.long q2), .second] [])) _
          refine XS.lconst X0.here hx rfl (hb hby d12_23) ?_
          show Steps p.tables e below (s₁.setTop (mkF m 24 #[.val (.long q0), .second, .val (.long q1), .second, .val (.long q2), .second] [(.long (1 : Int64))])) _
          exact retOut X0 hx Bd.returns rfl (Or.inr (Or.inl ⟨rfl, rfl, _, rfl⟩)) (hb hby d12_24) hr
        · show Q12 Z q0 q1 q2 h0 n0 _ s₁.heap _
          rw [e0]
          have hv : (1 : Int64) = (v12 q0 q1 q2) := by unfold v12; first | (rw [if_pos hc818, if_neg hc820, if_neg hc822]) | (simp only [if_pos hc818, if_neg hc820, if_neg hc822])
          exact ⟨(by rw [← hv]), N0, rfl⟩
  · skip
    have pre825 := fun (t : State) (k : Steps p.tables e below (s₁.setTop (mkF m 20 #[.val (.long q0), .second, .val (.long q1), .second, .val (.long q2), .second] [(.int (lcmpW q0 (q2 - q1)))])) t) => pre819 t (by
      show Steps p.tables e below (s₁.setTop (mkF m 3 #[.val (.long q0), .second, .val (.long q1), .second, .val (.long q2), .second] [(.int (lcmpW q0 (0 : Int64)))])) _
      refine XS.ifYes X0.here hx rfl (pc0 := 3) (pc' := 14) rfl (hb hby d12_3) rfl ((if0 _ _).trans (feq (mt (own_eq q0 (0 : Int64)).mp hc818)).2) (by decide) (by decide) ?_
      show Steps p.tables e below (s₁.setTop (mkF m 14 #[.val (.long q0), .second, .val (.long q1), .second, .val (.long q2), .second] [])) _
      refine XS.lloadN X0.here hx rfl (hb hby d12_14) rfl ?_
      show Steps p.tables e below (s₁.setTop (mkF m 15 #[.val (.long q0), .second, .val (.long q1), .second, .val (.long q2), .second] [(.long q0)])) _
      refine XS.lload X0.here hx rfl (hb hby d12_15) rfl ?_
      show Steps p.tables e below (s₁.setTop (mkF m 17 #[.val (.long q0), .second, .val (.long q1), .second, .val (.long q2), .second] [(.long q2), (.long q0)])) _
      refine XS.lloadN X0.here hx rfl (hb hby d12_17) rfl ?_
      show Steps p.tables e below (s₁.setTop (mkF m 18 #[.val (.long q0), .second, .val (.long q1), .second, .val (.long q2), .second] [(.long q1), (.long q2), (.long q0)])) _
      refine XS.lsub X0.here hx rfl (hb hby d12_18) rfl ?_
      show Steps p.tables e below (s₁.setTop (mkF m 19 #[.val (.long q0), .second, .val (.long q1), .second, .val (.long q2), .second] [(.long (q2 - q1)), (.long q0)])) _
      refine XS.lcmp X0.here hx rfl (hb hby d12_19) rfl ?_
      exact k)
    by_cases hc824 : (q2 - q1) < q0
    · skip
      obtain ⟨fs, hr, hrun, hended, hW, hsame⟩ := X0.leave (v := some (.long (2 : Int64))) (fun h => by rw [Bd.returns] at h; cases h)
      refine ⟨_, _, pre825 _ ?_, hrun, hended, _, _, rfl, ?_, ⟨_, rfl⟩, hW, hsame.mono (by decide) (by decide)⟩
      · skip
        show Steps p.tables e below (s₁.setTop (mkF m 20 #[.val (.long q0), .second, .val (.long q1), .second, .val (.long q2), .second] [(.int (lcmpW q0 (q2 - q1)))])) _
        refine XS.ifYes X0.here hx rfl (pc0 := 20) (pc' := 25) rfl (hb hby d12_20) rfl ((if0 _ _).trans (tlt ((own_gt q0 (q2 - q1)).mpr hc824)).2.2.1) (by decide) (by decide) ?_
        show Steps p.tables e below (s₁.setTop (mkF m 25 #[.val (.long q0), .second, .val (.long q1), .second, .val (.long q2), .second] [])) _
        refine X0.ldc2Long hx hown (mvT hZ (hw _ (List.mem_of_getElem? (i := 81) rfl))) (g := (mkF m 25 #[.val (.long q0), .second, .val (.long q1), .second, .val (.long q2), .second] [])) rfl (hb hby d12_25) _ ?_
        show Steps p.tables e below (s₁.setTop (mkF m 28 #[.val (.long q0), .second, .val (.long q1), .second, .val (.long q2), .second] [(.long (2 : Int64))])) _
        exact retOut X0 hx Bd.returns rfl (Or.inr (Or.inl ⟨rfl, rfl, _, rfl⟩)) (hb hby d12_28) hr
      · show Q12 Z q0 q1 q2 h0 n0 _ s₁.heap _
        rw [e0]
        have hv : (2 : Int64) = (v12 q0 q1 q2) := by unfold v12; first | (rw [if_neg hc818, if_pos hc824]) | (simp only [if_neg hc818, if_pos hc824])
        exact ⟨(by rw [← hv]), N0, rfl⟩
    · skip
      obtain ⟨fs, hr, hrun, hended, hW, hsame⟩ := X0.leave (v := some (.long (1 : Int64))) (fun h => by rw [Bd.returns] at h; cases h)
      refine ⟨_, _, pre825 _ ?_, hrun, hended, _, _, rfl, ?_, ⟨_, rfl⟩, hW, hsame.mono (by decide) (by decide)⟩
      · skip
        show Steps p.tables e below (s₁.setTop (mkF m 20 #[.val (.long q0), .second, .val (.long q1), .second, .val (.long q2), .second] [(.int (lcmpW q0 (q2 - q1)))])) _
        refine XS.ifNo X0.here hx rfl (hb hby d12_20) rfl ((if0 _ _).trans (flt (mt (own_gt q0 (q2 - q1)).mp hc824)).2.2.1) ?_
        show Steps p.tables e below (s₁.setTop (mkF m 23 #[.val (.long q0), .second, .val (.long q1), .second, .val (.long q2), .second] [])) _
        refine XS.lconst X0.here hx rfl (hb hby d12_23) ?_
        show Steps p.tables e below (s₁.setTop (mkF m 24 #[.val (.long q0), .second, .val (.long q1), .second, .val (.long q2), .second] [(.long (1 : Int64))])) _
        exact retOut X0 hx Bd.returns rfl (Or.inr (Or.inl ⟨rfl, rfl, _, rfl⟩)) (hb hby d12_24) hr
      · show Q12 Z q0 q1 q2 h0 n0 _ s₁.heap _
        rw [e0]
        have hv : (1 : Int64) = (v12 q0 q1 q2) := by unfold v12; first | (rw [if_neg hc818, if_neg hc824]) | (simp only [if_neg hc818, if_neg hc824])
        exact ⟨(by rw [← hv]), N0, rfl⟩
theorem own_and (x : Int64) : (x &&& (9223372036854775807 : Int64)).toInt = x.toInt % 2 ^ 63 := Jvm.Kit.i64_mask x 9223372036854775807 (k := 63) (by decide) (by decide)
theorem own_add (c w r s : Int64) (C W R S : Int) (hc : c.toInt = C) (hw : w.toInt = W) (hr : r.toInt = R) (hs : s.toInt = S) (h1 : 1 ≤ C) (h2 : 0 ≤ R) (h3 : R < C) (h4 : 0 ≤ S) (h5 : S ≤ C) (h6 : 0 ≤ W) (h7 : W ≤ 10) :
    (j7_2_0 c w r s).toInt = (if S < C - R then W else W + 1) ∧ (j7_2_1 c r s).toInt = (if S < C - R then R + S else S - (C - R)) := by
  have lc := c.toInt_lt
  have o : (1 : Int64).toInt = 1 := rfl
  have e1 : (c - r).toInt = C - R := by rw [Jvm.Kit.i64_sub] <;> rw [hc, hr] <;> omega
  have e2 : (w + (1 : Int64)).toInt = W + 1 := by rw [Jvm.Kit.i64_add] <;> rw [hw, o] <;> omega
  have e4 : (s - (c - r)).toInt = S - (C - R) := by rw [Jvm.Kit.i64_sub] <;> rw [hs, e1] <;> omega
  unfold j7_2_0 j7_2_1
  by_cases h : s < c - r
  · have h' : S < C - R := by rw [Int64.lt_iff_toInt_lt, hs, e1] at h; exact h
    have e3 : (r + s).toInt = R + S := by rw [Jvm.Kit.i64_add] <;> rw [hr, hs] <;> omega
    rw [if_pos h, if_pos h, if_pos h', if_pos h']; exact ⟨hw, e3⟩
  · have h' : ¬ S < C - R := by rw [Int64.lt_iff_toInt_lt, hs, e1] at h; exact h
    rw [if_neg h, if_neg h, if_neg h', if_neg h']; exact ⟨e2, e4⟩
theorem own_rem (c w r s : Int64) (C W R S : Int) (hc : c.toInt = C) (hw : w.toInt = W) (hr : r.toInt = R) (hs : s.toInt = S) (h1 : 1 ≤ C) (h2 : 0 ≤ R) (h3 : R < C) (h4 : 0 ≤ S) (h5 : S ≤ C) (h6 : 0 ≤ W) (h7 : W ≤ 10) :
    (j13_2_0 w r s).toInt = (if R < S then W - 1 else W) ∧ (j13_2_1 c r s).toInt = (if R < S then R + (C - S) else R - S) := by
  have lc := c.toInt_lt
  have o : (1 : Int64).toInt = 1 := rfl
  have e1 : (c - s).toInt = C - S := by rw [Jvm.Kit.i64_sub] <;> rw [hc, hs] <;> omega
  have e2 : (w - (1 : Int64)).toInt = W - 1 := by rw [Jvm.Kit.i64_sub] <;> rw [hw, o] <;> omega
  have e4 : (r - s).toInt = R - S := by rw [Jvm.Kit.i64_sub] <;> rw [hr, hs] <;> omega
  unfold j13_2_0 j13_2_1
  by_cases h : r < s
  · have h' : R < S := by rw [Int64.lt_iff_toInt_lt, hs, hr] at h; exact h
    have e3 : (r + (c - s)).toInt = R + (C - S) := by rw [Jvm.Kit.i64_add] <;> rw [hr, e1] <;> omega
    rw [if_pos h, if_pos h, if_pos h', if_pos h']; exact ⟨e2, e3⟩
  · have h' : ¬ R < S := by rw [Int64.lt_iff_toInt_lt, hs, hr] at h; exact h
    rw [if_neg h, if_neg h, if_neg h', if_neg h']; exact ⟨hw, e4⟩
/-- behind two adds -/
theorem own_two (c a b : Int64) (h1 : 1 ≤ c.toInt) (ha : 0 ≤ a.toInt) (ha' : a.toInt ≤ c.toInt) (hb : 0 ≤ b.toInt) (hb' : b.toInt ≤ c.toInt) :
    ∃ W R : Int, ((j7_2_0 c (j7_2_0 c (0 : Int64) (0 : Int64) a) (j7_2_1 c (0 : Int64) a) b)).toInt = W ∧ ((j7_2_1 c (j7_2_1 c (0 : Int64) a) b)).toInt = R ∧ 0 ≤ R ∧ R < c.toInt ∧ 0 ≤ W ∧ W ≤ 2 ∧ ((W = 0 ∧ R = a.toInt + b.toInt) ∨ (W = 1 ∧ R = a.toInt + b.toInt - c.toInt) ∨ (W = 2 ∧ R = a.toInt + b.toInt - c.toInt - c.toInt)) := by
  obtain ⟨w1, r1⟩ := own_add c 0 0 a c.toInt 0 0 a.toInt rfl rfl rfl rfl h1 (by omega) (by omega) ha ha' (by omega) (by omega)
  by_cases h : a.toInt < c.toInt
  · rw [if_pos (by omega)] at w1 r1
    obtain ⟨w2, r2⟩ := own_add c _ _ b c.toInt 0 (0 + a.toInt) b.toInt rfl w1 r1 rfl h1 (by omega) (by omega) hb hb' (by omega) (by omega)
    refine ⟨_, _, w2, r2, ?_⟩
    split <;> omega
  · rw [if_neg (by omega)] at w1 r1
    obtain ⟨w2, r2⟩ := own_add c _ _ b c.toInt (0 + 1) (a.toInt - (c.toInt - 0)) b.toInt rfl w1 r1 rfl h1 (by omega) (by omega) hb hb' (by omega) (by omega)
    refine ⟨_, _, w2, r2, ?_⟩
    split <;> omega
theorem own_rmok (c a b : Int64) (h1 : 1 ≤ c.toInt) (ha : 0 ≤ a.toInt) (ha' : a.toInt ≤ c.toInt) (hb : 0 ≤ b.toInt) (hb' : b.toInt ≤ c.toInt) : (j7_2_1 c (j7_2_1 c (0 : Int64) a) b) < a → ¬ (j7_2_0 c (j7_2_0 c (0 : Int64) (0 : Int64) a) (j7_2_1 c (0 : Int64) a) b) = (0 : Int64) := by
  obtain ⟨W, R, hW, hR, a1, a2, a3, a4, a5⟩ := own_two c a b h1 ha ha' hb hb'
  intro h q
  rw [Int64.lt_iff_toInt_lt, hR] at h
  rw [← Int64.toInt_inj, hW, show (0 : Int64).toInt = 0 from rfl] at q
  omega
theorem own_t (r : Int64) : ((j10_2_0 r).toInt64).toInt = if 0 < r.toInt then 1 else 0 := by
  unfold j10_2_0
  by_cases h : (0 : Int64) < r
  · rw [if_pos h]; rw [Int64.lt_iff_toInt_lt, show (0 : Int64).toInt = 0 from rfl] at h; rw [if_pos h]; rfl
  · rw [if_neg h]; rw [Int64.lt_iff_toInt_lt, show (0 : Int64).toInt = 0 from rfl] at h; rw [if_neg h]; rfl
theorem own_d1 (c a b : Int64) (h1 : 1 ≤ c.toInt) (ha : 0 ≤ a.toInt) (ha' : a.toInt ≤ c.toInt) (hb : 0 ≤ b.toInt) (hb' : b.toInt ≤ c.toInt) :
    (j7_2_0 c (j7_2_0 c (0 : Int64) (0 : Int64) a) (j7_2_1 c (0 : Int64) a) b) + (j10_2_0 (j7_2_1 c (j7_2_1 c (0 : Int64) a) b)).toInt64 = v12 a b c ∧ 0 ≤ (v12 a b c).toInt := by
  obtain ⟨W, R, hW, hR, a1, a2, a3, a4, a5⟩ := own_two c a b h1 ha ha' hb hb'
  have et := own_t (j7_2_1 c (j7_2_1 c (0 : Int64) a) b)
  rw [hR] at et
  have ev : (v12 a b c).toInt = if a.toInt = 0 ∧ b.toInt = 0 then 0 else if c.toInt - b.toInt < a.toInt then 2 else 1 := by
    have e1 : (c - b).toInt = c.toInt - b.toInt := by have := c.toInt_lt; rw [Jvm.Kit.i64_sub] <;> omega
    have z : (0 : Int64).toInt = 0 := rfl
    unfold v12
    simp only [← Int64.toInt_inj, Int64.lt_iff_toInt_lt, e1, z]
    repeat' split
    all_goals first | rfl | omega
  have es : ((j7_2_0 c (j7_2_0 c (0 : Int64) (0 : Int64) a) (j7_2_1 c (0 : Int64) a) b) + (j10_2_0 (j7_2_1 c (j7_2_1 c (0 : Int64) a) b)).toInt64).toInt = W + (if 0 < R then 1 else 0) := by
    rw [Jvm.Kit.i64_add] <;> rw [hW, et] <;> split <;> omega
  refine ⟨?_, ?_⟩
  · rw [← Int64.toInt_inj, es, ev]
    repeat' split
    all_goals omega
  · rw [ev]; repeat' split
    all_goals omega
theorem own_d2 (c a b : Int64) (h1 : 1 ≤ c.toInt) (ha : 0 ≤ a.toInt) (ha' : a.toInt ≤ c.toInt) (hb : 0 ≤ b.toInt) (hb' : b.toInt ≤ c.toInt) :
    j13_2_0 (j7_2_0 c (j7_2_0 c (0 : Int64) (0 : Int64) a) (j7_2_1 c (0 : Int64) a) b) (j7_2_1 c (j7_2_1 c (0 : Int64) a) b) a + (j10_2_0 (j13_2_1 c (j7_2_1 c (j7_2_1 c (0 : Int64) a) b) a)).toInt64 = (if (0 : Int64) < b then (1 : Int64) else (0 : Int64)) := by
  obtain ⟨W, R, hW, hR, a1, a2, a3, a4, a5⟩ := own_two c a b h1 ha ha' hb hb'
  obtain ⟨w3, r3⟩ := own_rem c _ _ a c.toInt W R a.toInt rfl hW hR rfl h1 a1 a2 ha ha' a3 (by omega)
  have et := own_t (j13_2_1 c (j7_2_1 c (j7_2_1 c (0 : Int64) a) b) a)
  rw [r3] at et
  have es : (j13_2_0 (j7_2_0 c (j7_2_0 c (0 : Int64) (0 : Int64) a) (j7_2_1 c (0 : Int64) a) b) (j7_2_1 c (j7_2_1 c (0 : Int64) a) b) a + (j10_2_0 (j13_2_1 c (j7_2_1 c (j7_2_1 c (0 : Int64) a) b) a)).toInt64).toInt = (if R < a.toInt then W - 1 else W) + (if 0 < (if R < a.toInt then R + (c.toInt - a.toInt) else R - a.toInt) then 1 else 0) := by
    rw [Jvm.Kit.i64_add] <;> rw [w3, et] <;> (repeat' split) <;> omega
  have z : (0 : Int64).toInt = 0 := rfl
  have o : (1 : Int64).toInt = 1 := rfl
  by_cases h : (0 : Int64) < b
  · rw [if_pos h, ← Int64.toInt_inj, es, o]
    rw [Int64.lt_iff_toInt_lt, z] at h
    repeat' split
    all_goals omega
  · rw [if_neg h, ← Int64.toInt_inj, es, z]
    rw [Int64.lt_iff_toInt_lt, z] at h
    repeat' split
    all_goals omega
theorem own_mx0 (x : Int64) (h : 0 ≤ x.toInt) : j11_0 (0 : Int64) x = x := by
  unfold j11_0
  by_cases q : (0 : Int64) < x
  · rw [if_pos q]
  · rw [if_neg q]
    rw [Int64.lt_iff_toInt_lt, show (0 : Int64).toInt = 0 from rfl] at q
    rw [← Int64.toInt_inj, show (0 : Int64).toInt = 0 from rfl]; omega
theorem own_cap (x : Int64) : 1 ≤ (j1_0 x).toInt := by
  have e := own_and x
  unfold j1_0
  by_cases h : (x &&& (9223372036854775807 : Int64)) = (0 : Int64)
  · rw [if_pos h]; decide
  · rw [if_neg h]
    rw [← Int64.toInt_inj, e, show (0 : Int64).toInt = 0 from rfl] at h
    omega
theorem own_siz (y c : Int64) (h : 1 ≤ c.toInt) : 0 ≤ (v2 y c).toInt ∧ (v2 y c).toInt ≤ c.toInt := by
  have lc := c.toInt_lt
  have e := own_and y
  have o : (1 : Int64).toInt = 1 := rfl
  have m : (9223372036854775807 : Int64).toInt = 9223372036854775807 := rfl
  unfold v2
  by_cases q : c = (9223372036854775807 : Int64)
  · rw [if_pos q, e, q, m]; omega
  · rw [if_neg q]
    rw [← Int64.toInt_inj, m] at q
    have e1 : (c + (1 : Int64)).toInt = c.toInt + 1 := by rw [Jvm.Kit.i64_add] <;> rw [o] <;> omega
    rw [Jvm.Kit.i64_rem_nonneg (by omega), e1]
    exact ⟨Int.emod_nonneg _ (by omega), by have := Int.emod_lt_of_pos (y &&& (9223372036854775807 : Int64)).toInt (show 0 < c.toInt + 1 by omega); omega⟩
theorem own_p1 (c : Int64) (h : 1 ≤ c.toInt) : ¬ c < (1 : Int64) := by rw [Int64.lt_iff_toInt_lt, show (1 : Int64).toInt = 1 from rfl]; omega
theorem own_p0 (s : Int64) (h : 0 ≤ s.toInt) : ¬ s < (0 : Int64) := by rw [Int64.lt_iff_toInt_lt, show (0 : Int64).toInt = 0 from rfl]; omega
theorem own_pc (c s : Int64) (h : s.toInt ≤ c.toInt) : ¬ c < s := by rw [Int64.lt_iff_toInt_lt]; omega
theorem pd_9 : parseMethodDescriptor "(J)J" = some ⟨[.long], some .long⟩ := by decide +kernel
theorem pd_10 : parseMethodDescriptor "()J" = some ⟨[], some .long⟩ := by decide +kernel
theorem pd_11 : parseMethodDescriptor "(JJJ)J" = some ⟨[.long, .long, .long], some .long⟩ := by decide +kernel
def j0_0 (q0 : Int64) (q4 : Int64) : Int64 := (if (0 : Int64) < (v2 q4 (j1_0 q0)) then (1 : Int64) else (0 : Int64))
def j0_1 (q1 : Int64) (q5 : Int64) : Int64 := (if (0 : Int64) < (v2 q5 (j1_0 q1)) then (1 : Int64) else (0 : Int64))
def j0_2 (q0 : Int64) (q1 : Int64) (q2 : Int64) (q3 : Int64) (q4 : Int64) (q5 : Int64) : Int32 := (if (j11_0 (j11_0 (0 : Int64) ((j7_2_0 (j1_0 q0) (j7_2_0 (j1_0 q0) (0 : Int64) (0 : Int64) (v2 q2 (j1_0 q0))) (j7_2_1 (j1_0 q0) (0 : Int64) (v2 q2 (j1_0 q0))) (v2 q4 (j1_0 q0))) + ((j10_2_0 (j7_2_1 (j1_0 q0) (j7_2_1 (j1_0 q0) (0 : Int64) (v2 q2 (j1_0 q0))) (v2 q4 (j1_0 q0)))).toInt64))) ((j7_2_2 (j1_0 q1) (j7_2_2 (j1_0 q1) (0 : Int64) (0 : Int64) (v2 q3 (j1_0 q1))) (j7_2_3 (j1_0 q1) (0 : Int64) (v2 q3 (j1_0 q1))) (v2 q5 (j1_0 q1))) + ((j10_2_1 (j7_2_3 (j1_0 q1) (j7_2_3 (j1_0 q1) (0 : Int64) (v2 q3 (j1_0 q1))) (v2 q5 (j1_0 q1)))).toInt64))) = (j11_0 (v12 (v2 q2 (j1_0 q0)) (v2 q4 (j1_0 q0)) (j1_0 q0)) (v12 (v2 q3 (j1_0 q1)) (v2 q5 (j1_0 q1)) (j1_0 q1))) then (if (j11_0 (j11_0 (0 : Int64) ((j13_2_0 (j7_2_0 (j1_0 q0) (j7_2_0 (j1_0 q0) (0 : Int64) (0 : Int64) (v2 q2 (j1_0 q0))) (j7_2_1 (j1_0 q0) (0 : Int64) (v2 q2 (j1_0 q0))) (v2 q4 (j1_0 q0))) (j7_2_1 (j1_0 q0) (j7_2_1 (j1_0 q0) (0 : Int64) (v2 q2 (j1_0 q0))) (v2 q4 (j1_0 q0))) (v2 q2 (j1_0 q0))) + ((j10_2_0 (j13_2_1 (j1_0 q0) (j7_2_1 (j1_0 q0) (j7_2_1 (j1_0 q0) (0 : Int64) (v2 q2 (j1_0 q0))) (v2 q4 (j1_0 q0))) (v2 q2 (j1_0 q0)))).toInt64))) ((j13_2_2 (j7_2_2 (j1_0 q1) (j7_2_2 (j1_0 q1) (0 : Int64) (0 : Int64) (v2 q3 (j1_0 q1))) (j7_2_3 (j1_0 q1) (0 : Int64) (v2 q3 (j1_0 q1))) (v2 q5 (j1_0 q1))) (j7_2_3 (j1_0 q1) (j7_2_3 (j1_0 q1) (0 : Int64) (v2 q3 (j1_0 q1))) (v2 q5 (j1_0 q1))) (v2 q3 (j1_0 q1))) + ((j10_2_1 (j13_2_3 (j1_0 q1) (j7_2_3 (j1_0 q1) (j7_2_3 (j1_0 q1) (0 : Int64) (v2 q3 (j1_0 q1))) (v2 q5 (j1_0 q1))) (v2 q3 (j1_0 q1)))).toInt64))) = (j11_0 (j0_0 q0 q4) (j0_1 q1 q5)) then (1 : Int32) else (0 : Int32)) else (0 : Int32))
theorem ef0 (m : MethodId) (x0 : Int64) (x1 : Int64) (x2 : Int64) (x3 : Int64) (x4 : Int64) (x5 : Int64) : entryFrame m #[(.long x0), (.long x1), (.long x2), (.long x3), (.long x4), (.long x5)] maxLocals = mkF m 0 #[.val (.long x0), .second, .val (.long x1), .second, .val (.long x2), .second, .val (.long x3), .second, .val (.long x4), .second, .val (.long x5), .second, .unset, .unset, .unset, .unset, .unset, .unset, .unset, .unset, .unset, .unset, .unset, .unset, .unset, .unset, .unset, .unset, .unset, .unset, .unset, .unset, .unset, .unset, .unset, .unset] [] := by first | (simp [entryFrame, mkF, argsToLocals, Value.category, maxLocals]; done) | rfl
def Q0 (Z : State) (q0 : Int64) (q1 : Int64) (q2 : Int64) (q3 : Int64) (q4 : Int64) (q5 : Int64) (h0 : Heap) (n0 : Nat) (v : Option Value) (h : Heap) (L : List Loc) : Prop := v = some (.int (nar .boolean (j0_2 q0 q1 q2 q3 q4 q5))) ∧ Fr n0 L
set_option maxRecDepth 65536 in
set_option maxHeartbeats 40000000 in
theorem rm0 (l : Launch) (Z : State) (aw : Array Value) (hw : ∀ d ∈ tables_1, d.before aw Z = true) (ws : List Jvm.Cond) (q0 : Int64) (q1 : Int64) (q2 : Int64) (q3 : Int64) (q4 : Int64) (q5 : Int64) (h0 : Heap) (n0 : Nat) (Z0 : n0 ≤ h0.size)  :
    MetFree l x (head1 (Jvm.Cond.code x code maxLocals ret :: ws) room_1) (fun a U => a = #[(.long q0), (.long q1), (.long q2), (.long q3), (.long q4), (.long q5)] ∧ Z.Warmed39 U.vm ∧ U.heap = h0) (fun _ _ _ _ _ => True) (fun _ U o U' => ∃ v L, o = .returned v ∧ Q0 Z q0 q1 q2 q3 q4 q5 h0 n0 v U'.heap L ∧ ReturnedEndW U o U' L room_1.cells room_1.slots) := by
  refine MetFree.of_bodySF (plainFor_of_name pn_4) hisR ?_
  intro p e s m args below meth c s₁ Bd hml0 hP hK
  obtain ⟨rfl, hZ, hh⟩ := hP
  have hx := Bd.exec
  have hby := Bd.bytes
  have hml : c.maxLocals = 36 := hml0
  have hown : s.vm.findClass "com/example/stowline/stowline/VolumeBoundValuePinLaw" = some m.cls := findClass_of_methodNamed Bd.named
  have hnm := (name_of_methodNamed Bd.named Bd.method).1
  have X0 : Stand p l e room_1 (s.setVm s.vm) m #[(.long q0), (.long q1), (.long q2), (.long q3), (.long q4), (.long q5)] below meth c s₁ [] 0 0 := Stand.of_body Bd
  have e0 : s₁.heap = h0 := by rw [← hh, Bd.state]; rfl
  have N0 := Fr.nil n0
  have hS : s.Since s.vm 0 := (State.WarmedH.refl s).since 0
  have hk : 0 ≤ h0.size := Nat.zero_le _
  have hstr : ∀ a ∈ Bundle.stringAtoms, a.before aw Z = true := fun d hd => hw d ((by decide +kernel : ∀ d ∈ Bundle.stringAtoms, d ∈ tables_1) d hd)
  have pre0 : ∀ t, Steps p.tables e below (s₁.setTop (mkF m 0 #[.val (.long q0), .second, .val (.long q1), .second, .val (.long q2), .second, .val (.long q3), .second, .val (.long q4), .second, .val (.long q5), .second, .unset, .unset, .unset, .unset, .unset, .unset, .unset, .unset, .unset, .unset, .unset, .unset, .unset, .unset, .unset, .unset, .unset, .unset, .unset, .unset, .unset, .unset, .unset, .unset] [])) t → Steps p.tables e below (s₁.setTop (entryFrame m #[(.long q0), (.long q1), (.long q2), (.long q3), (.long q4), (.long q5)] maxLocals)) t := fun t k => castTop (ef0 m q0 q1 q2 q3 q4 q5) k
  obtain ⟨_, _, ⟨T826, L826, k826, n826⟩, -, X826, ⟨Lc826, hQ826, l826, y826, z826⟩, st826⟩ := Jvm.LawKit.callS X0 hx (y := (⟨"com/example/stowline/stowline/VolumeBoundValuePinLaw", "cap", "(J)J"⟩ : MethodName)) hown (mvT hZ (hw _ (List.mem_of_getElem? (i := 0) rfl))) (mvT hZ (hw _ (List.mem_of_getElem? (i := 1) rfl))) (mvT hZ (hw _ (List.mem_of_getElem? (i := 2) rfl))) (mvT hZ (hw _ (List.mem_of_getElem? (i := 3) rfl))) (by decide) (backOf (W := 0) (rm1 l Z aw hw [] q0 h0 n0 Z0 ) hZ (hw _ (List.mem_of_getElem? (i := 3) rfl)) (hw _ (List.mem_of_getElem? (i := 2) rfl)) (by decide) (by decide)) (g := (mkF m 1 #[.val (.long q0), .second, .val (.long q1), .second, .val (.long q2), .second, .val (.long q3), .second, .val (.long q4), .second, .val (.long q5), .second, .unset, .unset, .unset, .unset, .unset, .unset, .unset, .unset, .unset, .unset, .unset, .unset, .unset, .unset, .unset, .unset, .unset, .unset, .unset, .unset, .unset, .unset, .unset, .unset] [(.long q0)])) rfl (by rw [hml]; rfl) (argsL := [(.long q0)]) (rest := []) (lenOf pd_9 rfl) rfl (by show 2 * 0 + _ ≤ _; exact Nat.le_of_eq rfl) (hb hby at_1) (fun _ _ => ⟨rfl, e0, (by decide : 0 + 0 ≤ _), (by decide : 0 + 0 ≤ _)⟩)
  dsimp only [Pt.U, Pt.locs, Pt.cells, Pt.slots] at X826 l826 y826 z826 st826 hQ826
  subst l826 y826 z826
  obtain ⟨rfl, N826q, e826⟩ := hQ826
  have N826 := Fr.app N0 N826q
  obtain ⟨_, _, ⟨T827, L827, k827, n827⟩, -, X827, ⟨Lc827, hQ827, l827, y827, z827⟩, st827⟩ := Jvm.LawKit.callS X826 hx (y := (⟨"com/example/stowline/stowline/VolumeBoundValuePinLaw", "cap", "(J)J"⟩ : MethodName)) hown (mvT hZ (hw _ (List.mem_of_getElem? (i := 0) rfl))) (mvT hZ (hw _ (List.mem_of_getElem? (i := 1) rfl))) (mvT hZ (hw _ (List.mem_of_getElem? (i := 2) rfl))) (mvT hZ (hw _ (List.mem_of_getElem? (i := 3) rfl))) (by decide) (backOf (W := 0) (rm1 l Z aw hw [] q1 h0 n0 Z0 ) hZ (hw _ (List.mem_of_getElem? (i := 3) rfl)) (hw _ (List.mem_of_getElem? (i := 2) rfl)) (by decide) (by decide)) (g := (mkF m 7 #[.val (.long q0), .second, .val (.long q1), .second, .val (.long q2), .second, .val (.long q3), .second, .val (.long q4), .second, .val (.long q5), .second, .val (.long (j1_0 q0)), .second, .unset, .unset, .unset, .unset, .unset, .unset, .unset, .unset, .unset, .unset, .unset, .unset, .unset, .unset, .unset, .unset, .unset, .unset, .unset, .unset, .unset, .unset] [(.long q1)])) rfl (by rw [hml]; rfl) (argsL := [(.long q1)]) (rest := []) (lenOf pd_9 rfl) rfl (by show 2 * 0 + _ ≤ _; exact Nat.le_of_eq rfl) (hb hby at_7) (fun _ _ => ⟨rfl, e826, (by decide : 0 + 0 ≤ _), (by decide : 0 + 0 ≤ _)⟩)
  dsimp only [Pt.U, Pt.locs, Pt.cells, Pt.slots] at X827 l827 y827 z827 st827 hQ827
  subst l827 y827 z827
  obtain ⟨rfl, N827q, e827⟩ := hQ827
  have N827 := Fr.app N826 N827q
  obtain ⟨_, _, ⟨T828, L828, k828, n828⟩, -, X828, ⟨Lc828, hQ828, l828, y828, z828⟩, st828⟩ := Jvm.LawKit.callS X827 hx (y := (⟨"com/example/stowline/stowline/VolumeBoundValuePinLaw", "size", "(JJ)J"⟩ : MethodName)) hown (mvT hZ (hw _ (List.mem_of_getElem? (i := 5) rfl))) (mvT hZ (hw _ (List.mem_of_getElem? (i := 6) rfl))) (mvT hZ (hw _ (List.mem_of_getElem? (i := 2) rfl))) (mvT hZ (hw _ (List.mem_of_getElem? (i := 7) rfl))) (by decide) (backOf (W := 0) (rm2 l Z aw hw [] q2 ((j1_0 q0)) h0 n0 Z0 (own_p1 _ (own_cap q0))) hZ (hw _ (List.mem_of_getElem? (i := 7) rfl)) (hw _ (List.mem_of_getElem? (i := 2) rfl)) (by decide) (by decide)) (g := (mkF m 16 #[.val (.long q0), .second, .val (.long q1), .second, .val (.long q2), .second, .val (.long q3), .second, .val (.long q4), .second, .val (.long q5), .second, .val (.long (j1_0 q0)), .second, .val (.long (j1_0 q1)), .second, .unset, .unset, .unset, .unset, .unset, .unset, .unset, .unset, .unset, .unset, .unset, .unset, .unset, .unset, .unset, .unset, .unset, .unset, .unset, .unset] [(.long (j1_0 q0)), (.long q2)])) rfl (by rw [hml]; rfl) (argsL := [(.long q2), (.long (j1_0 q0))]) (rest := []) (lenOf pd_7 rfl) rfl (by show 2 * 0 + _ ≤ _; exact Nat.le_of_eq rfl) (hb hby at_16) (fun _ _ => ⟨rfl, e827, (by decide : 0 + 0 ≤ _), (by decide : 0 + 0 ≤ _)⟩)
  dsimp only [Pt.U, Pt.locs, Pt.cells, Pt.slots] at X828 l828 y828 z828 st828 hQ828
  subst l828 y828 z828
  obtain ⟨rfl, N828q, e828⟩ := hQ828
  have N828 := Fr.app N827 N828q
  obtain ⟨_, _, ⟨T829, L829, k829, n829⟩, -, X829, ⟨Lc829, hQ829, l829, y829, z829⟩, st829⟩ := Jvm.LawKit.callS X828 hx (y := (⟨"com/example/stowline/stowline/VolumeBoundValuePinLaw", "size", "(JJ)J"⟩ : MethodName)) hown (mvT hZ (hw _ (List.mem_of_getElem? (i := 5) rfl))) (mvT hZ (hw _ (List.mem_of_getElem? (i := 6) rfl))) (mvT hZ (hw _ (List.mem_of_getElem? (i := 2) rfl))) (mvT hZ (hw _ (List.mem_of_getElem? (i := 7) rfl))) (by decide) (backOf (W := 0) (rm2 l Z aw hw [] q3 ((j1_0 q1)) h0 n0 Z0 (own_p1 _ (own_cap q1))) hZ (hw _ (List.mem_of_getElem? (i := 7) rfl)) (hw _ (List.mem_of_getElem? (i := 2) rfl)) (by decide) (by decide)) (g := (mkF m 25 #[.val (.long q0), .second, .val (.long q1), .second, .val (.long q2), .second, .val (.long q3), .second, .val (.long q4), .second, .val (.long q5), .second, .val (.long (j1_0 q0)), .second, .val (.long (j1_0 q1)), .second, .val (.long (v2 q2 (j1_0 q0))), .second, .unset, .unset, .unset, .unset, .unset, .unset, .unset, .unset, .unset, .unset, .unset, .unset, .unset, .unset, .unset, .unset, .unset, .unset] [(.long (j1_0 q1)), (.long q3)])) rfl (by rw [hml]; rfl) (argsL := [(.long q3), (.long (j1_0 q1))]) (rest := []) (lenOf pd_7 rfl) rfl (by show 2 * 0 + _ ≤ _; exact Nat.le_of_eq rfl) (hb hby at_25) (fun _ _ => ⟨rfl, e828, (by decide : 0 + 0 ≤ _), (by decide : 0 + 0 ≤ _)⟩)
  dsimp only [Pt.U, Pt.locs, Pt.cells, Pt.slots] at X829 l829 y829 z829 st829 hQ829
  subst l829 y829 z829
  obtain ⟨rfl, N829q, e829⟩ := hQ829
  have N829 := Fr.app N828 N829q
  obtain ⟨_, _, ⟨T830, L830, k830, n830⟩, -, X830, ⟨Lc830, hQ830, l830, y830, z830⟩, st830⟩ := Jvm.LawKit.callS X829 hx (y := (⟨"com/example/stowline/stowline/VolumeBoundValuePinLaw", "size", "(JJ)J"⟩ : MethodName)) hown (mvT hZ (hw _ (List.mem_of_getElem? (i := 5) rfl))) (mvT hZ (hw _ (List.mem_of_getElem? (i := 6) rfl))) (mvT hZ (hw _ (List.mem_of_getElem? (i := 2) rfl))) (mvT hZ (hw _ (List.mem_of_getElem? (i := 7) rfl))) (by decide) (backOf (W := 0) (rm2 l Z aw hw [] q4 ((j1_0 q0)) h0 n0 Z0 (own_p1 _ (own_cap q0))) hZ (hw _ (List.mem_of_getElem? (i := 7) rfl)) (hw _ (List.mem_of_getElem? (i := 2) rfl)) (by decide) (by decide)) (g := (mkF m 34 #[.val (.long q0), .second, .val (.long q1), .second, .val (.long q2), .second, .val (.long q3), .second, .val (.long q4), .second, .val (.long q5), .second, .val (.long (j1_0 q0)), .second, .val (.long (j1_0 q1)), .second, .val (.long (v2 q2 (j1_0 q0))), .second, .val (.long (v2 q3 (j1_0 q1))), .second, .unset, .unset, .unset, .unset, .unset, .unset, .unset, .unset, .unset, .unset, .unset, .unset, .unset, .unset, .unset, .unset] [(.long (j1_0 q0)), (.long q4)])) rfl (by rw [hml]; rfl) (argsL := [(.long q4), (.long (j1_0 q0))]) (rest := []) (lenOf pd_7 rfl) rfl (by show 2 * 0 + _ ≤ _; exact Nat.le_of_eq rfl) (hb hby at_34) (fun _ _ => ⟨rfl, e829, (by decide : 0 + 0 ≤ _), (by decide : 0 + 0 ≤ _)⟩)
  dsimp only [Pt.U, Pt.locs, Pt.cells, Pt.slots] at X830 l830 y830 z830 st830 hQ830
  subst l830 y830 z830
  obtain ⟨rfl, N830q, e830⟩ := hQ830
  have N830 := Fr.app N829 N830q
  obtain ⟨_, _, ⟨T831, L831, k831, n831⟩, -, X831, ⟨Lc831, hQ831, l831, y831, z831⟩, st831⟩ := Jvm.LawKit.callS X830 hx (y := (⟨"com/example/stowline/stowline/VolumeBoundValuePinLaw", "size", "(JJ)J"⟩ : MethodName)) hown (mvT hZ (hw _ (List.mem_of_getElem? (i := 5) rfl))) (mvT hZ (hw _ (List.mem_of_getElem? (i := 6) rfl))) (mvT hZ (hw _ (List.mem_of_getElem? (i := 2) rfl))) (mvT hZ (hw _ (List.mem_of_getElem? (i := 7) rfl))) (by decide) (backOf (W := 0) (rm2 l Z aw hw [] q5 ((j1_0 q1)) h0 n0 Z0 (own_p1 _ (own_cap q1))) hZ (hw _ (List.mem_of_getElem? (i := 7) rfl)) (hw _ (List.mem_of_getElem? (i := 2) rfl)) (by decide) (by decide)) (g := (mkF m 43 #[.val (.long q0), .second, .val (.long q1), .second, .val (.long q2), .second, .val (.long q3), .second, .val (.long q4), .second, .val (.long q5), .second, .val (.long (j1_0 q0)), .second, .val (.long (j1_0 q1)), .second, .val (.long (v2 q2 (j1_0 q0))), .second, .val (.long (v2 q3 (j1_0 q1))), .second, .val (.long (v2 q4 (j1_0 q0))), .second, .unset, .unset, .unset, .unset, .unset, .unset, .unset, .unset, .unset, .unset, .unset, .unset, .unset, .unset] [(.long (j1_0 q1)), (.long q5)])) rfl (by rw [hml]; rfl) (argsL := [(.long q5), (.long (j1_0 q1))]) (rest := []) (lenOf pd_7 rfl) rfl (by show 2 * 0 + _ ≤ _; exact Nat.le_of_eq rfl) (hb hby at_43) (fun _ _ => ⟨rfl, e830, (by decide : 0 + 0 ≤ _), (by decide : 0 + 0 ≤ _)⟩)
  dsimp only [Pt.U, Pt.locs, Pt.cells, Pt.slots] at X831 l831 y831 z831 st831 hQ831
  subst l831 y831 z831
  obtain ⟨rfl, N831q, e831⟩ := hQ831
  have N831 := Fr.app N830 N831q
  obtain ⟨T832, h832, k832, X832, e832, E832, A832, B832, st832⟩ := newPE X831 hx hZ (hw _ (List.mem_of_getElem? (i := 8) rfl)) e831 (g := (mkF m 49 #[.val (.long q0), .second, .val (.long q1), .second, .val (.long q2), .second, .val (.long q3), .second, .val (.long q4), .second, .val (.long q5), .second, .val (.long (j1_0 q0)), .second, .val (.long (j1_0 q1)), .second, .val (.long (v2 q2 (j1_0 q0))), .second, .val (.long (v2 q3 (j1_0 q1))), .second, .val (.long (v2 q4 (j1_0 q0))), .second, .val (.long (v2 q5 (j1_0 q1))), .second, .unset, .unset, .unset, .unset, .unset, .unset, .unset, .unset, .unset, .unset, .unset, .unset] [(.int (2 : Int32))])) rfl (hb hby at_49) rfl (by decide) (cap := 2) (by decide) (by decide) (by decide) (by decide) (ad := "[J") (by decide)
  obtain ⟨b832, gg832⟩ : ∃ z, z = h0.size := ⟨_, rfl⟩
  rw [← gg832] at A832 B832 st832
  have g_b832 : n0 ≤ b832 := Nat.le_trans Z0 (Nat.le_of_eq gg832.symm)
  have Z833 := Nat.le_trans Z0 E832.1
  have hk := Nat.le_trans hk E832.1
  have V832 : Arv Z h832 b832 k832 .long (2 : Int32) [(.long (0 : Int64)), (.long (0 : Int64))] (.long (0 : Int64)) := (Arv.new A832 (by decide)).pad (pad_rep [] (.long (0 : Int64)) 2)
  obtain ⟨cl834, Ar834, q834, S834, M834, H834, G834⟩ := id V832
  have hin835 : ¬ ((0 : Int32) < 0 ∨ cl834.slots.size ≤ ((0 : Int32)).toNatClampNeg) := inb_of S834 ⟨by decide, by decide⟩
  obtain ⟨T836, h836, X836, e836, W836, st836⟩ := stJ X832 hx hZ e832 Ar834 (j := (0 : Int32)) hin835 (g := (mkF m 55 #[.val (.long q0), .second, .val (.long q1), .second, .val (.long q2), .second, .val (.long q3), .second, .val (.long q4), .second, .val (.long q5), .second, .val (.long (j1_0 q0)), .second, .val (.long (j1_0 q1)), .second, .val (.long (v2 q2 (j1_0 q0))), .second, .val (.long (v2 q3 (j1_0 q1))), .second, .val (.long (v2 q4 (j1_0 q0))), .second, .val (.long (v2 q5 (j1_0 q1))), .second, .unset, .unset, .unset, .unset, .unset, .unset, .unset, .unset, .unset, .unset, .unset, .unset] [(.long (j1_0 q0)), (.int (0 : Int32)), (.ref b832), (.ref b832)])) rfl rfl (hb hby at_55)
  have V836 : Arv Z h836 b832 k832 .long (2 : Int32) [(.long (j1_0 q0)), (.long (0 : Int64))] (.long (0 : Int64)) := Arv.set Ar834 q834 S834 M834 H834 G834 rfl W836 0 rfl (Nat.le_of_ble_eq_true rfl)
  have f837 := B832.wr W836
  have Z839 := Nat.le_trans Z833 (Keep.of_wr W836).1
  have hk := Nat.le_trans hk (Keep.of_wr W836).1
  have N840 := Fr.snoc X836 N831 g_b832
  obtain ⟨cl841, Ar841, q841, S841, M841, H841, G841⟩ := id V836
  have hin842 : ¬ ((1 : Int32) < 0 ∨ cl841.slots.size ≤ ((1 : Int32)).toNatClampNeg) := inb_of S841 ⟨by decide, by decide⟩
  obtain ⟨T843, h843, X843, e843, W843, st843⟩ := stJ X836 hx hZ e836 Ar841 (j := (1 : Int32)) hin842 (g := (mkF m 60 #[.val (.long q0), .second, .val (.long q1), .second, .val (.long q2), .second, .val (.long q3), .second, .val (.long q4), .second, .val (.long q5), .second, .val (.long (j1_0 q0)), .second, .val (.long (j1_0 q1)), .second, .val (.long (v2 q2 (j1_0 q0))), .second, .val (.long (v2 q3 (j1_0 q1))), .second, .val (.long (v2 q4 (j1_0 q0))), .second, .val (.long (v2 q5 (j1_0 q1))), .second, .unset, .unset, .unset, .unset, .unset, .unset, .unset, .unset, .unset, .unset, .unset, .unset] [(.long (j1_0 q1)), (.int (1 : Int32)), (.ref b832), (.ref b832)])) rfl rfl (hb hby at_60)
  have V843 : Arv Z h843 b832 k832 .long (2 : Int32) [(.long (j1_0 q0)), (.long (j1_0 q1))] (.long (0 : Int64)) := Arv.set Ar841 q841 S841 M841 H841 G841 rfl W843 1 rfl (Nat.le_of_ble_eq_true rfl)
  have f844 := f837.wr W843
  have Z846 := Nat.le_trans Z839 (Keep.of_wr W843).1
  have hk := Nat.le_trans hk (Keep.of_wr W843).1
  have N847 := Fr.snoc X843 N840 g_b832
  obtain ⟨T848, h848, k848, X848, e848, E848, A848, B848, st848⟩ := newPE X843 hx hZ (hw _ (List.mem_of_getElem? (i := 8) rfl)) e843 (g := (mkF m 64 #[.val (.long q0), .second, .val (.long q1), .second, .val (.long q2), .second, .val (.long q3), .second, .val (.long q4), .second, .val (.long q5), .second, .val (.long (j1_0 q0)), .second, .val (.long (j1_0 q1)), .second, .val (.long (v2 q2 (j1_0 q0))), .second, .val (.long (v2 q3 (j1_0 q1))), .second, .val (.long (v2 q4 (j1_0 q0))), .second, .val (.long (v2 q5 (j1_0 q1))), .second, .val (.ref b832), .unset, .unset, .unset, .unset, .unset, .unset, .unset, .unset, .unset, .unset, .unset] [(.int (2 : Int32))])) rfl (hb hby at_64) rfl (by decide) (cap := 2) (by decide) (by decide) (by decide) (by decide) (ad := "[J") (by decide)
  obtain ⟨b848, gg848⟩ : ∃ z, z = h843.size := ⟨_, rfl⟩
  rw [← gg848] at A848 B848 st848
  have f849 := f844.ext E848
  have f850 := V843.ext E848
  have ne851 : b832 ≠ b848 := Nat.ne_of_lt (Nat.lt_of_lt_of_le f844.lt (Nat.le_of_eq gg848.symm))
  have g_b848 : n0 ≤ b848 := Nat.le_trans Z846 (Nat.le_of_eq gg848.symm)
  have Z852 := Nat.le_trans Z846 E848.1
  have hk := Nat.le_trans hk E848.1
  have V848 : Arv Z h848 b848 k848 .long (2 : Int32) [(.long (0 : Int64)), (.long (0 : Int64))] (.long (0 : Int64)) := (Arv.new A848 (by decide)).pad (pad_rep [] (.long (0 : Int64)) 2)
  obtain ⟨cl853, Ar853, q853, S853, M853, H853, G853⟩ := id V848
  have hin854 : ¬ ((0 : Int32) < 0 ∨ cl853.slots.size ≤ ((0 : Int32)).toNatClampNeg) := inb_of S853 ⟨by decide, by decide⟩
  obtain ⟨T855, h855, X855, e855, W855, st855⟩ := stJ X848 hx hZ e848 Ar853 (j := (0 : Int32)) hin854 (g := (mkF m 70 #[.val (.long q0), .second, .val (.long q1), .second, .val (.long q2), .second, .val (.long q3), .second, .val (.long q4), .second, .val (.long q5), .second, .val (.long (j1_0 q0)), .second, .val (.long (j1_0 q1)), .second, .val (.long (v2 q2 (j1_0 q0))), .second, .val (.long (v2 q3 (j1_0 q1))), .second, .val (.long (v2 q4 (j1_0 q0))), .second, .val (.long (v2 q5 (j1_0 q1))), .second, .val (.ref b832), .unset, .unset, .unset, .unset, .unset, .unset, .unset, .unset, .unset, .unset, .unset] [(.long (v2 q2 (j1_0 q0))), (.int (0 : Int32)), (.ref b848), (.ref b848)])) rfl rfl (hb hby at_70)
  have V855 : Arv Z h855 b848 k848 .long (2 : Int32) [(.long (v2 q2 (j1_0 q0))), (.long (0 : Int64))] (.long (0 : Int64)) := Arv.set Ar853 q853 S853 M853 H853 G853 rfl W855 0 rfl (Nat.le_of_ble_eq_true rfl)
  have f856 := f849.wr W855
  have f857 := f850.other W855 ne851
  have f858 := B848.wr W855
  have Z860 := Nat.le_trans Z852 (Keep.of_wr W855).1
  have hk := Nat.le_trans hk (Keep.of_wr W855).1
  have N861 := Fr.snoc X855 N847 g_b848
  obtain ⟨cl862, Ar862, q862, S862, M862, H862, G862⟩ := id V855
  have hin863 : ¬ ((1 : Int32) < 0 ∨ cl862.slots.size ≤ ((1 : Int32)).toNatClampNeg) := inb_of S862 ⟨by decide, by decide⟩
  obtain ⟨T864, h864, X864, e864, W864, st864⟩ := stJ X855 hx hZ e855 Ar862 (j := (1 : Int32)) hin863 (g := (mkF m 75 #[.val (.long q0), .second, .val (.long q1), .second, .val (.long q2), .second, .val (.long q3), .second, .val (.long q4), .second, .val (.long q5), .second, .val (.long (j1_0 q0)), .second, .val (.long (j1_0 q1)), .second, .val (.long (v2 q2 (j1_0 q0))), .second, .val (.long (v2 q3 (j1_0 q1))), .second, .val (.long (v2 q4 (j1_0 q0))), .second, .val (.long (v2 q5 (j1_0 q1))), .second, .val (.ref b832), .unset, .unset, .unset, .unset, .unset, .unset, .unset, .unset, .unset, .unset, .unset] [(.long (v2 q3 (j1_0 q1))), (.int (1 : Int32)), (.ref b848), (.ref b848)])) rfl rfl (hb hby at_75)
  have V864 : Arv Z h864 b848 k848 .long (2 : Int32) [(.long (v2 q2 (j1_0 q0))), (.long (v2 q3 (j1_0 q1)))] (.long (0 : Int64)) := Arv.set Ar862 q862 S862 M862 H862 G862 rfl W864 1 rfl (Nat.le_of_ble_eq_true rfl)
  have f865 := f856.wr W864
  have f866 := f857.other W864 ne851
  have f867 := f858.wr W864
  have Z869 := Nat.le_trans Z860 (Keep.of_wr W864).1
  have hk := Nat.le_trans hk (Keep.of_wr W864).1
  have N870 := Fr.snoc X864 N861 g_b848
  obtain ⟨T871, h871, k871, X871, e871, E871, A871, B871, st871⟩ := newPE X864 hx hZ (hw _ (List.mem_of_getElem? (i := 8) rfl)) e864 (g := (mkF m 79 #[.val (.long q0), .second, .val (.long q1), .second, .val (.long q2), .second, .val (.long q3), .second, .val (.long q4), .second, .val (.long q5), .second, .val (.long (j1_0 q0)), .second, .val (.long (j1_0 q1)), .second, .val (.long (v2 q2 (j1_0 q0))), .second, .val (.long (v2 q3 (j1_0 q1))), .second, .val (.long (v2 q4 (j1_0 q0))), .second, .val (.long (v2 q5 (j1_0 q1))), .second, .val (.ref b832), .val (.ref b848), .unset, .unset, .unset, .unset, .unset, .unset, .unset, .unset, .unset, .unset] [(.int (2 : Int32))])) rfl (hb hby at_79) rfl (by decide) (cap := 2) (by decide) (by decide) (by decide) (by decide) (ad := "[J") (by decide)
  obtain ⟨b871, gg871⟩ : ∃ z, z = h864.size := ⟨_, rfl⟩
  rw [← gg871] at A871 B871 st871
  have f872 := f865.ext E871
  have f873 := f866.ext E871
  have f874 := f867.ext E871
  have f875 := V864.ext E871
  have ne876 : b832 ≠ b871 := Nat.ne_of_lt (Nat.lt_of_lt_of_le f865.lt (Nat.le_of_eq gg871.symm))
  have ne877 : b848 ≠ b871 := Nat.ne_of_lt (Nat.lt_of_lt_of_le f867.lt (Nat.le_of_eq gg871.symm))
  have g_b871 : n0 ≤ b871 := Nat.le_trans Z869 (Nat.le_of_eq gg871.symm)
  have Z878 := Nat.le_trans Z869 E871.1
  have hk := Nat.le_trans hk E871.1
  have V871 : Arv Z h871 b871 k871 .long (2 : Int32) [(.long (0 : Int64)), (.long (0 : Int64))] (.long (0 : Int64)) := (Arv.new A871 (by decide)).pad (pad_rep [] (.long (0 : Int64)) 2)
  obtain ⟨cl879, Ar879, q879, S879, M879, H879, G879⟩ := id V871
  have hin880 : ¬ ((0 : Int32) < 0 ∨ cl879.slots.size ≤ ((0 : Int32)).toNatClampNeg) := inb_of S879 ⟨by decide, by decide⟩
  obtain ⟨T881, h881, X881, e881, W881, st881⟩ := stJ X871 hx hZ e871 Ar879 (j := (0 : Int32)) hin880 (g := (mkF m 85 #[.val (.long q0), .second, .val (.long q1), .second, .val (.long q2), .second, .val (.long q3), .second, .val (.long q4), .second, .val (.long q5), .second, .val (.long (j1_0 q0)), .second, .val (.long (j1_0 q1)), .second, .val (.long (v2 q2 (j1_0 q0))), .second, .val (.long (v2 q3 (j1_0 q1))), .second, .val (.long (v2 q4 (j1_0 q0))), .second, .val (.long (v2 q5 (j1_0 q1))), .second, .val (.ref b832), .val (.ref b848), .unset, .unset, .unset, .unset, .unset, .unset, .unset, .unset, .unset, .unset] [(.long (v2 q4 (j1_0 q0))), (.int (0 : Int32)), (.ref b871), (.ref b871)])) rfl rfl (hb hby at_85)
  have V881 : Arv Z h881 b871 k871 .long (2 : Int32) [(.long (v2 q4 (j1_0 q0))), (.long (0 : Int64))] (.long (0 : Int64)) := Arv.set Ar879 q879 S879 M879 H879 G879 rfl W881 0 rfl (Nat.le_of_ble_eq_true rfl)
  have f882 := f872.wr W881
  have f883 := f873.other W881 ne876
  have f884 := f874.wr W881
  have f885 := f875.other W881 ne877
  have f886 := B871.wr W881
  have Z888 := Nat.le_trans Z878 (Keep.of_wr W881).1
  have hk := Nat.le_trans hk (Keep.of_wr W881).1
  have N889 := Fr.snoc X881 N870 g_b871
  obtain ⟨cl890, Ar890, q890, S890, M890, H890, G890⟩ := id V881
  have hin891 : ¬ ((1 : Int32) < 0 ∨ cl890.slots.size ≤ ((1 : Int32)).toNatClampNeg) := inb_of S890 ⟨by decide, by decide⟩
  obtain ⟨T892, h892, X892, e892, W892, st892⟩ := stJ X881 hx hZ e881 Ar890 (j := (1 : Int32)) hin891 (g := (mkF m 90 #[.val (.long q0), .second, .val (.long q1), .second, .val (.long q2), .second, .val (.long q3), .second, .val (.long q4), .second, .val (.long q5), .second, .val (.long (j1_0 q0)), .second, .val (.long (j1_0 q1)), .second, .val (.long (v2 q2 (j1_0 q0))), .second, .val (.long (v2 q3 (j1_0 q1))), .second, .val (.long (v2 q4 (j1_0 q0))), .second, .val (.long (v2 q5 (j1_0 q1))), .second, .val (.ref b832), .val (.ref b848), .unset, .unset, .unset, .unset, .unset, .unset, .unset, .unset, .unset, .unset] [(.long (v2 q5 (j1_0 q1))), (.int (1 : Int32)), (.ref b871), (.ref b871)])) rfl rfl (hb hby at_90)
  have V892 : Arv Z h892 b871 k871 .long (2 : Int32) [(.long (v2 q4 (j1_0 q0))), (.long (v2 q5 (j1_0 q1)))] (.long (0 : Int64)) := Arv.set Ar890 q890 S890 M890 H890 G890 rfl W892 1 rfl (Nat.le_of_ble_eq_true rfl)
  have f893 := f882.wr W892
  have f894 := f883.other W892 ne876
  have f895 := f884.wr W892
  have f896 := f885.other W892 ne877
  have f897 := f886.wr W892
  have Z899 := Nat.le_trans Z888 (Keep.of_wr W892).1
  have hk := Nat.le_trans hk (Keep.of_wr W892).1
  have N900 := Fr.snoc X892 N889 g_b871
  obtain ⟨T901, h901, X901, e901, E901, A901, D901, -, st901⟩ := newO X892 hx hZ hown (hw _ (List.mem_of_getElem? (i := 9) rfl)) (hw _ (List.mem_of_getElem? (i := 10) rfl)) (hw _ (List.mem_of_getElem? (i := 11) rfl)) e892 (g := (mkF m 93 #[.val (.long q0), .second, .val (.long q1), .second, .val (.long q2), .second, .val (.long q3), .second, .val (.long q4), .second, .val (.long q5), .second, .val (.long (j1_0 q0)), .second, .val (.long (j1_0 q1)), .second, .val (.long (v2 q2 (j1_0 q0))), .second, .val (.long (v2 q3 (j1_0 q1))), .second, .val (.long (v2 q4 (j1_0 q0))), .second, .val (.long (v2 q5 (j1_0 q1))), .second, .val (.ref b832), .val (.ref b848), .val (.ref b871), .unset, .unset, .unset, .unset, .unset, .unset, .unset, .unset, .unset] [])) rfl (hb hby at_93) (by decide) (by decide)
  obtain ⟨b901, gg901⟩ : ∃ z, z = h892.size := ⟨_, rfl⟩
  rw [← gg901] at A901 D901 st901
  have f902 := f893.ext E901
  have f903 := f894.ext E901
  have f904 := f895.ext E901
  have f905 := f896.ext E901
  have f906 := f897.ext E901
  have f907 := V892.ext E901
  have ne908 : b832 ≠ b901 := Nat.ne_of_lt (Nat.lt_of_lt_of_le f893.lt (Nat.le_of_eq gg901.symm))
  have ne909 : b848 ≠ b901 := Nat.ne_of_lt (Nat.lt_of_lt_of_le f895.lt (Nat.le_of_eq gg901.symm))
  have ne910 : b871 ≠ b901 := Nat.ne_of_lt (Nat.lt_of_lt_of_le f897.lt (Nat.le_of_eq gg901.symm))
  have g_b901 : n0 ≤ b901 := Nat.le_trans Z899 (Nat.le_of_eq gg901.symm)
  have Z911 := Nat.le_trans Z899 E901.1
  have hk := Nat.le_trans hk E901.1
  have f912 : Fld Z h901 b901 "com/example/stowline/stowline/VolumeBound" "capacities" "[J" .null := D901 (Or.inr (hw _ (List.mem_of_getElem? (i := 44) rfl))) (ty := (.array .long)) (by decide)
  have f913 : Fld Z h901 b901 "com/example/stowline/stowline/VolumeBound" "wholeCapacities" "[J" .null := D901 (Or.inr (hw _ (List.mem_of_getElem? (i := 46) rfl))) (ty := (.array .long)) (by decide)
  have f914 : Fld Z h901 b901 "com/example/stowline/stowline/VolumeBound" "remainders" "[J" .null := D901 (Or.inr (hw _ (List.mem_of_getElem? (i := 48) rfl))) (ty := (.array .long)) (by decide)
  have pre916 := fun (t : State) (k : Steps p.tables e below (T901.setTop (mkF m 99 #[.val (.long q0), .second, .val (.long q1), .second, .val (.long q2), .second, .val (.long q3), .second, .val (.long q4), .second, .val (.long q5), .second, .val (.long (j1_0 q0)), .second, .val (.long (j1_0 q1)), .second, .val (.long (v2 q2 (j1_0 q0))), .second, .val (.long (v2 q3 (j1_0 q1))), .second, .val (.long (v2 q4 (j1_0 q0))), .second, .val (.long (v2 q5 (j1_0 q1))), .second, .val (.ref b832), .val (.ref b848), .val (.ref b871), .unset, .unset, .unset, .unset, .unset, .unset, .unset, .unset, .unset] [(.ref b832), (.ref b901), (.ref b901)])) t) => pre0 t (by
    show Steps p.tables e below (s₁.setTop (mkF m 0 #[.val (.long q0), .second, .val (.long q1), .second, .val (.long q2), .second, .val (.long q3), .second, .val (.long q4), .second, .val (.long q5), .second, .unset, .unset, .unset, .unset, .unset, .unset, .unset, .unset, .unset, .unset, .unset, .unset, .unset, .unset, .unset, .unset, .unset, .unset, .unset, .unset, .unset, .unset, .unset, .unset] [])) _
    refine XS.lloadN X0.here hx rfl (hb hby at_0) rfl ?_
    show Steps p.tables e below (s₁.setTop (mkF m 1 #[.val (.long q0), .second, .val (.long q1), .second, .val (.long q2), .second, .val (.long q3), .second, .val (.long q4), .second, .val (.long q5), .second, .unset, .unset, .unset, .unset, .unset, .unset, .unset, .unset, .unset, .unset, .unset, .unset, .unset, .unset, .unset, .unset, .unset, .unset, .unset, .unset, .unset, .unset, .unset, .unset] [(.long q0)])) _
    refine st826 _ ?_
    show Steps p.tables e below (T826.setTop (mkF m 4 #[.val (.long q0), .second, .val (.long q1), .second, .val (.long q2), .second, .val (.long q3), .second, .val (.long q4), .second, .val (.long q5), .second, .unset, .unset, .unset, .unset, .unset, .unset, .unset, .unset, .unset, .unset, .unset, .unset, .unset, .unset, .unset, .unset, .unset, .unset, .unset, .unset, .unset, .unset, .unset, .unset] [(.long (j1_0 q0))])) _
    refine XS.lstore X826.here hx rfl (hb hby at_4) rfl (l' := #[.val (.long q0), .second, .val (.long q1), .second, .val (.long q2), .second, .val (.long q3), .second, .val (.long q4), .second, .val (.long q5), .second, .val (.long (j1_0 q0)), .second, .unset, .unset, .unset, .unset, .unset, .unset, .unset, .unset, .unset, .unset, .unset, .unset, .unset, .unset, .unset, .unset, .unset, .unset, .unset, .unset, .unset, .unset]) rfl ?_
    show Steps p.tables e below (T826.setTop (mkF m 6 #[.val (.long q0), .second, .val (.long q1), .second, .val (.long q2), .second, .val (.long q3), .second, .val (.long q4), .second, .val (.long q5), .second, .val (.long (j1_0 q0)), .second, .unset, .unset, .unset, .unset, .unset, .unset, .unset, .unset, .unset, .unset, .unset, .unset, .unset, .unset, .unset, .unset, .unset, .unset, .unset, .unset, .unset, .unset] [])) _
    refine XS.lloadN X826.here hx rfl (hb hby at_6) rfl ?_
    show Steps p.tables e below (T826.setTop (mkF m 7 #[.val (.long q0), .second, .val (.long q1), .second, .val (.long q2), .second, .val (.long q3), .second, .val (.long q4), .second, .val (.long q5), .second, .val (.long (j1_0 q0)), .second, .unset, .unset, .unset, .unset, .unset, .unset, .unset, .unset, .unset, .unset, .unset, .unset, .unset, .unset, .unset, .unset, .unset, .unset, .unset, .unset, .unset, .unset] [(.long q1)])) _
    refine st827 _ ?_
    show Steps p.tables e below (T827.setTop (mkF m 10 #[.val (.long q0), .second, .val (.long q1), .second, .val (.long q2), .second, .val (.long q3), .second, .val (.long q4), .second, .val (.long q5), .second, .val (.long (j1_0 q0)), .second, .unset, .unset, .unset, .unset, .unset, .unset, .unset, .unset, .unset, .unset, .unset, .unset, .unset, .unset, .unset, .unset, .unset, .unset, .unset, .unset, .unset, .unset] [(.long (j1_0 q1))])) _
    refine XS.lstore X827.here hx rfl (hb hby at_10) rfl (l' := #[.val (.long q0), .second, .val (.long q1), .second, .val (.long q2), .second, .val (.long q3), .second, .val (.long q4), .second, .val (.long q5), .second, .val (.long (j1_0 q0)), .second, .val (.long (j1_0 q1)), .second, .unset, .unset, .unset, .unset, .unset, .unset, .unset, .unset, .unset, .unset, .unset, .unset, .unset, .unset, .unset, .unset, .unset, .unset, .unset, .unset]) rfl ?_
    show Steps p.tables e below (T827.setTop (mkF m 12 #[.val (.long q0), .second, .val (.long q1), .second, .val (.long q2), .second, .val (.long q3), .second, .val (.long q4), .second, .val (.long q5), .second, .val (.long (j1_0 q0)), .second, .val (.long (j1_0 q1)), .second, .unset, .unset, .unset, .unset, .unset, .unset, .unset, .unset, .unset, .unset, .unset, .unset, .unset, .unset, .unset, .unset, .unset, .unset, .unset, .unset] [])) _
    refine XS.lload X827.here hx rfl (hb hby at_12) rfl ?_
    show Steps p.tables e below (T827.setTop (mkF m 14 #[.val (.long q0), .second, .val (.long q1), .second, .val (.long q2), .second, .val (.long q3), .second, .val (.long q4), .second, .val (.long q5), .second, .val (.long (j1_0 q0)), .second, .val (.long (j1_0 q1)), .second, .unset, .unset, .unset, .unset, .unset, .unset, .unset, .unset, .unset, .unset, .unset, .unset, .unset, .unset, .unset, .unset, .unset, .unset, .unset, .unset] [(.long q2)])) _
    refine XS.lload X827.here hx rfl (hb hby at_14) rfl ?_
    show Steps p.tables e below (T827.setTop (mkF m 16 #[.val (.long q0), .second, .val (.long q1), .second, .val (.long q2), .second, .val (.long q3), .second, .val (.long q4), .second, .val (.long q5), .second, .val (.long (j1_0 q0)), .second, .val (.long (j1_0 q1)), .second, .unset, .unset, .unset, .unset, .unset, .unset, .unset, .unset, .unset, .unset, .unset, .unset, .unset, .unset, .unset, .unset, .unset, .unset, .unset, .unset] [(.long (j1_0 q0)), (.long q2)])) _
    refine st828 _ ?_
    show Steps p.tables e below (T828.setTop (mkF m 19 #[.val (.long q0), .second, .val (.long q1), .second, .val (.long q2), .second, .val (.long q3), .second, .val (.long q4), .second, .val (.long q5), .second, .val (.long (j1_0 q0)), .second, .val (.long (j1_0 q1)), .second, .unset, .unset, .unset, .unset, .unset, .unset, .unset, .unset, .unset, .unset, .unset, .unset, .unset, .unset, .unset, .unset, .unset, .unset, .unset, .unset] [(.long (v2 q2 (j1_0 q0)))])) _
    refine XS.lstore X828.here hx rfl (hb hby at_19) rfl (l' := #[.val (.long q0), .second, .val (.long q1), .second, .val (.long q2), .second, .val (.long q3), .second, .val (.long q4), .second, .val (.long q5), .second, .val (.long (j1_0 q0)), .second, .val (.long (j1_0 q1)), .second, .val (.long (v2 q2 (j1_0 q0))), .second, .unset, .unset, .unset, .unset, .unset, .unset, .unset, .unset, .unset, .unset, .unset, .unset, .unset, .unset, .unset, .unset, .unset, .unset]) rfl ?_
    show Steps p.tables e below (T828.setTop (mkF m 21 #[.val (.long q0), .second, .val (.long q1), .second, .val (.long q2), .second, .val (.long q3), .second, .val (.long q4), .second, .val (.long q5), .second, .val (.long (j1_0 q0)), .second, .val (.long (j1_0 q1)), .second, .val (.long (v2 q2 (j1_0 q0))), .second, .unset, .unset, .unset, .unset, .unset, .unset, .unset, .unset, .unset, .unset, .unset, .unset, .unset, .unset, .unset, .unset, .unset, .unset] [])) _
    refine XS.lload X828.here hx rfl (hb hby at_21) rfl ?_
    show Steps p.tables e below (T828.setTop (mkF m 23 #[.val (.long q0), .second, .val (.long q1), .second, .val (.long q2), .second, .val (.long q3), .second, .val (.long q4), .second, .val (.long q5), .second, .val (.long (j1_0 q0)), .second, .val (.long (j1_0 q1)), .second, .val (.long (v2 q2 (j1_0 q0))), .second, .unset, .unset, .unset, .unset, .unset, .unset, .unset, .unset, .unset, .unset, .unset, .unset, .unset, .unset, .unset, .unset, .unset, .unset] [(.long q3)])) _
    refine XS.lload X828.here hx rfl (hb hby at_23) rfl ?_
    show Steps p.tables e below (T828.setTop (mkF m 25 #[.val (.long q0), .second, .val (.long q1), .second, .val (.long q2), .second, .val (.long q3), .second, .val (.long q4), .second, .val (.long q5), .second, .val (.long (j1_0 q0)), .second, .val (.long (j1_0 q1)), .second, .val (.long (v2 q2 (j1_0 q0))), .second, .unset, .unset, .unset, .unset, .unset, .unset, .unset, .unset, .unset, .unset, .unset, .unset, .unset, .unset, .unset, .unset, .unset, .unset] [(.long (j1_0 q1)), (.long q3)])) _
    refine st829 _ ?_
    show Steps p.tables e below (T829.setTop (mkF m 28 #[.val (.long q0), .second, .val (.long q1), .second, .val (.long q2), .second, .val (.long q3), .second, .val (.long q4), .second, .val (.long q5), .second, .val (.long (j1_0 q0)), .second, .val (.long (j1_0 q1)), .second, .val (.long (v2 q2 (j1_0 q0))), .second, .unset, .unset, .unset, .unset, .unset, .unset, .unset, .unset, .unset, .unset, .unset, .unset, .unset, .unset, .unset, .unset, .unset, .unset] [(.long (v2 q3 (j1_0 q1)))])) _
    refine XS.lstore X829.here hx rfl (hb hby at_28) rfl (l' := #[.val (.long q0), .second, .val (.long q1), .second, .val (.long q2), .second, .val (.long q3), .second, .val (.long q4), .second, .val (.long q5), .second, .val (.long (j1_0 q0)), .second, .val (.long (j1_0 q1)), .second, .val (.long (v2 q2 (j1_0 q0))), .second, .val (.long (v2 q3 (j1_0 q1))), .second, .unset, .unset, .unset, .unset, .unset, .unset, .unset, .unset, .unset, .unset, .unset, .unset, .unset, .unset, .unset, .unset]) rfl ?_
    show Steps p.tables e below (T829.setTop (mkF m 30 #[.val (.long q0), .second, .val (.long q1), .second, .val (.long q2), .second, .val (.long q3), .second, .val (.long q4), .second, .val (.long q5), .second, .val (.long (j1_0 q0)), .second, .val (.long (j1_0 q1)), .second, .val (.long (v2 q2 (j1_0 q0))), .second, .val (.long (v2 q3 (j1_0 q1))), .second, .unset, .unset, .unset, .unset, .unset, .unset, .unset, .unset, .unset, .unset, .unset, .unset, .unset, .unset, .unset, .unset] [])) _
    refine XS.lload X829.here hx rfl (hb hby at_30) rfl ?_
    show Steps p.tables e below (T829.setTop (mkF m 32 #[.val (.long q0), .second, .val (.long q1), .second, .val (.long q2), .second, .val (.long q3), .second, .val (.long q4), .second, .val (.long q5), .second, .val (.long (j1_0 q0)), .second, .val (.long (j1_0 q1)), .second, .val (.long (v2 q2 (j1_0 q0))), .second, .val (.long (v2 q3 (j1_0 q1))), .second, .unset, .unset, .unset, .unset, .unset, .unset, .unset, .unset, .unset, .unset, .unset, .unset, .unset, .unset, .unset, .unset] [(.long q4)])) _
    refine XS.lload X829.here hx rfl (hb hby at_32) rfl ?_
    show Steps p.tables e below (T829.setTop (mkF m 34 #[.val (.long q0), .second, .val (.long q1), .second, .val (.long q2), .second, .val (.long q3), .second, .val (.long q4), .second, .val (.long q5), .second, .val (.long (j1_0 q0)), .second, .val (.long (j1_0 q1)), .second, .val (.long (v2 q2 (j1_0 q0))), .second, .val (.long (v2 q3 (j1_0 q1))), .second, .unset, .unset, .unset, .unset, .unset, .unset, .unset, .unset, .unset, .unset, .unset, .unset, .unset, .unset, .unset, .unset] [(.long (j1_0 q0)), (.long q4)])) _
    refine st830 _ ?_
    show Steps p.tables e below (T830.setTop (mkF m 37 #[.val (.long q0), .second, .val (.long q1), .second, .val (.long q2), .second, .val (.long q3), .second, .val (.long q4), .second, .val (.long q5), .second, .val (.long (j1_0 q0)), .second, .val (.long (j1_0 q1)), .second, .val (.long (v2 q2 (j1_0 q0))), .second, .val (.long (v2 q3 (j1_0 q1))), .second, .unset, .unset, .unset, .unset, .unset, .unset, .unset, .unset, .unset, .unset, .unset, .unset, .unset, .unset, .unset, .unset] [(.long (v2 q4 (j1_0 q0)))])) _
    refine XS.lstore X830.here hx rfl (hb hby at_37) rfl (l' := #[.val (.long q0), .second, .val (.long q1), .second, .val (.long q2), .second, .val (.long q3), .second, .val (.long q4), .second, .val (.long q5), .second, .val (.long (j1_0 q0)), .second, .val (.long (j1_0 q1)), .second, .val (.long (v2 q2 (j1_0 q0))), .second, .val (.long (v2 q3 (j1_0 q1))), .second, .val (.long (v2 q4 (j1_0 q0))), .second, .unset, .unset, .unset, .unset, .unset, .unset, .unset, .unset, .unset, .unset, .unset, .unset, .unset, .unset]) rfl ?_
    show Steps p.tables e below (T830.setTop (mkF m 39 #[.val (.long q0), .second, .val (.long q1), .second, .val (.long q2), .second, .val (.long q3), .second, .val (.long q4), .second, .val (.long q5), .second, .val (.long (j1_0 q0)), .second, .val (.long (j1_0 q1)), .second, .val (.long (v2 q2 (j1_0 q0))), .second, .val (.long (v2 q3 (j1_0 q1))), .second, .val (.long (v2 q4 (j1_0 q0))), .second, .unset, .unset, .unset, .unset, .unset, .unset, .unset, .unset, .unset, .unset, .unset, .unset, .unset, .unset] [])) _
    refine XS.lload X830.here hx rfl (hb hby at_39) rfl ?_
    show Steps p.tables e below (T830.setTop (mkF m 41 #[.val (.long q0), .second, .val (.long q1), .second, .val (.long q2), .second, .val (.long q3), .second, .val (.long q4), .second, .val (.long q5), .second, .val (.long (j1_0 q0)), .second, .val (.long (j1_0 q1)), .second, .val (.long (v2 q2 (j1_0 q0))), .second, .val (.long (v2 q3 (j1_0 q1))), .second, .val (.long (v2 q4 (j1_0 q0))), .second, .unset, .unset, .unset, .unset, .unset, .unset, .unset, .unset, .unset, .unset, .unset, .unset, .unset, .unset] [(.long q5)])) _
    refine XS.lload X830.here hx rfl (hb hby at_41) rfl ?_
    show Steps p.tables e below (T830.setTop (mkF m 43 #[.val (.long q0), .second, .val (.long q1), .second, .val (.long q2), .second, .val (.long q3), .second, .val (.long q4), .second, .val (.long q5), .second, .val (.long (j1_0 q0)), .second, .val (.long (j1_0 q1)), .second, .val (.long (v2 q2 (j1_0 q0))), .second, .val (.long (v2 q3 (j1_0 q1))), .second, .val (.long (v2 q4 (j1_0 q0))), .second, .unset, .unset, .unset, .unset, .unset, .unset, .unset, .unset, .unset, .unset, .unset, .unset, .unset, .unset] [(.long (j1_0 q1)), (.long q5)])) _
    refine st831 _ ?_
    show Steps p.tables e below (T831.setTop (mkF m 46 #[.val (.long q0), .second, .val (.long q1), .second, .val (.long q2), .second, .val (.long q3), .second, .val (.long q4), .second, .val (.long q5), .second, .val (.long (j1_0 q0)), .second, .val (.long (j1_0 q1)), .second, .val (.long (v2 q2 (j1_0 q0))), .second, .val (.long (v2 q3 (j1_0 q1))), .second, .val (.long (v2 q4 (j1_0 q0))), .second, .unset, .unset, .unset, .unset, .unset, .unset, .unset, .unset, .unset, .unset, .unset, .unset, .unset, .unset] [(.long (v2 q5 (j1_0 q1)))])) _
    refine XS.lstore X831.here hx rfl (hb hby at_46) rfl (l' := #[.val (.long q0), .second, .val (.long q1), .second, .val (.long q2), .second, .val (.long q3), .second, .val (.long q4), .second, .val (.long q5), .second, .val (.long (j1_0 q0)), .second, .val (.long (j1_0 q1)), .second, .val (.long (v2 q2 (j1_0 q0))), .second, .val (.long (v2 q3 (j1_0 q1))), .second, .val (.long (v2 q4 (j1_0 q0))), .second, .val (.long (v2 q5 (j1_0 q1))), .second, .unset, .unset, .unset, .unset, .unset, .unset, .unset, .unset, .unset, .unset, .unset, .unset]) rfl ?_
    show Steps p.tables e below (T831.setTop (mkF m 48 #[.val (.long q0), .second, .val (.long q1), .second, .val (.long q2), .second, .val (.long q3), .second, .val (.long q4), .second, .val (.long q5), .second, .val (.long (j1_0 q0)), .second, .val (.long (j1_0 q1)), .second, .val (.long (v2 q2 (j1_0 q0))), .second, .val (.long (v2 q3 (j1_0 q1))), .second, .val (.long (v2 q4 (j1_0 q0))), .second, .val (.long (v2 q5 (j1_0 q1))), .second, .unset, .unset, .unset, .unset, .unset, .unset, .unset, .unset, .unset, .unset, .unset, .unset] [])) _
    refine XS.iconst X831.here hx rfl (hb hby at_48) ?_
    show Steps p.tables e below (T831.setTop (mkF m 49 #[.val (.long q0), .second, .val (.long q1), .second, .val (.long q2), .second, .val (.long q3), .second, .val (.long q4), .second, .val (.long q5), .second, .val (.long (j1_0 q0)), .second, .val (.long (j1_0 q1)), .second, .val (.long (v2 q2 (j1_0 q0))), .second, .val (.long (v2 q3 (j1_0 q1))), .second, .val (.long (v2 q4 (j1_0 q0))), .second, .val (.long (v2 q5 (j1_0 q1))), .second, .unset, .unset, .unset, .unset, .unset, .unset, .unset, .unset, .unset, .unset, .unset, .unset] [(.int (2 : Int32))])) _
    refine st832 _ ?_
    show Steps p.tables e below (T832.setTop (mkF m 51 #[.val (.long q0), .second, .val (.long q1), .second, .val (.long q2), .second, .val (.long q3), .second, .val (.long q4), .second, .val (.long q5), .second, .val (.long (j1_0 q0)), .second, .val (.long (j1_0 q1)), .second, .val (.long (v2 q2 (j1_0 q0))), .second, .val (.long (v2 q3 (j1_0 q1))), .second, .val (.long (v2 q4 (j1_0 q0))), .second, .val (.long (v2 q5 (j1_0 q1))), .second, .unset, .unset, .unset, .unset, .unset, .unset, .unset, .unset, .unset, .unset, .unset, .unset] [(.ref b832)])) _
    refine XS.dup X832.here hx rfl (hb hby at_51) rfl rfl ?_
    show Steps p.tables e below (T832.setTop (mkF m 52 #[.val (.long q0), .second, .val (.long q1), .second, .val (.long q2), .second, .val (.long q3), .second, .val (.long q4), .second, .val (.long q5), .second, .val (.long (j1_0 q0)), .second, .val (.long (j1_0 q1)), .second, .val (.long (v2 q2 (j1_0 q0))), .second, .val (.long (v2 q3 (j1_0 q1))), .second, .val (.long (v2 q4 (j1_0 q0))), .second, .val (.long (v2 q5 (j1_0 q1))), .second, .unset, .unset, .unset, .unset, .unset, .unset, .unset, .unset, .unset, .unset, .unset, .unset] [(.ref b832), (.ref b832)])) _
    refine XS.iconst X832.here hx rfl (hb hby at_52) ?_
    show Steps p.tables e below (T832.setTop (mkF m 53 #[.val (.long q0), .second, .val (.long q1), .second, .val (.long q2), .second, .val (.long q3), .second, .val (.long q4), .second, .val (.long q5), .second, .val (.long (j1_0 q0)), .second, .val (.long (j1_0 q1)), .second, .val (.long (v2 q2 (j1_0 q0))), .second, .val (.long (v2 q3 (j1_0 q1))), .second, .val (.long (v2 q4 (j1_0 q0))), .second, .val (.long (v2 q5 (j1_0 q1))), .second, .unset, .unset, .unset, .unset, .unset, .unset, .unset, .unset, .unset, .unset, .unset, .unset] [(.int (0 : Int32)), (.ref b832), (.ref b832)])) _
    refine XS.lload X832.here hx rfl (hb hby at_53) rfl ?_
    show Steps p.tables e below (T832.setTop (mkF m 55 #[.val (.long q0), .second, .val (.long q1), .second, .val (.long q2), .second, .val (.long q3), .second, .val (.long q4), .second, .val (.long q5), .second, .val (.long (j1_0 q0)), .second, .val (.long (j1_0 q1)), .second, .val (.long (v2 q2 (j1_0 q0))), .second, .val (.long (v2 q3 (j1_0 q1))), .second, .val (.long (v2 q4 (j1_0 q0))), .second, .val (.long (v2 q5 (j1_0 q1))), .second, .unset, .unset, .unset, .unset, .unset, .unset, .unset, .unset, .unset, .unset, .unset, .unset] [(.long (j1_0 q0)), (.int (0 : Int32)), (.ref b832), (.ref b832)])) _
    refine st836 _ ?_
    show Steps p.tables e below (T836.setTop (mkF m 56 #[.val (.long q0), .second, .val (.long q1), .second, .val (.long q2), .second, .val (.long q3), .second, .val (.long q4), .second, .val (.long q5), .second, .val (.long (j1_0 q0)), .second, .val (.long (j1_0 q1)), .second, .val (.long (v2 q2 (j1_0 q0))), .second, .val (.long (v2 q3 (j1_0 q1))), .second, .val (.long (v2 q4 (j1_0 q0))), .second, .val (.long (v2 q5 (j1_0 q1))), .second, .unset, .unset, .unset, .unset, .unset, .unset, .unset, .unset, .unset, .unset, .unset, .unset] [(.ref b832)])) _
    refine XS.dup X836.here hx rfl (hb hby at_56) rfl rfl ?_
    show Steps p.tables e below (T836.setTop (mkF m 57 #[.val (.long q0), .second, .val (.long q1), .second, .val (.long q2), .second, .val (.long q3), .second, .val (.long q4), .second, .val (.long q5), .second, .val (.long (j1_0 q0)), .second, .val (.long (j1_0 q1)), .second, .val (.long (v2 q2 (j1_0 q0))), .second, .val (.long (v2 q3 (j1_0 q1))), .second, .val (.long (v2 q4 (j1_0 q0))), .second, .val (.long (v2 q5 (j1_0 q1))), .second, .unset, .unset, .unset, .unset, .unset, .unset, .unset, .unset, .unset, .unset, .unset, .unset] [(.ref b832), (.ref b832)])) _
    refine XS.iconst X836.here hx rfl (hb hby at_57) ?_
    show Steps p.tables e below (T836.setTop (mkF m 58 #[.val (.long q0), .second, .val (.long q1), .second, .val (.long q2), .second, .val (.long q3), .second, .val (.long q4), .second, .val (.long q5), .second, .val (.long (j1_0 q0)), .second, .val (.long (j1_0 q1)), .second, .val (.long (v2 q2 (j1_0 q0))), .second, .val (.long (v2 q3 (j1_0 q1))), .second, .val (.long (v2 q4 (j1_0 q0))), .second, .val (.long (v2 q5 (j1_0 q1))), .second, .unset, .unset, .unset, .unset, .unset, .unset, .unset, .unset, .unset, .unset, .unset, .unset] [(.int (1 : Int32)), (.ref b832), (.ref b832)])) _
    refine XS.lload X836.here hx rfl (hb hby at_58) rfl ?_
    show Steps p.tables e below (T836.setTop (mkF m 60 #[.val (.long q0), .second, .val (.long q1), .second, .val (.long q2), .second, .val (.long q3), .second, .val (.long q4), .second, .val (.long q5), .second, .val (.long (j1_0 q0)), .second, .val (.long (j1_0 q1)), .second, .val (.long (v2 q2 (j1_0 q0))), .second, .val (.long (v2 q3 (j1_0 q1))), .second, .val (.long (v2 q4 (j1_0 q0))), .second, .val (.long (v2 q5 (j1_0 q1))), .second, .unset, .unset, .unset, .unset, .unset, .unset, .unset, .unset, .unset, .unset, .unset, .unset] [(.long (j1_0 q1)), (.int (1 : Int32)), (.ref b832), (.ref b832)])) _
    refine st843 _ ?_
    show Steps p.tables e below (T843.setTop (mkF m 61 #[.val (.long q0), .second, .val (.long q1), .second, .val (.long q2), .second, .val (.long q3), .second, .val (.long q4), .second, .val (.long q5), .second, .val (.long (j1_0 q0)), .second, .val (.long (j1_0 q1)), .second, .val (.long (v2 q2 (j1_0 q0))), .second, .val (.long (v2 q3 (j1_0 q1))), .second, .val (.long (v2 q4 (j1_0 q0))), .second, .val (.long (v2 q5 (j1_0 q1))), .second, .unset, .unset, .unset, .unset, .unset, .unset, .unset, .unset, .unset, .unset, .unset, .unset] [(.ref b832)])) _
    refine XS.astore X843.here hx rfl (hb hby at_61) rfl rfl (l' := #[.val (.long q0), .second, .val (.long q1), .second, .val (.long q2), .second, .val (.long q3), .second, .val (.long q4), .second, .val (.long q5), .second, .val (.long (j1_0 q0)), .second, .val (.long (j1_0 q1)), .second, .val (.long (v2 q2 (j1_0 q0))), .second, .val (.long (v2 q3 (j1_0 q1))), .second, .val (.long (v2 q4 (j1_0 q0))), .second, .val (.long (v2 q5 (j1_0 q1))), .second, .val (.ref b832), .unset, .unset, .unset, .unset, .unset, .unset, .unset, .unset, .unset, .unset, .unset]) rfl ?_
    show Steps p.tables e below (T843.setTop (mkF m 63 #[.val (.long q0), .second, .val (.long q1), .second, .val (.long q2), .second, .val (.long q3), .second, .val (.long q4), .second, .val (.long q5), .second, .val (.long (j1_0 q0)), .second, .val (.long (j1_0 q1)), .second, .val (.long (v2 q2 (j1_0 q0))), .second, .val (.long (v2 q3 (j1_0 q1))), .second, .val (.long (v2 q4 (j1_0 q0))), .second, .val (.long (v2 q5 (j1_0 q1))), .second, .val (.ref b832), .unset, .unset, .unset, .unset, .unset, .unset, .unset, .unset, .unset, .unset, .unset] [])) _
    refine XS.iconst X843.here hx rfl (hb hby at_63) ?_
    show Steps p.tables e below (T843.setTop (mkF m 64 #[.val (.long q0), .second, .val (.long q1), .second, .val (.long q2), .second, .val (.long q3), .second, .val (.long q4), .second, .val (.long q5), .second, .val (.long (j1_0 q0)), .second, .val (.long (j1_0 q1)), .second, .val (.long (v2 q2 (j1_0 q0))), .second, .val (.long (v2 q3 (j1_0 q1))), .second, .val (.long (v2 q4 (j1_0 q0))), .second, .val (.long (v2 q5 (j1_0 q1))), .second, .val (.ref b832), .unset, .unset, .unset, .unset, .unset, .unset, .unset, .unset, .unset, .unset, .unset] [(.int (2 : Int32))])) _
    refine st848 _ ?_
    show Steps p.tables e below (T848.setTop (mkF m 66 #[.val (.long q0), .second, .val (.long q1), .second, .val (.long q2), .second, .val (.long q3), .second, .val (.long q4), .second, .val (.long q5), .second, .val (.long (j1_0 q0)), .second, .val (.long (j1_0 q1)), .second, .val (.long (v2 q2 (j1_0 q0))), .second, .val (.long (v2 q3 (j1_0 q1))), .second, .val (.long (v2 q4 (j1_0 q0))), .second, .val (.long (v2 q5 (j1_0 q1))), .second, .val (.ref b832), .unset, .unset, .unset, .unset, .unset, .unset, .unset, .unset, .unset, .unset, .unset] [(.ref b848)])) _
    refine XS.dup X848.here hx rfl (hb hby at_66) rfl rfl ?_
    show Steps p.tables e below (T848.setTop (mkF m 67 #[.val (.long q0), .second, .val (.long q1), .second, .val (.long q2), .second, .val (.long q3), .second, .val (.long q4), .second, .val (.long q5), .second, .val (.long (j1_0 q0)), .second, .val (.long (j1_0 q1)), .second, .val (.long (v2 q2 (j1_0 q0))), .second, .val (.long (v2 q3 (j1_0 q1))), .second, .val (.long (v2 q4 (j1_0 q0))), .second, .val (.long (v2 q5 (j1_0 q1))), .second, .val (.ref b832), .unset, .unset, .unset, .unset, .unset, .unset, .unset, .unset, .unset, .unset, .unset] [(.ref b848), (.ref b848)])) _
    refine XS.iconst X848.here hx rfl (hb hby at_67) ?_
    show Steps p.tables e below (T848.setTop (mkF m 68 #[.val (.long q0), .second, .val (.long q1), .second, .val (.long q2), .second, .val (.long q3), .second, .val (.long q4), .second, .val (.long q5), .second, .val (.long (j1_0 q0)), .second, .val (.long (j1_0 q1)), .second, .val (.long (v2 q2 (j1_0 q0))), .second, .val (.long (v2 q3 (j1_0 q1))), .second, .val (.long (v2 q4 (j1_0 q0))), .second, .val (.long (v2 q5 (j1_0 q1))), .second, .val (.ref b832), .unset, .unset, .unset, .unset, .unset, .unset, .unset, .unset, .unset, .unset, .unset] [(.int (0 : Int32)), (.ref b848), (.ref b848)])) _
    refine XS.lload X848.here hx rfl (hb hby at_68) rfl ?_
    show Steps p.tables e below (T848.setTop (mkF m 70 #[.val (.long q0), .second, .val (.long q1), .second, .val (.long q2), .second, .val (.long q3), .second, .val (.long q4), .second, .val (.long q5), .second, .val (.long (j1_0 q0)), .second, .val (.long (j1_0 q1)), .second, .val (.long (v2 q2 (j1_0 q0))), .second, .val (.long (v2 q3 (j1_0 q1))), .second, .val (.long (v2 q4 (j1_0 q0))), .second, .val (.long (v2 q5 (j1_0 q1))), .second, .val (.ref b832), .unset, .unset, .unset, .unset, .unset, .unset, .unset, .unset, .unset, .unset, .unset] [(.long (v2 q2 (j1_0 q0))), (.int (0 : Int32)), (.ref b848), (.ref b848)])) _
    refine st855 _ ?_
    show Steps p.tables e below (T855.setTop (mkF m 71 #[.val (.long q0), .second, .val (.long q1), .second, .val (.long q2), .second, .val (.long q3), .second, .val (.long q4), .second, .val (.long q5), .second, .val (.long (j1_0 q0)), .second, .val (.long (j1_0 q1)), .second, .val (.long (v2 q2 (j1_0 q0))), .second, .val (.long (v2 q3 (j1_0 q1))), .second, .val (.long (v2 q4 (j1_0 q0))), .second, .val (.long (v2 q5 (j1_0 q1))), .second, .val (.ref b832), .unset, .unset, .unset, .unset, .unset, .unset, .unset, .unset, .unset, .unset, .unset] [(.ref b848)])) _
    refine XS.dup X855.here hx rfl (hb hby at_71) rfl rfl ?_
    show Steps p.tables e below (T855.setTop (mkF m 72 #[.val (.long q0), .second, .val (.long q1), .second, .val (.long q2), .second, .val (.long q3), .second, .val (.long q4), .second, .val (.long q5), .second, .val (.long (j1_0 q0)), .second, .val (.long (j1_0 q1)), .second, .val (.long (v2 q2 (j1_0 q0))), .second, .val (.long (v2 q3 (j1_0 q1))), .second, .val (.long (v2 q4 (j1_0 q0))), .second, .val (.long (v2 q5 (j1_0 q1))), .second, .val (.ref b832), .unset, .unset, .unset, .unset, .unset, .unset, .unset, .unset, .unset, .unset, .unset] [(.ref b848), (.ref b848)])) _
    refine XS.iconst X855.here hx rfl (hb hby at_72) ?_
    show Steps p.tables e below (T855.setTop (mkF m 73 #[.val (.long q0), .second, .val (.long q1), .second, .val (.long q2), .second, .val (.long q3), .second, .val (.long q4), .second, .val (.long q5), .second, .val (.long (j1_0 q0)), .second, .val (.long (j1_0 q1)), .second, .val (.long (v2 q2 (j1_0 q0))), .second, .val (.long (v2 q3 (j1_0 q1))), .second, .val (.long (v2 q4 (j1_0 q0))), .second, .val (.long (v2 q5 (j1_0 q1))), .second, .val (.ref b832), .unset, .unset, .unset, .unset, .unset, .unset, .unset, .unset, .unset, .unset, .unset] [(.int (1 : Int32)), (.ref b848), (.ref b848)])) _
    refine XS.lload X855.here hx rfl (hb hby at_73) rfl ?_
    show Steps p.tables e below (T855.setTop (mkF m 75 #[.val (.long q0), .second, .val (.long q1), .second, .val (.long q2), .second, .val (.long q3), .second, .val (.long q4), .second, .val (.long q5), .second, .val (.long (j1_0 q0)), .second, .val (.long (j1_0 q1)), .second, .val (.long (v2 q2 (j1_0 q0))), .second, .val (.long (v2 q3 (j1_0 q1))), .second, .val (.long (v2 q4 (j1_0 q0))), .second, .val (.long (v2 q5 (j1_0 q1))), .second, .val (.ref b832), .unset, .unset, .unset, .unset, .unset, .unset, .unset, .unset, .unset, .unset, .unset] [(.long (v2 q3 (j1_0 q1))), (.int (1 : Int32)), (.ref b848), (.ref b848)])) _
    refine st864 _ ?_
    show Steps p.tables e below (T864.setTop (mkF m 76 #[.val (.long q0), .second, .val (.long q1), .second, .val (.long q2), .second, .val (.long q3), .second, .val (.long q4), .second, .val (.long q5), .second, .val (.long (j1_0 q0)), .second, .val (.long (j1_0 q1)), .second, .val (.long (v2 q2 (j1_0 q0))), .second, .val (.long (v2 q3 (j1_0 q1))), .second, .val (.long (v2 q4 (j1_0 q0))), .second, .val (.long (v2 q5 (j1_0 q1))), .second, .val (.ref b832), .unset, .unset, .unset, .unset, .unset, .unset, .unset, .unset, .unset, .unset, .unset] [(.ref b848)])) _
    refine XS.astore X864.here hx rfl (hb hby at_76) rfl rfl (l' := #[.val (.long q0), .second, .val (.long q1), .second, .val (.long q2), .second, .val (.long q3), .second, .val (.long q4), .second, .val (.long q5), .second, .val (.long (j1_0 q0)), .second, .val (.long (j1_0 q1)), .second, .val (.long (v2 q2 (j1_0 q0))), .second, .val (.long (v2 q3 (j1_0 q1))), .second, .val (.long (v2 q4 (j1_0 q0))), .second, .val (.long (v2 q5 (j1_0 q1))), .second, .val (.ref b832), .val (.ref b848), .unset, .unset, .unset, .unset, .unset, .unset, .unset, .unset, .unset, .unset]) rfl ?_
    show Steps p.tables e below (T864.setTop (mkF m 78 #[.val (.long q0), .second, .val (.long q1), .second, .val (.long q2), .second, .val (.long q3), .second, .val (.long q4), .second, .val (.long q5), .second, .val (.long (j1_0 q0)), .second, .val (.long (j1_0 q1)), .second, .val (.long (v2 q2 (j1_0 q0))), .second, .val (.long (v2 q3 (j1_0 q1))), .second, .val (.long (v2 q4 (j1_0 q0))), .second, .val (.long (v2 q5 (j1_0 q1))), .second, .val (.ref b832), .val (.ref b848), .unset, .unset, .unset, .unset, .unset, .unset, .unset, .unset, .unset, .unset] [])) _
    refine XS.iconst X864.here hx rfl (hb hby at_78) ?_
    show Steps p.tables e below (T864.setTop (mkF m 79 #[.val (.long q0), .second, .val (.long q1), .second, .val (.long q2), .second, .val (.long q3), .second, .val (.long q4), .second, .val (.long q5), .second, .val (.long (j1_0 q0)), .second, .val (.long (j1_0 q1)), .second, .val (.long (v2 q2 (j1_0 q0))), .second, .val (.long (v2 q3 (j1_0 q1))), .second, .val (.long (v2 q4 (j1_0 q0))), .second, .val (.long (v2 q5 (j1_0 q1))), .second, .val (.ref b832), .val (.ref b848), .unset, .unset, .unset, .unset, .unset, .unset, .unset, .unset, .unset, .unset] [(.int (2 : Int32))])) _
    refine st871 _ ?_
    show Steps p.tables e below (T871.setTop (mkF m 81 #[.val (.long q0), .second, .val (.long q1), .second, .val (.long q2), .second, .val (.long q3), .second, .val (.long q4), .second, .val (.long q5), .second, .val (.long (j1_0 q0)), .second, .val (.long (j1_0 q1)), .second, .val (.long (v2 q2 (j1_0 q0))), .second, .val (.long (v2 q3 (j1_0 q1))), .second, .val (.long (v2 q4 (j1_0 q0))), .second, .val (.long (v2 q5 (j1_0 q1))), .second, .val (.ref b832), .val (.ref b848), .unset, .unset, .unset, .unset, .unset, .unset, .unset, .unset, .unset, .unset] [(.ref b871)])) _
    refine XS.dup X871.here hx rfl (hb hby at_81) rfl rfl ?_
    show Steps p.tables e below (T871.setTop (mkF m 82 #[.val (.long q0), .second, .val (.long q1), .second, .val (.long q2), .second, .val (.long q3), .second, .val (.long q4), .second, .val (.long q5), .second, .val (.long (j1_0 q0)), .second, .val (.long (j1_0 q1)), .second, .val (.long (v2 q2 (j1_0 q0))), .second, .val (.long (v2 q3 (j1_0 q1))), .second, .val (.long (v2 q4 (j1_0 q0))), .second, .val (.long (v2 q5 (j1_0 q1))), .second, .val (.ref b832), .val (.ref b848), .unset, .unset, .unset, .unset, .unset, .unset, .unset, .unset, .unset, .unset] [(.ref b871), (.ref b871)])) _
    refine XS.iconst X871.here hx rfl (hb hby at_82) ?_
    show Steps p.tables e below (T871.setTop (mkF m 83 #[.val (.long q0), .second, .val (.long q1), .second, .val (.long q2), .second, .val (.long q3), .second, .val (.long q4), .second, .val (.long q5), .second, .val (.long (j1_0 q0)), .second, .val (.long (j1_0 q1)), .second, .val (.long (v2 q2 (j1_0 q0))), .second, .val (.long (v2 q3 (j1_0 q1))), .second, .val (.long (v2 q4 (j1_0 q0))), .second, .val (.long (v2 q5 (j1_0 q1))), .second, .val (.ref b832), .val (.ref b848), .unset, .unset, .unset, .unset, .unset, .unset, .unset, .unset, .unset, .unset] [(.int (0 : Int32)), (.ref b871), (.ref b871)])) _
    refine XS.lload X871.here hx rfl (hb hby at_83) rfl ?_
    show Steps p.tables e below (T871.setTop (mkF m 85 #[.val (.long q0), .second, .val (.long q1), .second, .val (.long q2), .second, .val (.long q3), .second, .val (.long q4), .second, .val (.long q5), .second, .val (.long (j1_0 q0)), .second, .val (.long (j1_0 q1)), .second, .val (.long (v2 q2 (j1_0 q0))), .second, .val (.long (v2 q3 (j1_0 q1))), .second, .val (.long (v2 q4 (j1_0 q0))), .second, .val (.long (v2 q5 (j1_0 q1))), .second, .val (.ref b832), .val (.ref b848), .unset, .unset, .unset, .unset, .unset, .unset, .unset, .unset, .unset, .unset] [(.long (v2 q4 (j1_0 q0))), (.int (0 : Int32)), (.ref b871), (.ref b871)])) _
    refine st881 _ ?_
    show Steps p.tables e below (T881.setTop (mkF m 86 #[.val (.long q0), .second, .val (.long q1), .second, .val (.long q2), .second, .val (.long q3), .second, .val (.long q4), .second, .val (.long q5), .second, .val (.long (j1_0 q0)), .second, .val (.long (j1_0 q1)), .second, .val (.long (v2 q2 (j1_0 q0))), .second, .val (.long (v2 q3 (j1_0 q1))), .second, .val (.long (v2 q4 (j1_0 q0))), .second, .val (.long (v2 q5 (j1_0 q1))), .second, .val (.ref b832), .val (.ref b848), .unset, .unset, .unset, .unset, .unset, .unset, .unset, .unset, .unset, .unset] [(.ref b871)])) _
    refine XS.dup X881.here hx rfl (hb hby at_86) rfl rfl ?_
    show Steps p.tables e below (T881.setTop (mkF m 87 #[.val (.long q0), .second, .val (.long q1), .second, .val (.long q2), .second, .val (.long q3), .second, .val (.long q4), .second, .val (.long q5), .second, .val (.long (j1_0 q0)), .second, .val (.long (j1_0 q1)), .second, .val (.long (v2 q2 (j1_0 q0))), .second, .val (.long (v2 q3 (j1_0 q1))), .second, .val (.long (v2 q4 (j1_0 q0))), .second, .val (.long (v2 q5 (j1_0 q1))), .second, .val (.ref b832), .val (.ref b848), .unset, .unset, .unset, .unset, .unset, .unset, .unset, .unset, .unset, .unset] [(.ref b871), (.ref b871)])) _
    refine XS.iconst X881.here hx rfl (hb hby at_87) ?_
    show Steps p.tables e below (T881.setTop (mkF m 88 #[.val (.long q0), .second, .val (.long q1), .second, .val (.long q2), .second, .val (.long q3), .second, .val (.long q4), .second, .val (.long q5), .second, .val (.long (j1_0 q0)), .second, .val (.long (j1_0 q1)), .second, .val (.long (v2 q2 (j1_0 q0))), .second, .val (.long (v2 q3 (j1_0 q1))), .second, .val (.long (v2 q4 (j1_0 q0))), .second, .val (.long (v2 q5 (j1_0 q1))), .second, .val (.ref b832), .val (.ref b848), .unset, .unset, .unset, .unset, .unset, .unset, .unset, .unset, .unset, .unset] [(.int (1 : Int32)), (.ref b871), (.ref b871)])) _
    refine XS.lload X881.here hx rfl (hb hby at_88) rfl ?_
    show Steps p.tables e below (T881.setTop (mkF m 90 #[.val (.long q0), .second, .val (.long q1), .second, .val (.long q2), .second, .val (.long q3), .second, .val (.long q4), .second, .val (.long q5), .second, .val (.long (j1_0 q0)), .second, .val (.long (j1_0 q1)), .second, .val (.long (v2 q2 (j1_0 q0))), .second, .val (.long (v2 q3 (j1_0 q1))), .second, .val (.long (v2 q4 (j1_0 q0))), .second, .val (.long (v2 q5 (j1_0 q1))), .second, .val (.ref b832), .val (.ref b848), .unset, .unset, .unset, .unset, .unset, .unset, .unset, .unset, .unset, .unset] [(.long (v2 q5 (j1_0 q1))), (.int (1 : Int32)), (.ref b871), (.ref b871)])) _
    refine st892 _ ?_
    show Steps p.tables e below (T892.setTop (mkF m 91 #[.val (.long q0), .second, .val (.long q1), .second, .val (.long q2), .second, .val (.long q3), .second, .val (.long q4), .second, .val (.long q5), .second, .val (.long (j1_0 q0)), .second, .val (.long (j1_0 q1)), .second, .val (.long (v2 q2 (j1_0 q0))), .second, .val (.long (v2 q3 (j1_0 q1))), .second, .val (.long (v2 q4 (j1_0 q0))), .second, .val (.long (v2 q5 (j1_0 q1))), .second, .val (.ref b832), .val (.ref b848), .unset, .unset, .unset, .unset, .unset, .unset, .unset, .unset, .unset, .unset] [(.ref b871)])) _
    refine XS.astore X892.here hx rfl (hb hby at_91) rfl rfl (l' := #[.val (.long q0), .second, .val (.long q1), .second, .val (.long q2), .second, .val (.long q3), .second, .val (.long q4), .second, .val (.long q5), .second, .val (.long (j1_0 q0)), .second, .val (.long (j1_0 q1)), .second, .val (.long (v2 q2 (j1_0 q0))), .second, .val (.long (v2 q3 (j1_0 q1))), .second, .val (.long (v2 q4 (j1_0 q0))), .second, .val (.long (v2 q5 (j1_0 q1))), .second, .val (.ref b832), .val (.ref b848), .val (.ref b871), .unset, .unset, .unset, .unset, .unset, .unset, .unset, .unset, .unset]) rfl ?_
    show Steps p.tables e below (T892.setTop (mkF m 93 #[.val (.long q0), .second, .val (.long q1), .second, .val (.long q2), .second, .val (.long q3), .second, .val (.long q4), .second, .val (.long q5), .second, .val (.long (j1_0 q0)), .second, .val (.long (j1_0 q1)), .second, .val (.long (v2 q2 (j1_0 q0))), .second, .val (.long (v2 q3 (j1_0 q1))), .second, .val (.long (v2 q4 (j1_0 q0))), .second, .val (.long (v2 q5 (j1_0 q1))), .second, .val (.ref b832), .val (.ref b848), .val (.ref b871), .unset, .unset, .unset, .unset, .unset, .unset, .unset, .unset, .unset] [])) _
    refine st901 _ ?_
    show Steps p.tables e below (T901.setTop (mkF m 96 #[.val (.long q0), .second, .val (.long q1), .second, .val (.long q2), .second, .val (.long q3), .second, .val (.long q4), .second, .val (.long q5), .second, .val (.long (j1_0 q0)), .second, .val (.long (j1_0 q1)), .second, .val (.long (v2 q2 (j1_0 q0))), .second, .val (.long (v2 q3 (j1_0 q1))), .second, .val (.long (v2 q4 (j1_0 q0))), .second, .val (.long (v2 q5 (j1_0 q1))), .second, .val (.ref b832), .val (.ref b848), .val (.ref b871), .unset, .unset, .unset, .unset, .unset, .unset, .unset, .unset, .unset] [(.ref b901)])) _
    refine XS.dup X901.here hx rfl (hb hby at_96) rfl rfl ?_
    show Steps p.tables e below (T901.setTop (mkF m 97 #[.val (.long q0), .second, .val (.long q1), .second, .val (.long q2), .second, .val (.long q3), .second, .val (.long q4), .second, .val (.long q5), .second, .val (.long (j1_0 q0)), .second, .val (.long (j1_0 q1)), .second, .val (.long (v2 q2 (j1_0 q0))), .second, .val (.long (v2 q3 (j1_0 q1))), .second, .val (.long (v2 q4 (j1_0 q0))), .second, .val (.long (v2 q5 (j1_0 q1))), .second, .val (.ref b832), .val (.ref b848), .val (.ref b871), .unset, .unset, .unset, .unset, .unset, .unset, .unset, .unset, .unset] [(.ref b901), (.ref b901)])) _
    refine XS.aload X901.here hx rfl (hb hby at_97) rfl rfl ?_
    exact k)
  obtain ⟨_, _, ⟨T915, L915, k915, n915⟩, -, X915, hSi915, hgr915, ⟨Lc915, hQ915, l915, y915, z915⟩, st915⟩ := X901.specialBackS hx (y := (⟨"com/example/stowline/stowline/VolumeBound", "<init>", "([J)V"⟩ : MethodName)) rfl hown (mvT hZ (hw _ (List.mem_of_getElem? (i := 12) rfl))) (mvT hZ (hw _ (List.mem_of_getElem? (i := 13) rfl))) (mvT hZ (hw _ (List.mem_of_getElem? (i := 14) rfl))) (by decide) (backOfS (W := 1) (rm3_2 l Z aw hw [] b901 b832 ((j1_0 q0)) ((j1_0 q1)) k832 h901 n0 Z911 A901 f912 f913 f914 f903 f902 g_b901 (Ne.symm ne908) (own_p1 _ (own_cap q0)) (own_p1 _ (own_cap q1))) hZ (hw _ (List.mem_of_getElem? (i := 14) rfl)) (hw _ (List.mem_of_getElem? (i := 11) rfl)) (by decide) (by decide)) (g := (mkF m 99 #[.val (.long q0), .second, .val (.long q1), .second, .val (.long q2), .second, .val (.long q3), .second, .val (.long q4), .second, .val (.long q5), .second, .val (.long (j1_0 q0)), .second, .val (.long (j1_0 q1)), .second, .val (.long (v2 q2 (j1_0 q0))), .second, .val (.long (v2 q3 (j1_0 q1))), .second, .val (.long (v2 q4 (j1_0 q0))), .second, .val (.long (v2 q5 (j1_0 q1))), .second, .val (.ref b832), .val (.ref b848), .val (.ref b871), .unset, .unset, .unset, .unset, .unset, .unset, .unset, .unset, .unset] [(.ref b832), (.ref b901), (.ref b901)])) rfl (by rw [hml]; rfl) (Steps.refl _) (a := b901) (argsL := [(.ref b832)]) (rest := [(.ref b901)]) (lenOf pd_6 rfl) rfl (by show 2 * 0 + _ ≤ _; exact Nat.le_of_eq rfl) (hb hby at_99) (fun _ _ => ⟨rfl, e901, (by decide : 4 + 5 ≤ _), (by decide : 9 + 50 ≤ _)⟩)
  dsimp only [Pt.U, Pt.locs, Pt.cells, Pt.slots] at X915 l915 y915 z915 st915 hQ915 hSi915 hgr915
  subst l915 y915 z915
  obtain ⟨X915, hS, hZ, hown⟩ := rebS hS (show _ ≤ T901.heap.size from own_hk hk e901) X915 hSi915 hgr915 hZ hown
  obtain ⟨h915, e915⟩ : ∃ z, T915.heap = z := ⟨_, rfl⟩
  rw [e915] at hQ915
  obtain ⟨cx0915, cx1915, cx2915, cy0915, cy1915, cy2915, rfl, N915q, K915q, g_cx0915, zz_cx0915, g_cx1915, zz_cx1915, g_cx2915, zz_cx2915, nx_cx0915_cx1915, nx_cx0915_cx2915, nx_cx1915_cx2915, f917, f918, f919, f920, f921, f922, f923⟩ := hQ915
  have f924 := f902.keep K915q
  have f925 := f903.keep K915q (ninS ne908 nin0)
  have f926 := f904.keep K915q
  have f927 := f905.keep K915q (ninS ne909 nin0)
  have f928 := f906.keep K915q
  have f929 := f907.keep K915q (ninS ne910 nin0)
  have f930 := A901.keep K915q
  have ne934 : b832 ≠ cx0915 := Nat.ne_of_lt (Nat.lt_of_lt_of_le f902.lt zz_cx0915)
  have ne935 : b848 ≠ cx0915 := Nat.ne_of_lt (Nat.lt_of_lt_of_le f904.lt zz_cx0915)
  have ne936 : b871 ≠ cx0915 := Nat.ne_of_lt (Nat.lt_of_lt_of_le f906.lt zz_cx0915)
  have ne937 : b901 ≠ cx0915 := Nat.ne_of_lt (Nat.lt_of_lt_of_le A901.lt zz_cx0915)
  have ne938 : b832 ≠ cx1915 := Nat.ne_of_lt (Nat.lt_of_lt_of_le f902.lt zz_cx1915)
  have ne939 : b848 ≠ cx1915 := Nat.ne_of_lt (Nat.lt_of_lt_of_le f904.lt zz_cx1915)
  have ne940 : b871 ≠ cx1915 := Nat.ne_of_lt (Nat.lt_of_lt_of_le f906.lt zz_cx1915)
  have ne941 : b901 ≠ cx1915 := Nat.ne_of_lt (Nat.lt_of_lt_of_le A901.lt zz_cx1915)
  have ne942 : b832 ≠ cx2915 := Nat.ne_of_lt (Nat.lt_of_lt_of_le f902.lt zz_cx2915)
  have ne943 : b848 ≠ cx2915 := Nat.ne_of_lt (Nat.lt_of_lt_of_le f904.lt zz_cx2915)
  have ne944 : b871 ≠ cx2915 := Nat.ne_of_lt (Nat.lt_of_lt_of_le f906.lt zz_cx2915)
  have ne945 : b901 ≠ cx2915 := Nat.ne_of_lt (Nat.lt_of_lt_of_le A901.lt zz_cx2915)
  have Z915 := Nat.le_trans Z911 K915q.1
  have hk : T915.heap.size ≤ h915.size := by rw [e915]; exact Nat.le_refl _
  have N915 := Fr.app N900 N915q
  have pre947 := fun (t : State) (k : Steps p.tables e below (T915.setTop (mkF m 108 #[.val (.long q0), .second, .val (.long q1), .second, .val (.long q2), .second, .val (.long q3), .second, .val (.long q4), .second, .val (.long q5), .second, .val (.long (j1_0 q0)), .second, .val (.long (j1_0 q1)), .second, .val (.long (v2 q2 (j1_0 q0))), .second, .val (.long (v2 q3 (j1_0 q1))), .second, .val (.long (v2 q4 (j1_0 q0))), .second, .val (.long (v2 q5 (j1_0 q1))), .second, .val (.ref b832), .val (.ref b848), .val (.ref b871), .val (.ref b901), .unset, .unset, .unset, .unset, .unset, .unset, .unset, .unset] [(.ref b848), (.ref b901)])) t) => pre916 t (by
    show Steps p.tables e below (T901.setTop (mkF m 99 #[.val (.long q0), .second, .val (.long q1), .second, .val (.long q2), .second, .val (.long q3), .second, .val (.long q4), .second, .val (.long q5), .second, .val (.long (j1_0 q0)), .second, .val (.long (j1_0 q1)), .second, .val (.long (v2 q2 (j1_0 q0))), .second, .val (.long (v2 q3 (j1_0 q1))), .second, .val (.long (v2 q4 (j1_0 q0))), .second, .val (.long (v2 q5 (j1_0 q1))), .second, .val (.ref b832), .val (.ref b848), .val (.ref b871), .unset, .unset, .unset, .unset, .unset, .unset, .unset, .unset, .unset] [(.ref b832), (.ref b901), (.ref b901)])) _
    refine st915.trans ?_
    show Steps p.tables e below (T915.setTop (mkF m 102 #[.val (.long q0), .second, .val (.long q1), .second, .val (.long q2), .second, .val (.long q3), .second, .val (.long q4), .second, .val (.long q5), .second, .val (.long (j1_0 q0)), .second, .val (.long (j1_0 q1)), .second, .val (.long (v2 q2 (j1_0 q0))), .second, .val (.long (v2 q3 (j1_0 q1))), .second, .val (.long (v2 q4 (j1_0 q0))), .second, .val (.long (v2 q5 (j1_0 q1))), .second, .val (.ref b832), .val (.ref b848), .val (.ref b871), .unset, .unset, .unset, .unset, .unset, .unset, .unset, .unset, .unset] [(.ref b901)])) _
    refine XS.astore X915.here hx rfl (hb hby at_102) rfl rfl (l' := #[.val (.long q0), .second, .val (.long q1), .second, .val (.long q2), .second, .val (.long q3), .second, .val (.long q4), .second, .val (.long q5), .second, .val (.long (j1_0 q0)), .second, .val (.long (j1_0 q1)), .second, .val (.long (v2 q2 (j1_0 q0))), .second, .val (.long (v2 q3 (j1_0 q1))), .second, .val (.long (v2 q4 (j1_0 q0))), .second, .val (.long (v2 q5 (j1_0 q1))), .second, .val (.ref b832), .val (.ref b848), .val (.ref b871), .val (.ref b901), .unset, .unset, .unset, .unset, .unset, .unset, .unset, .unset]) rfl ?_
    show Steps p.tables e below (T915.setTop (mkF m 104 #[.val (.long q0), .second, .val (.long q1), .second, .val (.long q2), .second, .val (.long q3), .second, .val (.long q4), .second, .val (.long q5), .second, .val (.long (j1_0 q0)), .second, .val (.long (j1_0 q1)), .second, .val (.long (v2 q2 (j1_0 q0))), .second, .val (.long (v2 q3 (j1_0 q1))), .second, .val (.long (v2 q4 (j1_0 q0))), .second, .val (.long (v2 q5 (j1_0 q1))), .second, .val (.ref b832), .val (.ref b848), .val (.ref b871), .val (.ref b901), .unset, .unset, .unset, .unset, .unset, .unset, .unset, .unset] [])) _
    refine XS.aload X915.here hx rfl (hb hby at_104) rfl rfl ?_
    show Steps p.tables e below (T915.setTop (mkF m 106 #[.val (.long q0), .second, .val (.long q1), .second, .val (.long q2), .second, .val (.long q3), .second, .val (.long q4), .second, .val (.long q5), .second, .val (.long (j1_0 q0)), .second, .val (.long (j1_0 q1)), .second, .val (.long (v2 q2 (j1_0 q0))), .second, .val (.long (v2 q3 (j1_0 q1))), .second, .val (.long (v2 q4 (j1_0 q0))), .second, .val (.long (v2 q5 (j1_0 q1))), .second, .val (.ref b832), .val (.ref b848), .val (.ref b871), .val (.ref b901), .unset, .unset, .unset, .unset, .unset, .unset, .unset, .unset] [(.ref b901)])) _
    refine XS.aload X915.here hx rfl (hb hby at_106) rfl rfl ?_
    exact k)
  obtain ⟨cq946, kq946, q946a, q946b, q946c⟩ := isOf hZ e915 f917
  obtain ⟨_, _, ⟨T946, L946, k946, n946⟩, -, X946, hSi946, hgr946, ⟨Lc946, hQ946, l946, y946, z946⟩, st946⟩ := X915.virtualBackS hx (y := (⟨"com/example/stowline/stowline/VolumeBound", "add", "([J)V"⟩ : MethodName)) (z := (⟨"com/example/stowline/stowline/VolumeBound", "add", "([J)V"⟩ : MethodName)) hown (mvT hZ (hw _ (List.mem_of_getElem? (i := 49) rfl))) (mvT hZ (hw _ (List.mem_of_getElem? (i := 50) rfl))) (notFace_of_selects (args := #[]) (mvT hZ (hw _ (List.mem_of_getElem? (i := 52) rfl)))) (mvT hZ (hw _ (List.mem_of_getElem? (i := 52) rfl))) (mvT hZ (hw _ (List.mem_of_getElem? (i := 51) rfl))) (by decide) (backOfS (W := 0) (rm7_2 l Z aw hw [] b901 b848 cx0915 cx1915 cx2915 ((j1_0 q0)) ((j1_0 q1)) ((0 : Int64)) ((0 : Int64)) ((0 : Int64)) ((0 : Int64)) ((v2 q2 (j1_0 q0))) ((v2 q3 (j1_0 q1))) cy0915 cy1915 cy2915 k848 h915 n0 Z915 f917 f918 f919 f920 f921 f922 f923 f927 g_cx1915 g_cx2915 ne941 ne945 nx_cx0915_cx1915 nx_cx0915_cx2915 nx_cx1915_cx2915 ne939 ne943 (own_p0 _ (own_siz q2 _ (own_cap q0)).1) (own_p0 _ (own_siz q3 _ (own_cap q1)).1) (own_pc _ _ (own_siz q2 _ (own_cap q0)).2) (own_pc _ _ (own_siz q3 _ (own_cap q1)).2)) hZ (hw _ (List.mem_of_getElem? (i := 53) rfl)) (hw _ (List.mem_of_getElem? (i := 11) rfl)) (by decide) (by decide)) q946a q946c (g := (mkF m 108 #[.val (.long q0), .second, .val (.long q1), .second, .val (.long q2), .second, .val (.long q3), .second, .val (.long q4), .second, .val (.long q5), .second, .val (.long (j1_0 q0)), .second, .val (.long (j1_0 q1)), .second, .val (.long (v2 q2 (j1_0 q0))), .second, .val (.long (v2 q3 (j1_0 q1))), .second, .val (.long (v2 q4 (j1_0 q0))), .second, .val (.long (v2 q5 (j1_0 q1))), .second, .val (.ref b832), .val (.ref b848), .val (.ref b871), .val (.ref b901), .unset, .unset, .unset, .unset, .unset, .unset, .unset, .unset] [(.ref b848), (.ref b901)])) rfl (by rw [hml]; rfl) (Steps.refl _) (argsL := [(.ref b848)]) (rest := []) (lenOf pd_6 rfl) rfl (by show 2 * 0 + _ ≤ _; exact Nat.le_of_eq rfl) (hb hby at_108) (fun _ _ => ⟨rfl, e915, (by decide : 9 + 2 ≤ _), (by decide : 59 + 24 ≤ _)⟩)
  dsimp only [Pt.U, Pt.locs, Pt.cells, Pt.slots] at X946 l946 y946 z946 st946 hQ946 hSi946 hgr946
  subst l946 y946 z946
  obtain ⟨X946, hS, hZ, hown⟩ := rebS hS (show _ ≤ T915.heap.size from own_hk hk e915) X946 hSi946 hgr946 hZ hown
  obtain ⟨h946, e946⟩ : ∃ z, T946.heap = z := ⟨_, rfl⟩
  rw [e946] at hQ946
  obtain ⟨rfl, N946q, K946q, f948, f949⟩ := hQ946
  have f950 := f924.keep K946q
  have f951 := f925.keep K946q (ninS ne938 (ninS ne942 nin0))
  have f952 := f926.keep K946q
  have f953 := f927.keep K946q (ninS ne939 (ninS ne943 nin0))
  have f954 := f928.keep K946q
  have f955 := f929.keep K946q (ninS ne940 (ninS ne944 nin0))
  have f956 := f917.keep K946q
  have f957 := f918.keep K946q (ninS ne941 (ninS ne945 nin0))
  have f958 := f919.keep K946q (ninS ne941 (ninS ne945 nin0))
  have f959 := f920.keep K946q (ninS ne941 (ninS ne945 nin0))
  have f960 := f921.keep K946q (ninS nx_cx0915_cx1915 (ninS nx_cx0915_cx2915 nin0))
  have Z946 := Nat.le_trans Z915 K946q.1
  have hk : T946.heap.size ≤ h946.size := by rw [e946]; exact Nat.le_refl _
  have N946 := Fr.app N915 N946q
  have pre964 := fun (t : State) (k : Steps p.tables e below (T946.setTop (mkF m 115 #[.val (.long q0), .second, .val (.long q1), .second, .val (.long q2), .second, .val (.long q3), .second, .val (.long q4), .second, .val (.long q5), .second, .val (.long (j1_0 q0)), .second, .val (.long (j1_0 q1)), .second, .val (.long (v2 q2 (j1_0 q0))), .second, .val (.long (v2 q3 (j1_0 q1))), .second, .val (.long (v2 q4 (j1_0 q0))), .second, .val (.long (v2 q5 (j1_0 q1))), .second, .val (.ref b832), .val (.ref b848), .val (.ref b871), .val (.ref b901), .unset, .unset, .unset, .unset, .unset, .unset, .unset, .unset] [(.ref b871), (.ref b901)])) t) => pre947 t (by
    show Steps p.tables e below (T915.setTop (mkF m 108 #[.val (.long q0), .second, .val (.long q1), .second, .val (.long q2), .second, .val (.long q3), .second, .val (.long q4), .second, .val (.long q5), .second, .val (.long (j1_0 q0)), .second, .val (.long (j1_0 q1)), .second, .val (.long (v2 q2 (j1_0 q0))), .second, .val (.long (v2 q3 (j1_0 q1))), .second, .val (.long (v2 q4 (j1_0 q0))), .second, .val (.long (v2 q5 (j1_0 q1))), .second, .val (.ref b832), .val (.ref b848), .val (.ref b871), .val (.ref b901), .unset, .unset, .unset, .unset, .unset, .unset, .unset, .unset] [(.ref b848), (.ref b901)])) _
    refine st946.trans ?_
    show Steps p.tables e below (T946.setTop (mkF m 111 #[.val (.long q0), .second, .val (.long q1), .second, .val (.long q2), .second, .val (.long q3), .second, .val (.long q4), .second, .val (.long q5), .second, .val (.long (j1_0 q0)), .second, .val (.long (j1_0 q1)), .second, .val (.long (v2 q2 (j1_0 q0))), .second, .val (.long (v2 q3 (j1_0 q1))), .second, .val (.long (v2 q4 (j1_0 q0))), .second, .val (.long (v2 q5 (j1_0 q1))), .second, .val (.ref b832), .val (.ref b848), .val (.ref b871), .val (.ref b901), .unset, .unset, .unset, .unset, .unset, .unset, .unset, .unset] [])) _
    refine XS.aload X946.here hx rfl (hb hby at_111) rfl rfl ?_
    show Steps p.tables e below (T946.setTop (mkF m 113 #[.val (.long q0), .second, .val (.long q1), .second, .val (.long q2), .second, .val (.long q3), .second, .val (.long q4), .second, .val (.long q5), .second, .val (.long (j1_0 q0)), .second, .val (.long (j1_0 q1)), .second, .val (.long (v2 q2 (j1_0 q0))), .second, .val (.long (v2 q3 (j1_0 q1))), .second, .val (.long (v2 q4 (j1_0 q0))), .second, .val (.long (v2 q5 (j1_0 q1))), .second, .val (.ref b832), .val (.ref b848), .val (.ref b871), .val (.ref b901), .unset, .unset, .unset, .unset, .unset, .unset, .unset, .unset] [(.ref b901)])) _
    refine XS.aload X946.here hx rfl (hb hby at_113) rfl rfl ?_
    exact k)
  obtain ⟨cq963, kq963, q963a, q963b, q963c⟩ := isOf hZ e946 f956
  obtain ⟨_, _, ⟨T963, L963, k963, n963⟩, -, X963, hSi963, hgr963, ⟨Lc963, hQ963, l963, y963, z963⟩, st963⟩ := X946.virtualBackS hx (y := (⟨"com/example/stowline/stowline/VolumeBound", "add", "([J)V"⟩ : MethodName)) (z := (⟨"com/example/stowline/stowline/VolumeBound", "add", "([J)V"⟩ : MethodName)) hown (mvT hZ (hw _ (List.mem_of_getElem? (i := 49) rfl))) (mvT hZ (hw _ (List.mem_of_getElem? (i := 50) rfl))) (notFace_of_selects (args := #[]) (mvT hZ (hw _ (List.mem_of_getElem? (i := 52) rfl)))) (mvT hZ (hw _ (List.mem_of_getElem? (i := 52) rfl))) (mvT hZ (hw _ (List.mem_of_getElem? (i := 51) rfl))) (by decide) (backOfS (W := 0) (rm7_2 l Z aw hw [] b901 b871 cx0915 cx1915 cx2915 ((j1_0 q0)) ((j1_0 q1)) ((j7_2_0 (j1_0 q0) (0 : Int64) (0 : Int64) (v2 q2 (j1_0 q0)))) ((j7_2_2 (j1_0 q1) (0 : Int64) (0 : Int64) (v2 q3 (j1_0 q1)))) ((j7_2_1 (j1_0 q0) (0 : Int64) (v2 q2 (j1_0 q0)))) ((j7_2_3 (j1_0 q1) (0 : Int64) (v2 q3 (j1_0 q1)))) ((v2 q4 (j1_0 q0))) ((v2 q5 (j1_0 q1))) cy0915 cy1915 cy2915 k871 h946 n0 Z946 f956 f957 f958 f959 f960 f948 f949 f955 g_cx1915 g_cx2915 ne941 ne945 nx_cx0915_cx1915 nx_cx0915_cx2915 nx_cx1915_cx2915 ne940 ne944 (own_p0 _ (own_siz q4 _ (own_cap q0)).1) (own_p0 _ (own_siz q5 _ (own_cap q1)).1) (own_pc _ _ (own_siz q4 _ (own_cap q0)).2) (own_pc _ _ (own_siz q5 _ (own_cap q1)).2)) hZ (hw _ (List.mem_of_getElem? (i := 53) rfl)) (hw _ (List.mem_of_getElem? (i := 11) rfl)) (by decide) (by decide)) q963a q963c (g := (mkF m 115 #[.val (.long q0), .second, .val (.long q1), .second, .val (.long q2), .second, .val (.long q3), .second, .val (.long q4), .second, .val (.long q5), .second, .val (.long (j1_0 q0)), .second, .val (.long (j1_0 q1)), .second, .val (.long (v2 q2 (j1_0 q0))), .second, .val (.long (v2 q3 (j1_0 q1))), .second, .val (.long (v2 q4 (j1_0 q0))), .second, .val (.long (v2 q5 (j1_0 q1))), .second, .val (.ref b832), .val (.ref b848), .val (.ref b871), .val (.ref b901), .unset, .unset, .unset, .unset, .unset, .unset, .unset, .unset] [(.ref b871), (.ref b901)])) rfl (by rw [hml]; rfl) (Steps.refl _) (argsL := [(.ref b871)]) (rest := []) (lenOf pd_6 rfl) rfl (by show 2 * 0 + _ ≤ _; exact Nat.le_of_eq rfl) (hb hby at_115) (fun _ _ => ⟨rfl, e946, (by decide : 11 + 2 ≤ _), (by decide : 83 + 24 ≤ _)⟩)
  dsimp only [Pt.U, Pt.locs, Pt.cells, Pt.slots] at X963 l963 y963 z963 st963 hQ963 hSi963 hgr963
  subst l963 y963 z963
  obtain ⟨X963, hS, hZ, hown⟩ := rebS hS (show _ ≤ T946.heap.size from own_hk hk e946) X963 hSi963 hgr963 hZ hown
  obtain ⟨h963, e963⟩ : ∃ z, T963.heap = z := ⟨_, rfl⟩
  rw [e963] at hQ963
  obtain ⟨rfl, N963q, K963q, f965, f966⟩ := hQ963
  have f967 := f950.keep K963q
  have f968 := f951.keep K963q (ninS ne938 (ninS ne942 nin0))
  have f969 := f952.keep K963q
  have f970 := f953.keep K963q (ninS ne939 (ninS ne943 nin0))
  have f971 := f954.keep K963q
  have f972 := f955.keep K963q (ninS ne940 (ninS ne944 nin0))
  have f973 := f956.keep K963q
  have f974 := f957.keep K963q (ninS ne941 (ninS ne945 nin0))
  have f975 := f958.keep K963q (ninS ne941 (ninS ne945 nin0))
  have f976 := f959.keep K963q (ninS ne941 (ninS ne945 nin0))
  have f977 := f960.keep K963q (ninS nx_cx0915_cx1915 (ninS nx_cx0915_cx2915 nin0))
  have Z963 := Nat.le_trans Z946 K963q.1
  have hk : T963.heap.size ≤ h963.size := by rw [e963]; exact Nat.le_refl _
  have N963 := Fr.app N946 N963q
  obtain ⟨cq980, kq980, q980a, q980b, q980c⟩ := isOf hZ e963 f973
  obtain ⟨_, _, ⟨T980, L980, k980, n980⟩, -, X980, ⟨Lc980, hQ980, l980, y980, z980⟩, st980⟩ := X963.virtualBack hx (y := (⟨"com/example/stowline/stowline/VolumeBound", "value", "()J"⟩ : MethodName)) (z := (⟨"com/example/stowline/stowline/VolumeBound", "value", "()J"⟩ : MethodName)) hown (mvT hZ (hw _ (List.mem_of_getElem? (i := 63) rfl))) (mvT hZ (hw _ (List.mem_of_getElem? (i := 64) rfl))) (notFace_of_selects (args := #[]) (mvT hZ (hw _ (List.mem_of_getElem? (i := 66) rfl)))) (mvT hZ (hw _ (List.mem_of_getElem? (i := 66) rfl))) (mvT hZ (hw _ (List.mem_of_getElem? (i := 65) rfl))) (by decide) (backOf (W := 0) (rm10_2 l Z aw hw [] b901 cx0915 cx1915 cx2915 ((j1_0 q0)) ((j1_0 q1)) ((j7_2_0 (j1_0 q0) (j7_2_0 (j1_0 q0) (0 : Int64) (0 : Int64) (v2 q2 (j1_0 q0))) (j7_2_1 (j1_0 q0) (0 : Int64) (v2 q2 (j1_0 q0))) (v2 q4 (j1_0 q0)))) ((j7_2_2 (j1_0 q1) (j7_2_2 (j1_0 q1) (0 : Int64) (0 : Int64) (v2 q3 (j1_0 q1))) (j7_2_3 (j1_0 q1) (0 : Int64) (v2 q3 (j1_0 q1))) (v2 q5 (j1_0 q1)))) ((j7_2_1 (j1_0 q0) (j7_2_1 (j1_0 q0) (0 : Int64) (v2 q2 (j1_0 q0))) (v2 q4 (j1_0 q0)))) ((j7_2_3 (j1_0 q1) (j7_2_3 (j1_0 q1) (0 : Int64) (v2 q3 (j1_0 q1))) (v2 q5 (j1_0 q1)))) cy0915 cy1915 cy2915 h963 n0 Z963 f973 f974 f975 f976 f977 f965 f966) hZ (hw _ (List.mem_of_getElem? (i := 67) rfl)) (hw _ (List.mem_of_getElem? (i := 11) rfl)) (by decide) (by decide)) q980a q980c (g := (mkF m 120 #[.val (.long q0), .second, .val (.long q1), .second, .val (.long q2), .second, .val (.long q3), .second, .val (.long q4), .second, .val (.long q5), .second, .val (.long (j1_0 q0)), .second, .val (.long (j1_0 q1)), .second, .val (.long (v2 q2 (j1_0 q0))), .second, .val (.long (v2 q3 (j1_0 q1))), .second, .val (.long (v2 q4 (j1_0 q0))), .second, .val (.long (v2 q5 (j1_0 q1))), .second, .val (.ref b832), .val (.ref b848), .val (.ref b871), .val (.ref b901), .unset, .unset, .unset, .unset, .unset, .unset, .unset, .unset] [(.ref b901)])) rfl (by rw [hml]; rfl) (Steps.refl _) (argsL := []) (rest := []) (lenOf pd_10 rfl) rfl (by show 2 * 0 + _ ≤ _; exact Nat.le_of_eq rfl) (hb hby at_120) (fun _ _ => ⟨rfl, e963, (by decide : 13 + 0 ≤ _), (by decide : 107 + 0 ≤ _)⟩)
  dsimp only [Pt.U, Pt.locs, Pt.cells, Pt.slots] at X980 l980 y980 z980 st980 hQ980
  subst l980 y980 z980
  obtain ⟨rfl, N980q, e980⟩ := hQ980
  have N980 := Fr.app N963 N980q
  obtain ⟨_, _, ⟨T981, L981, k981, n981⟩, -, X981, ⟨Lc981, hQ981, l981, y981, z981⟩, st981⟩ := Jvm.LawKit.callS X980 hx (y := (⟨"com/example/stowline/stowline/VolumeBoundValuePinLaw", "ceilTwo", "(JJJ)J"⟩ : MethodName)) hown (mvT hZ (hw _ (List.mem_of_getElem? (i := 72) rfl))) (mvT hZ (hw _ (List.mem_of_getElem? (i := 73) rfl))) (mvT hZ (hw _ (List.mem_of_getElem? (i := 2) rfl))) (mvT hZ (hw _ (List.mem_of_getElem? (i := 74) rfl))) (by decide) (backOf (W := 0) (rm12 l Z aw hw [] ((v2 q2 (j1_0 q0))) ((v2 q4 (j1_0 q0))) ((j1_0 q0)) h963 n0 Z963 ) hZ (hw _ (List.mem_of_getElem? (i := 74) rfl)) (hw _ (List.mem_of_getElem? (i := 2) rfl)) (by decide) (by decide)) (g := (mkF m 131 #[.val (.long q0), .second, .val (.long q1), .second, .val (.long q2), .second, .val (.long q3), .second, .val (.long q4), .second, .val (.long q5), .second, .val (.long (j1_0 q0)), .second, .val (.long (j1_0 q1)), .second, .val (.long (v2 q2 (j1_0 q0))), .second, .val (.long (v2 q3 (j1_0 q1))), .second, .val (.long (v2 q4 (j1_0 q0))), .second, .val (.long (v2 q5 (j1_0 q1))), .second, .val (.ref b832), .val (.ref b848), .val (.ref b871), .val (.ref b901), .val (.long (j11_0 (j11_0 (0 : Int64) ((j7_2_0 (j1_0 q0) (j7_2_0 (j1_0 q0) (0 : Int64) (0 : Int64) (v2 q2 (j1_0 q0))) (j7_2_1 (j1_0 q0) (0 : Int64) (v2 q2 (j1_0 q0))) (v2 q4 (j1_0 q0))) + ((j10_2_0 (j7_2_1 (j1_0 q0) (j7_2_1 (j1_0 q0) (0 : Int64) (v2 q2 (j1_0 q0))) (v2 q4 (j1_0 q0)))).toInt64))) ((j7_2_2 (j1_0 q1) (j7_2_2 (j1_0 q1) (0 : Int64) (0 : Int64) (v2 q3 (j1_0 q1))) (j7_2_3 (j1_0 q1) (0 : Int64) (v2 q3 (j1_0 q1))) (v2 q5 (j1_0 q1))) + ((j10_2_1 (j7_2_3 (j1_0 q1) (j7_2_3 (j1_0 q1) (0 : Int64) (v2 q3 (j1_0 q1))) (v2 q5 (j1_0 q1)))).toInt64)))), .second, .unset, .unset, .unset, .unset, .unset, .unset] [(.long (j1_0 q0)), (.long (v2 q4 (j1_0 q0))), (.long (v2 q2 (j1_0 q0)))])) rfl (by rw [hml]; rfl) (argsL := [(.long (v2 q2 (j1_0 q0))), (.long (v2 q4 (j1_0 q0))), (.long (j1_0 q0))]) (rest := []) (lenOf pd_11 rfl) rfl (by show 2 * 0 + _ ≤ _; exact Nat.le_of_eq rfl) (hb hby at_131) (fun _ _ => ⟨rfl, e980, (by decide : 13 + 0 ≤ _), (by decide : 107 + 0 ≤ _)⟩)
  dsimp only [Pt.U, Pt.locs, Pt.cells, Pt.slots] at X981 l981 y981 z981 st981 hQ981
  subst l981 y981 z981
  obtain ⟨rfl, N981q, e981⟩ := hQ981
  have N981 := Fr.app N980 N981q
  obtain ⟨_, _, ⟨T982, L982, k982, n982⟩, -, X982, ⟨Lc982, hQ982, l982, y982, z982⟩, st982⟩ := Jvm.LawKit.callS X981 hx (y := (⟨"com/example/stowline/stowline/VolumeBoundValuePinLaw", "ceilTwo", "(JJJ)J"⟩ : MethodName)) hown (mvT hZ (hw _ (List.mem_of_getElem? (i := 72) rfl))) (mvT hZ (hw _ (List.mem_of_getElem? (i := 73) rfl))) (mvT hZ (hw _ (List.mem_of_getElem? (i := 2) rfl))) (mvT hZ (hw _ (List.mem_of_getElem? (i := 74) rfl))) (by decide) (backOf (W := 2) (rm12 l Z aw hw [] ((v2 q3 (j1_0 q1))) ((v2 q5 (j1_0 q1))) ((j1_0 q1)) h963 n0 Z963 ) hZ (hw _ (List.mem_of_getElem? (i := 74) rfl)) (hw _ (List.mem_of_getElem? (i := 2) rfl)) (by decide) (by decide)) (g := (mkF m 140 #[.val (.long q0), .second, .val (.long q1), .second, .val (.long q2), .second, .val (.long q3), .second, .val (.long q4), .second, .val (.long q5), .second, .val (.long (j1_0 q0)), .second, .val (.long (j1_0 q1)), .second, .val (.long (v2 q2 (j1_0 q0))), .second, .val (.long (v2 q3 (j1_0 q1))), .second, .val (.long (v2 q4 (j1_0 q0))), .second, .val (.long (v2 q5 (j1_0 q1))), .second, .val (.ref b832), .val (.ref b848), .val (.ref b871), .val (.ref b901), .val (.long (j11_0 (j11_0 (0 : Int64) ((j7_2_0 (j1_0 q0) (j7_2_0 (j1_0 q0) (0 : Int64) (0 : Int64) (v2 q2 (j1_0 q0))) (j7_2_1 (j1_0 q0) (0 : Int64) (v2 q2 (j1_0 q0))) (v2 q4 (j1_0 q0))) + ((j10_2_0 (j7_2_1 (j1_0 q0) (j7_2_1 (j1_0 q0) (0 : Int64) (v2 q2 (j1_0 q0))) (v2 q4 (j1_0 q0)))).toInt64))) ((j7_2_2 (j1_0 q1) (j7_2_2 (j1_0 q1) (0 : Int64) (0 : Int64) (v2 q3 (j1_0 q1))) (j7_2_3 (j1_0 q1) (0 : Int64) (v2 q3 (j1_0 q1))) (v2 q5 (j1_0 q1))) + ((j10_2_1 (j7_2_3 (j1_0 q1) (j7_2_3 (j1_0 q1) (0 : Int64) (v2 q3 (j1_0 q1))) (v2 q5 (j1_0 q1)))).toInt64)))), .second, .unset, .unset, .unset, .unset, .unset, .unset] [(.long (j1_0 q1)), (.long (v2 q5 (j1_0 q1))), (.long (v2 q3 (j1_0 q1))), (.long (v12 (v2 q2 (j1_0 q0)) (v2 q4 (j1_0 q0)) (j1_0 q0)))])) rfl (by rw [hml]; rfl) (argsL := [(.long (v2 q3 (j1_0 q1))), (.long (v2 q5 (j1_0 q1))), (.long (j1_0 q1))]) (rest := [(.long (v12 (v2 q2 (j1_0 q0)) (v2 q4 (j1_0 q0)) (j1_0 q0)))]) (lenOf pd_11 rfl) rfl (by show 2 * 0 + _ ≤ _; exact Nat.le_of_eq rfl) (hb hby at_140) (fun _ _ => ⟨rfl, e981, (by decide : 13 + 0 ≤ _), (by decide : 107 + 0 ≤ _)⟩)
  dsimp only [Pt.U, Pt.locs, Pt.cells, Pt.slots] at X982 l982 y982 z982 st982 hQ982
  subst l982 y982 z982
  obtain ⟨rfl, N982q, e982⟩ := hQ982
  have N982 := Fr.app N981 N982q
  obtain ⟨_, _, ⟨T983, L983, k983, n983⟩, -, X983, ⟨Lc983, hQ983, l983, y983, z983⟩, st983⟩ := Jvm.LawKit.callS X982 hx (y := (⟨"java/lang/Math", "max", "(JJ)J"⟩ : MethodName)) hown (mvT hZ (hw _ (List.mem_of_getElem? (i := 75) rfl))) (mvT hZ (hw _ (List.mem_of_getElem? (i := 69) rfl))) (mvT hZ (hw _ (List.mem_of_getElem? (i := 70) rfl))) (mvT hZ (hw _ (List.mem_of_getElem? (i := 71) rfl))) (by decide) (backOf (W := 0) (rm11 l Z aw hw [] ((v12 (v2 q2 (j1_0 q0)) (v2 q4 (j1_0 q0)) (j1_0 q0))) ((v12 (v2 q3 (j1_0 q1)) (v2 q5 (j1_0 q1)) (j1_0 q1))) h963 n0 Z963 ) hZ (hw _ (List.mem_of_getElem? (i := 71) rfl)) (hw _ (List.mem_of_getElem? (i := 70) rfl)) (by decide) (by decide)) (g := (mkF m 143 #[.val (.long q0), .second, .val (.long q1), .second, .val (.long q2), .second, .val (.long q3), .second, .val (.long q4), .second, .val (.long q5), .second, .val (.long (j1_0 q0)), .second, .val (.long (j1_0 q1)), .second, .val (.long (v2 q2 (j1_0 q0))), .second, .val (.long (v2 q3 (j1_0 q1))), .second, .val (.long (v2 q4 (j1_0 q0))), .second, .val (.long (v2 q5 (j1_0 q1))), .second, .val (.ref b832), .val (.ref b848), .val (.ref b871), .val (.ref b901), .val (.long (j11_0 (j11_0 (0 : Int64) ((j7_2_0 (j1_0 q0) (j7_2_0 (j1_0 q0) (0 : Int64) (0 : Int64) (v2 q2 (j1_0 q0))) (j7_2_1 (j1_0 q0) (0 : Int64) (v2 q2 (j1_0 q0))) (v2 q4 (j1_0 q0))) + ((j10_2_0 (j7_2_1 (j1_0 q0) (j7_2_1 (j1_0 q0) (0 : Int64) (v2 q2 (j1_0 q0))) (v2 q4 (j1_0 q0)))).toInt64))) ((j7_2_2 (j1_0 q1) (j7_2_2 (j1_0 q1) (0 : Int64) (0 : Int64) (v2 q3 (j1_0 q1))) (j7_2_3 (j1_0 q1) (0 : Int64) (v2 q3 (j1_0 q1))) (v2 q5 (j1_0 q1))) + ((j10_2_1 (j7_2_3 (j1_0 q1) (j7_2_3 (j1_0 q1) (0 : Int64) (v2 q3 (j1_0 q1))) (v2 q5 (j1_0 q1)))).toInt64)))), .second, .unset, .unset, .unset, .unset, .unset, .unset] [(.long (v12 (v2 q3 (j1_0 q1)) (v2 q5 (j1_0 q1)) (j1_0 q1))), (.long (v12 (v2 q2 (j1_0 q0)) (v2 q4 (j1_0 q0)) (j1_0 q0)))])) rfl (by rw [hml]; rfl) (argsL := [(.long (v12 (v2 q2 (j1_0 q0)) (v2 q4 (j1_0 q0)) (j1_0 q0))), (.long (v12 (v2 q3 (j1_0 q1)) (v2 q5 (j1_0 q1)) (j1_0 q1)))]) (rest := []) (lenOf pd_7 rfl) rfl (by show 2 * 0 + _ ≤ _; exact Nat.le_of_eq rfl) (hb hby at_143) (fun _ _ => ⟨rfl, e982, (by decide : 13 + 0 ≤ _), (by decide : 107 + 0 ≤ _)⟩)
  dsimp only [Pt.U, Pt.locs, Pt.cells, Pt.slots] at X983 l983 y983 z983 st983 hQ983
  subst l983 y983 z983
  obtain ⟨rfl, N983q, e983⟩ := hQ983
  have N983 := Fr.app N982 N983q
  have pre985 := fun (t : State) (k : Steps p.tables e below (T983.setTop (mkF m 152 #[.val (.long q0), .second, .val (.long q1), .second, .val (.long q2), .second, .val (.long q3), .second, .val (.long q4), .second, .val (.long q5), .second, .val (.long (j1_0 q0)), .second, .val (.long (j1_0 q1)), .second, .val (.long (v2 q2 (j1_0 q0))), .second, .val (.long (v2 q3 (j1_0 q1))), .second, .val (.long (v2 q4 (j1_0 q0))), .second, .val (.long (v2 q5 (j1_0 q1))), .second, .val (.ref b832), .val (.ref b848), .val (.ref b871), .val (.ref b901), .val (.long (j11_0 (j11_0 (0 : Int64) ((j7_2_0 (j1_0 q0) (j7_2_0 (j1_0 q0) (0 : Int64) (0 : Int64) (v2 q2 (j1_0 q0))) (j7_2_1 (j1_0 q0) (0 : Int64) (v2 q2 (j1_0 q0))) (v2 q4 (j1_0 q0))) + ((j10_2_0 (j7_2_1 (j1_0 q0) (j7_2_1 (j1_0 q0) (0 : Int64) (v2 q2 (j1_0 q0))) (v2 q4 (j1_0 q0)))).toInt64))) ((j7_2_2 (j1_0 q1) (j7_2_2 (j1_0 q1) (0 : Int64) (0 : Int64) (v2 q3 (j1_0 q1))) (j7_2_3 (j1_0 q1) (0 : Int64) (v2 q3 (j1_0 q1))) (v2 q5 (j1_0 q1))) + ((j10_2_1 (j7_2_3 (j1_0 q1) (j7_2_3 (j1_0 q1) (0 : Int64) (v2 q3 (j1_0 q1))) (v2 q5 (j1_0 q1)))).toInt64)))), .second, .val (.long (j11_0 (v12 (v2 q2 (j1_0 q0)) (v2 q4 (j1_0 q0)) (j1_0 q0)) (v12 (v2 q3 (j1_0 q1)) (v2 q5 (j1_0 q1)) (j1_0 q1)))), .second, .unset, .unset, .unset, .unset] [(.ref b848), (.ref b901)])) t) => pre964 t (by
    show Steps p.tables e below (T946.setTop (mkF m 115 #[.val (.long q0), .second, .val (.long q1), .second, .val (.long q2), .second, .val (.long q3), .second, .val (.long q4), .second, .val (.long q5), .second, .val (.long (j1_0 q0)), .second, .val (.long (j1_0 q1)), .second, .val (.long (v2 q2 (j1_0 q0))), .second, .val (.long (v2 q3 (j1_0 q1))), .second, .val (.long (v2 q4 (j1_0 q0))), .second, .val (.long (v2 q5 (j1_0 q1))), .second, .val (.ref b832), .val (.ref b848), .val (.ref b871), .val (.ref b901), .unset, .unset, .unset, .unset, .unset, .unset, .unset, .unset] [(.ref b871), (.ref b901)])) _
    refine st963.trans ?_
    show Steps p.tables e below (T963.setTop (mkF m 118 #[.val (.long q0), .second, .val (.long q1), .second, .val (.long q2), .second, .val (.long q3), .second, .val (.long q4), .second, .val (.long q5), .second, .val (.long (j1_0 q0)), .second, .val (.long (j1_0 q1)), .second, .val (.long (v2 q2 (j1_0 q0))), .second, .val (.long (v2 q3 (j1_0 q1))), .second, .val (.long (v2 q4 (j1_0 q0))), .second, .val (.long (v2 q5 (j1_0 q1))), .second, .val (.ref b832), .val (.ref b848), .val (.ref b871), .val (.ref b901), .unset, .unset, .unset, .unset, .unset, .unset, .unset, .unset] [])) _
    refine XS.aload X963.here hx rfl (hb hby at_118) rfl rfl ?_
    show Steps p.tables e below (T963.setTop (mkF m 120 #[.val (.long q0), .second, .val (.long q1), .second, .val (.long q2), .second, .val (.long q3), .second, .val (.long q4), .second, .val (.long q5), .second, .val (.long (j1_0 q0)), .second, .val (.long (j1_0 q1)), .second, .val (.long (v2 q2 (j1_0 q0))), .second, .val (.long (v2 q3 (j1_0 q1))), .second, .val (.long (v2 q4 (j1_0 q0))), .second, .val (.long (v2 q5 (j1_0 q1))), .second, .val (.ref b832), .val (.ref b848), .val (.ref b871), .val (.ref b901), .unset, .unset, .unset, .unset, .unset, .unset, .unset, .unset] [(.ref b901)])) _
    refine st980.trans ?_
    show Steps p.tables e below (T980.setTop (mkF m 123 #[.val (.long q0), .second, .val (.long q1), .second, .val (.long q2), .second, .val (.long q3), .second, .val (.long q4), .second, .val (.long q5), .second, .val (.long (j1_0 q0)), .second, .val (.long (j1_0 q1)), .second, .val (.long (v2 q2 (j1_0 q0))), .second, .val (.long (v2 q3 (j1_0 q1))), .second, .val (.long (v2 q4 (j1_0 q0))), .second, .val (.long (v2 q5 (j1_0 q1))), .second, .val (.ref b832), .val (.ref b848), .val (.ref b871), .val (.ref b901), .unset, .unset, .unset, .unset, .unset, .unset, .unset, .unset] [(.long (j11_0 (j11_0 (0 : Int64) ((j7_2_0 (j1_0 q0) (j7_2_0 (j1_0 q0) (0 : Int64) (0 : Int64) (v2 q2 (j1_0 q0))) (j7_2_1 (j1_0 q0) (0 : Int64) (v2 q2 (j1_0 q0))) (v2 q4 (j1_0 q0))) + ((j10_2_0 (j7_2_1 (j1_0 q0) (j7_2_1 (j1_0 q0) (0 : Int64) (v2 q2 (j1_0 q0))) (v2 q4 (j1_0 q0)))).toInt64))) ((j7_2_2 (j1_0 q1) (j7_2_2 (j1_0 q1) (0 : Int64) (0 : Int64) (v2 q3 (j1_0 q1))) (j7_2_3 (j1_0 q1) (0 : Int64) (v2 q3 (j1_0 q1))) (v2 q5 (j1_0 q1))) + ((j10_2_1 (j7_2_3 (j1_0 q1) (j7_2_3 (j1_0 q1) (0 : Int64) (v2 q3 (j1_0 q1))) (v2 q5 (j1_0 q1)))).toInt64))))])) _
    refine XS.lstore X980.here hx rfl (hb hby at_123) rfl (l' := #[.val (.long q0), .second, .val (.long q1), .second, .val (.long q2), .second, .val (.long q3), .second, .val (.long q4), .second, .val (.long q5), .second, .val (.long (j1_0 q0)), .second, .val (.long (j1_0 q1)), .second, .val (.long (v2 q2 (j1_0 q0))), .second, .val (.long (v2 q3 (j1_0 q1))), .second, .val (.long (v2 q4 (j1_0 q0))), .second, .val (.long (v2 q5 (j1_0 q1))), .second, .val (.ref b832), .val (.ref b848), .val (.ref b871), .val (.ref b901), .val (.long (j11_0 (j11_0 (0 : Int64) ((j7_2_0 (j1_0 q0) (j7_2_0 (j1_0 q0) (0 : Int64) (0 : Int64) (v2 q2 (j1_0 q0))) (j7_2_1 (j1_0 q0) (0 : Int64) (v2 q2 (j1_0 q0))) (v2 q4 (j1_0 q0))) + ((j10_2_0 (j7_2_1 (j1_0 q0) (j7_2_1 (j1_0 q0) (0 : Int64) (v2 q2 (j1_0 q0))) (v2 q4 (j1_0 q0)))).toInt64))) ((j7_2_2 (j1_0 q1) (j7_2_2 (j1_0 q1) (0 : Int64) (0 : Int64) (v2 q3 (j1_0 q1))) (j7_2_3 (j1_0 q1) (0 : Int64) (v2 q3 (j1_0 q1))) (v2 q5 (j1_0 q1))) + ((j10_2_1 (j7_2_3 (j1_0 q1) (j7_2_3 (j1_0 q1) (0 : Int64) (v2 q3 (j1_0 q1))) (v2 q5 (j1_0 q1)))).toInt64)))), .second, .unset, .unset, .unset, .unset, .unset, .unset]) rfl ?_
    show Steps p.tables e below (T980.setTop (mkF m 125 #[.val (.long q0), .second, .val (.long q1), .second, .val (.long q2), .second, .val (.long q3), .second, .val (.long q4), .second, .val (.long q5), .second, .val (.long (j1_0 q0)), .second, .val (.long (j1_0 q1)), .second, .val (.long (v2 q2 (j1_0 q0))), .second, .val (.long (v2 q3 (j1_0 q1))), .second, .val (.long (v2 q4 (j1_0 q0))), .second, .val (.long (v2 q5 (j1_0 q1))), .second, .val (.ref b832), .val (.ref b848), .val (.ref b871), .val (.ref b901), .val (.long (j11_0 (j11_0 (0 : Int64) ((j7_2_0 (j1_0 q0) (j7_2_0 (j1_0 q0) (0 : Int64) (0 : Int64) (v2 q2 (j1_0 q0))) (j7_2_1 (j1_0 q0) (0 : Int64) (v2 q2 (j1_0 q0))) (v2 q4 (j1_0 q0))) + ((j10_2_0 (j7_2_1 (j1_0 q0) (j7_2_1 (j1_0 q0) (0 : Int64) (v2 q2 (j1_0 q0))) (v2 q4 (j1_0 q0)))).toInt64))) ((j7_2_2 (j1_0 q1) (j7_2_2 (j1_0 q1) (0 : Int64) (0 : Int64) (v2 q3 (j1_0 q1))) (j7_2_3 (j1_0 q1) (0 : Int64) (v2 q3 (j1_0 q1))) (v2 q5 (j1_0 q1))) + ((j10_2_1 (j7_2_3 (j1_0 q1) (j7_2_3 (j1_0 q1) (0 : Int64) (v2 q3 (j1_0 q1))) (v2 q5 (j1_0 q1)))).toInt64)))), .second, .unset, .unset, .unset, .unset, .unset, .unset] [])) _
    refine XS.lload X980.here hx rfl (hb hby at_125) rfl ?_
    show Steps p.tables e below (T980.setTop (mkF m 127 #[.val (.long q0), .second, .val (.long q1), .second, .val (.long q2), .second, .val (.long q3), .second, .val (.long q4), .second, .val (.long q5), .second, .val (.long (j1_0 q0)), .second, .val (.long (j1_0 q1)), .second, .val (.long (v2 q2 (j1_0 q0))), .second, .val (.long (v2 q3 (j1_0 q1))), .second, .val (.long (v2 q4 (j1_0 q0))), .second, .val (.long (v2 q5 (j1_0 q1))), .second, .val (.ref b832), .val (.ref b848), .val (.ref b871), .val (.ref b901), .val (.long (j11_0 (j11_0 (0 : Int64) ((j7_2_0 (j1_0 q0) (j7_2_0 (j1_0 q0) (0 : Int64) (0 : Int64) (v2 q2 (j1_0 q0))) (j7_2_1 (j1_0 q0) (0 : Int64) (v2 q2 (j1_0 q0))) (v2 q4 (j1_0 q0))) + ((j10_2_0 (j7_2_1 (j1_0 q0) (j7_2_1 (j1_0 q0) (0 : Int64) (v2 q2 (j1_0 q0))) (v2 q4 (j1_0 q0)))).toInt64))) ((j7_2_2 (j1_0 q1) (j7_2_2 (j1_0 q1) (0 : Int64) (0 : Int64) (v2 q3 (j1_0 q1))) (j7_2_3 (j1_0 q1) (0 : Int64) (v2 q3 (j1_0 q1))) (v2 q5 (j1_0 q1))) + ((j10_2_1 (j7_2_3 (j1_0 q1) (j7_2_3 (j1_0 q1) (0 : Int64) (v2 q3 (j1_0 q1))) (v2 q5 (j1_0 q1)))).toInt64)))), .second, .unset, .unset, .unset, .unset, .unset, .unset] [(.long (v2 q2 (j1_0 q0)))])) _
    refine XS.lload X980.here hx rfl (hb hby at_127) rfl ?_
    show Steps p.tables e below (T980.setTop (mkF m 129 #[.val (.long q0), .second, .val (.long q1), .second, .val (.long q2), .second, .val (.long q3), .second, .val (.long q4), .second, .val (.long q5), .second, .val (.long (j1_0 q0)), .second, .val (.long (j1_0 q1)), .second, .val (.long (v2 q2 (j1_0 q0))), .second, .val (.long (v2 q3 (j1_0 q1))), .second, .val (.long (v2 q4 (j1_0 q0))), .second, .val (.long (v2 q5 (j1_0 q1))), .second, .val (.ref b832), .val (.ref b848), .val (.ref b871), .val (.ref b901), .val (.long (j11_0 (j11_0 (0 : Int64) ((j7_2_0 (j1_0 q0) (j7_2_0 (j1_0 q0) (0 : Int64) (0 : Int64) (v2 q2 (j1_0 q0))) (j7_2_1 (j1_0 q0) (0 : Int64) (v2 q2 (j1_0 q0))) (v2 q4 (j1_0 q0))) + ((j10_2_0 (j7_2_1 (j1_0 q0) (j7_2_1 (j1_0 q0) (0 : Int64) (v2 q2 (j1_0 q0))) (v2 q4 (j1_0 q0)))).toInt64))) ((j7_2_2 (j1_0 q1) (j7_2_2 (j1_0 q1) (0 : Int64) (0 : Int64) (v2 q3 (j1_0 q1))) (j7_2_3 (j1_0 q1) (0 : Int64) (v2 q3 (j1_0 q1))) (v2 q5 (j1_0 q1))) + ((j10_2_1 (j7_2_3 (j1_0 q1) (j7_2_3 (j1_0 q1) (0 : Int64) (v2 q3 (j1_0 q1))) (v2 q5 (j1_0 q1)))).toInt64)))), .second, .unset, .unset, .unset, .unset, .unset, .unset] [(.long (v2 q4 (j1_0 q0))), (.long (v2 q2 (j1_0 q0)))])) _
    refine XS.lload X980.here hx rfl (hb hby at_129) rfl ?_
    show Steps p.tables e below (T980.setTop (mkF m 131 #[.val (.long q0), .second, .val (.long q1), .second, .val (.long q2), .second, .val (.long q3), .second, .val (.long q4), .second, .val (.long q5), .second, .val (.long (j1_0 q0)), .second, .val (.long (j1_0 q1)), .second, .val (.long (v2 q2 (j1_0 q0))), .second, .val (.long (v2 q3 (j1_0 q1))), .second, .val (.long (v2 q4 (j1_0 q0))), .second, .val (.long (v2 q5 (j1_0 q1))), .second, .val (.ref b832), .val (.ref b848), .val (.ref b871), .val (.ref b901), .val (.long (j11_0 (j11_0 (0 : Int64) ((j7_2_0 (j1_0 q0) (j7_2_0 (j1_0 q0) (0 : Int64) (0 : Int64) (v2 q2 (j1_0 q0))) (j7_2_1 (j1_0 q0) (0 : Int64) (v2 q2 (j1_0 q0))) (v2 q4 (j1_0 q0))) + ((j10_2_0 (j7_2_1 (j1_0 q0) (j7_2_1 (j1_0 q0) (0 : Int64) (v2 q2 (j1_0 q0))) (v2 q4 (j1_0 q0)))).toInt64))) ((j7_2_2 (j1_0 q1) (j7_2_2 (j1_0 q1) (0 : Int64) (0 : Int64) (v2 q3 (j1_0 q1))) (j7_2_3 (j1_0 q1) (0 : Int64) (v2 q3 (j1_0 q1))) (v2 q5 (j1_0 q1))) + ((j10_2_1 (j7_2_3 (j1_0 q1) (j7_2_3 (j1_0 q1) (0 : Int64) (v2 q3 (j1_0 q1))) (v2 q5 (j1_0 q1)))).toInt64)))), .second, .unset, .unset, .unset, .unset, .unset, .unset] [(.long (j1_0 q0)), (.long (v2 q4 (j1_0 q0))), (.long (v2 q2 (j1_0 q0)))])) _
    refine st981 _ ?_
    show Steps p.tables e below (T981.setTop (mkF m 134 #[.val (.long q0), .second, .val (.long q1), .second, .val (.long q2), .second, .val (.long q3), .second, .val (.long q4), .second, .val (.long q5), .second, .val (.long (j1_0 q0)), .second, .val (.long (j1_0 q1)), .second, .val (.long (v2 q2 (j1_0 q0))), .second, .val (.long (v2 q3 (j1_0 q1))), .second, .val (.long (v2 q4 (j1_0 q0))), .second, .val (.long (v2 q5 (j1_0 q1))), .second, .val (.ref b832), .val (.ref b848), .val (.ref b871), .val (.ref b901), .val (.long (j11_0 (j11_0 (0 : Int64) ((j7_2_0 (j1_0 q0) (j7_2_0 (j1_0 q0) (0 : Int64) (0 : Int64) (v2 q2 (j1_0 q0))) (j7_2_1 (j1_0 q0) (0 : Int64) (v2 q2 (j1_0 q0))) (v2 q4 (j1_0 q0))) + ((j10_2_0 (j7_2_1 (j1_0 q0) (j7_2_1 (j1_0 q0) (0 : Int64) (v2 q2 (j1_0 q0))) (v2 q4 (j1_0 q0)))).toInt64))) ((j7_2_2 (j1_0 q1) (j7_2_2 (j1_0 q1) (0 : Int64) (0 : Int64) (v2 q3 (j1_0 q1))) (j7_2_3 (j1_0 q1) (0 : Int64) (v2 q3 (j1_0 q1))) (v2 q5 (j1_0 q1))) + ((j10_2_1 (j7_2_3 (j1_0 q1) (j7_2_3 (j1_0 q1) (0 : Int64) (v2 q3 (j1_0 q1))) (v2 q5 (j1_0 q1)))).toInt64)))), .second, .unset, .unset, .unset, .unset, .unset, .unset] [(.long (v12 (v2 q2 (j1_0 q0)) (v2 q4 (j1_0 q0)) (j1_0 q0)))])) _
    refine XS.lload X981.here hx rfl (hb hby at_134) rfl ?_
    show Steps p.tables e below (T981.setTop (mkF m 136 #[.val (.long q0), .second, .val (.long q1), .second, .val (.long q2), .second, .val (.long q3), .second, .val (.long q4), .second, .val (.long q5), .second, .val (.long (j1_0 q0)), .second, .val (.long (j1_0 q1)), .second, .val (.long (v2 q2 (j1_0 q0))), .second, .val (.long (v2 q3 (j1_0 q1))), .second, .val (.long (v2 q4 (j1_0 q0))), .second, .val (.long (v2 q5 (j1_0 q1))), .second, .val (.ref b832), .val (.ref b848), .val (.ref b871), .val (.ref b901), .val (.long (j11_0 (j11_0 (0 : Int64) ((j7_2_0 (j1_0 q0) (j7_2_0 (j1_0 q0) (0 : Int64) (0 : Int64) (v2 q2 (j1_0 q0))) (j7_2_1 (j1_0 q0) (0 : Int64) (v2 q2 (j1_0 q0))) (v2 q4 (j1_0 q0))) + ((j10_2_0 (j7_2_1 (j1_0 q0) (j7_2_1 (j1_0 q0) (0 : Int64) (v2 q2 (j1_0 q0))) (v2 q4 (j1_0 q0)))).toInt64))) ((j7_2_2 (j1_0 q1) (j7_2_2 (j1_0 q1) (0 : Int64) (0 : Int64) (v2 q3 (j1_0 q1))) (j7_2_3 (j1_0 q1) (0 : Int64) (v2 q3 (j1_0 q1))) (v2 q5 (j1_0 q1))) + ((j10_2_1 (j7_2_3 (j1_0 q1) (j7_2_3 (j1_0 q1) (0 : Int64) (v2 q3 (j1_0 q1))) (v2 q5 (j1_0 q1)))).toInt64)))), .second, .unset, .unset, .unset, .unset, .unset, .unset] [(.long (v2 q3 (j1_0 q1))), (.long (v12 (v2 q2 (j1_0 q0)) (v2 q4 (j1_0 q0)) (j1_0 q0)))])) _
    refine XS.lload X981.here hx rfl (hb hby at_136) rfl ?_
    show Steps p.tables e below (T981.setTop (mkF m 138 #[.val (.long q0), .second, .val (.long q1), .second, .val (.long q2), .second, .val (.long q3), .second, .val (.long q4), .second, .val (.long q5), .second, .val (.long (j1_0 q0)), .second, .val (.long (j1_0 q1)), .second, .val (.long (v2 q2 (j1_0 q0))), .second, .val (.long (v2 q3 (j1_0 q1))), .second, .val (.long (v2 q4 (j1_0 q0))), .second, .val (.long (v2 q5 (j1_0 q1))), .second, .val (.ref b832), .val (.ref b848), .val (.ref b871), .val (.ref b901), .val (.long (j11_0 (j11_0 (0 : Int64) ((j7_2_0 (j1_0 q0) (j7_2_0 (j1_0 q0) (0 : Int64) (0 : Int64) (v2 q2 (j1_0 q0))) (j7_2_1 (j1_0 q0) (0 : Int64) (v2 q2 (j1_0 q0))) (v2 q4 (j1_0 q0))) + ((j10_2_0 (j7_2_1 (j1_0 q0) (j7_2_1 (j1_0 q0) (0 : Int64) (v2 q2 (j1_0 q0))) (v2 q4 (j1_0 q0)))).toInt64))) ((j7_2_2 (j1_0 q1) (j7_2_2 (j1_0 q1) (0 : Int64) (0 : Int64) (v2 q3 (j1_0 q1))) (j7_2_3 (j1_0 q1) (0 : Int64) (v2 q3 (j1_0 q1))) (v2 q5 (j1_0 q1))) + ((j10_2_1 (j7_2_3 (j1_0 q1) (j7_2_3 (j1_0 q1) (0 : Int64) (v2 q3 (j1_0 q1))) (v2 q5 (j1_0 q1)))).toInt64)))), .second, .unset, .unset, .unset, .unset, .unset, .unset] [(.long (v2 q5 (j1_0 q1))), (.long (v2 q3 (j1_0 q1))), (.long (v12 (v2 q2 (j1_0 q0)) (v2 q4 (j1_0 q0)) (j1_0 q0)))])) _
    refine XS.lload X981.here hx rfl (hb hby at_138) rfl ?_
    show Steps p.tables e below (T981.setTop (mkF m 140 #[.val (.long q0), .second, .val (.long q1), .second, .val (.long q2), .second, .val (.long q3), .second, .val (.long q4), .second, .val (.long q5), .second, .val (.long (j1_0 q0)), .second, .val (.long (j1_0 q1)), .second, .val (.long (v2 q2 (j1_0 q0))), .second, .val (.long (v2 q3 (j1_0 q1))), .second, .val (.long (v2 q4 (j1_0 q0))), .second, .val (.long (v2 q5 (j1_0 q1))), .second, .val (.ref b832), .val (.ref b848), .val (.ref b871), .val (.ref b901), .val (.long (j11_0 (j11_0 (0 : Int64) ((j7_2_0 (j1_0 q0) (j7_2_0 (j1_0 q0) (0 : Int64) (0 : Int64) (v2 q2 (j1_0 q0))) (j7_2_1 (j1_0 q0) (0 : Int64) (v2 q2 (j1_0 q0))) (v2 q4 (j1_0 q0))) + ((j10_2_0 (j7_2_1 (j1_0 q0) (j7_2_1 (j1_0 q0) (0 : Int64) (v2 q2 (j1_0 q0))) (v2 q4 (j1_0 q0)))).toInt64))) ((j7_2_2 (j1_0 q1) (j7_2_2 (j1_0 q1) (0 : Int64) (0 : Int64) (v2 q3 (j1_0 q1))) (j7_2_3 (j1_0 q1) (0 : Int64) (v2 q3 (j1_0 q1))) (v2 q5 (j1_0 q1))) + ((j10_2_1 (j7_2_3 (j1_0 q1) (j7_2_3 (j1_0 q1) (0 : Int64) (v2 q3 (j1_0 q1))) (v2 q5 (j1_0 q1)))).toInt64)))), .second, .unset, .unset, .unset, .unset, .unset, .unset] [(.long (j1_0 q1)), (.long (v2 q5 (j1_0 q1))), (.long (v2 q3 (j1_0 q1))), (.long (v12 (v2 q2 (j1_0 q0)) (v2 q4 (j1_0 q0)) (j1_0 q0)))])) _
    refine st982 _ ?_
    show Steps p.tables e below (T982.setTop (mkF m 143 #[.val (.long q0), .second, .val (.long q1), .second, .val (.long q2), .second, .val (.long q3), .second, .val (.long q4), .second, .val (.long q5), .second, .val (.long (j1_0 q0)), .second, .val (.long (j1_0 q1)), .second, .val (.long (v2 q2 (j1_0 q0))), .second, .val (.long (v2 q3 (j1_0 q1))), .second, .val (.long (v2 q4 (j1_0 q0))), .second, .val (.long (v2 q5 (j1_0 q1))), .second, .val (.ref b832), .val (.ref b848), .val (.ref b871), .val (.ref b901), .val (.long (j11_0 (j11_0 (0 : Int64) ((j7_2_0 (j1_0 q0) (j7_2_0 (j1_0 q0) (0 : Int64) (0 : Int64) (v2 q2 (j1_0 q0))) (j7_2_1 (j1_0 q0) (0 : Int64) (v2 q2 (j1_0 q0))) (v2 q4 (j1_0 q0))) + ((j10_2_0 (j7_2_1 (j1_0 q0) (j7_2_1 (j1_0 q0) (0 : Int64) (v2 q2 (j1_0 q0))) (v2 q4 (j1_0 q0)))).toInt64))) ((j7_2_2 (j1_0 q1) (j7_2_2 (j1_0 q1) (0 : Int64) (0 : Int64) (v2 q3 (j1_0 q1))) (j7_2_3 (j1_0 q1) (0 : Int64) (v2 q3 (j1_0 q1))) (v2 q5 (j1_0 q1))) + ((j10_2_1 (j7_2_3 (j1_0 q1) (j7_2_3 (j1_0 q1) (0 : Int64) (v2 q3 (j1_0 q1))) (v2 q5 (j1_0 q1)))).toInt64)))), .second, .unset, .unset, .unset, .unset, .unset, .unset] [(.long (v12 (v2 q3 (j1_0 q1)) (v2 q5 (j1_0 q1)) (j1_0 q1))), (.long (v12 (v2 q2 (j1_0 q0)) (v2 q4 (j1_0 q0)) (j1_0 q0)))])) _
    refine st983 _ ?_
    show Steps p.tables e below (T983.setTop (mkF m 146 #[.val (.long q0), .second, .val (.long q1), .second, .val (.long q2), .second, .val (.long q3), .second, .val (.long q4), .second, .val (.long q5), .second, .val (.long (j1_0 q0)), .second, .val (.long (j1_0 q1)), .second, .val (.long (v2 q2 (j1_0 q0))), .second, .val (.long (v2 q3 (j1_0 q1))), .second, .val (.long (v2 q4 (j1_0 q0))), .second, .val (.long (v2 q5 (j1_0 q1))), .second, .val (.ref b832), .val (.ref b848), .val (.ref b871), .val (.ref b901), .val (.long (j11_0 (j11_0 (0 : Int64) ((j7_2_0 (j1_0 q0) (j7_2_0 (j1_0 q0) (0 : Int64) (0 : Int64) (v2 q2 (j1_0 q0))) (j7_2_1 (j1_0 q0) (0 : Int64) (v2 q2 (j1_0 q0))) (v2 q4 (j1_0 q0))) + ((j10_2_0 (j7_2_1 (j1_0 q0) (j7_2_1 (j1_0 q0) (0 : Int64) (v2 q2 (j1_0 q0))) (v2 q4 (j1_0 q0)))).toInt64))) ((j7_2_2 (j1_0 q1) (j7_2_2 (j1_0 q1) (0 : Int64) (0 : Int64) (v2 q3 (j1_0 q1))) (j7_2_3 (j1_0 q1) (0 : Int64) (v2 q3 (j1_0 q1))) (v2 q5 (j1_0 q1))) + ((j10_2_1 (j7_2_3 (j1_0 q1) (j7_2_3 (j1_0 q1) (0 : Int64) (v2 q3 (j1_0 q1))) (v2 q5 (j1_0 q1)))).toInt64)))), .second, .unset, .unset, .unset, .unset, .unset, .unset] [(.long (j11_0 (v12 (v2 q2 (j1_0 q0)) (v2 q4 (j1_0 q0)) (j1_0 q0)) (v12 (v2 q3 (j1_0 q1)) (v2 q5 (j1_0 q1)) (j1_0 q1))))])) _
    refine XS.lstore X983.here hx rfl (hb hby at_146) rfl (l' := #[.val (.long q0), .second, .val (.long q1), .second, .val (.long q2), .second, .val (.long q3), .second, .val (.long q4), .second, .val (.long q5), .second, .val (.long (j1_0 q0)), .second, .val (.long (j1_0 q1)), .second, .val (.long (v2 q2 (j1_0 q0))), .second, .val (.long (v2 q3 (j1_0 q1))), .second, .val (.long (v2 q4 (j1_0 q0))), .second, .val (.long (v2 q5 (j1_0 q1))), .second, .val (.ref b832), .val (.ref b848), .val (.ref b871), .val (.ref b901), .val (.long (j11_0 (j11_0 (0 : Int64) ((j7_2_0 (j1_0 q0) (j7_2_0 (j1_0 q0) (0 : Int64) (0 : Int64) (v2 q2 (j1_0 q0))) (j7_2_1 (j1_0 q0) (0 : Int64) (v2 q2 (j1_0 q0))) (v2 q4 (j1_0 q0))) + ((j10_2_0 (j7_2_1 (j1_0 q0) (j7_2_1 (j1_0 q0) (0 : Int64) (v2 q2 (j1_0 q0))) (v2 q4 (j1_0 q0)))).toInt64))) ((j7_2_2 (j1_0 q1) (j7_2_2 (j1_0 q1) (0 : Int64) (0 : Int64) (v2 q3 (j1_0 q1))) (j7_2_3 (j1_0 q1) (0 : Int64) (v2 q3 (j1_0 q1))) (v2 q5 (j1_0 q1))) + ((j10_2_1 (j7_2_3 (j1_0 q1) (j7_2_3 (j1_0 q1) (0 : Int64) (v2 q3 (j1_0 q1))) (v2 q5 (j1_0 q1)))).toInt64)))), .second, .val (.long (j11_0 (v12 (v2 q2 (j1_0 q0)) (v2 q4 (j1_0 q0)) (j1_0 q0)) (v12 (v2 q3 (j1_0 q1)) (v2 q5 (j1_0 q1)) (j1_0 q1)))), .second, .unset, .unset, .unset, .unset]) rfl ?_
    show Steps p.tables e below (T983.setTop (mkF m 148 #[.val (.long q0), .second, .val (.long q1), .second, .val (.long q2), .second, .val (.long q3), .second, .val (.long q4), .second, .val (.long q5), .second, .val (.long (j1_0 q0)), .second, .val (.long (j1_0 q1)), .second, .val (.long (v2 q2 (j1_0 q0))), .second, .val (.long (v2 q3 (j1_0 q1))), .second, .val (.long (v2 q4 (j1_0 q0))), .second, .val (.long (v2 q5 (j1_0 q1))), .second, .val (.ref b832), .val (.ref b848), .val (.ref b871), .val (.ref b901), .val (.long (j11_0 (j11_0 (0 : Int64) ((j7_2_0 (j1_0 q0) (j7_2_0 (j1_0 q0) (0 : Int64) (0 : Int64) (v2 q2 (j1_0 q0))) (j7_2_1 (j1_0 q0) (0 : Int64) (v2 q2 (j1_0 q0))) (v2 q4 (j1_0 q0))) + ((j10_2_0 (j7_2_1 (j1_0 q0) (j7_2_1 (j1_0 q0) (0 : Int64) (v2 q2 (j1_0 q0))) (v2 q4 (j1_0 q0)))).toInt64))) ((j7_2_2 (j1_0 q1) (j7_2_2 (j1_0 q1) (0 : Int64) (0 : Int64) (v2 q3 (j1_0 q1))) (j7_2_3 (j1_0 q1) (0 : Int64) (v2 q3 (j1_0 q1))) (v2 q5 (j1_0 q1))) + ((j10_2_1 (j7_2_3 (j1_0 q1) (j7_2_3 (j1_0 q1) (0 : Int64) (v2 q3 (j1_0 q1))) (v2 q5 (j1_0 q1)))).toInt64)))), .second, .val (.long (j11_0 (v12 (v2 q2 (j1_0 q0)) (v2 q4 (j1_0 q0)) (j1_0 q0)) (v12 (v2 q3 (j1_0 q1)) (v2 q5 (j1_0 q1)) (j1_0 q1)))), .second, .unset, .unset, .unset, .unset] [])) _
    refine XS.aload X983.here hx rfl (hb hby at_148) rfl rfl ?_
    show Steps p.tables e below (T983.setTop (mkF m 150 #[.val (.long q0), .second, .val (.long q1), .second, .val (.long q2), .second, .val (.long q3), .second, .val (.long q4), .second, .val (.long q5), .second, .val (.long (j1_0 q0)), .second, .val (.long (j1_0 q1)), .second, .val (.long (v2 q2 (j1_0 q0))), .second, .val (.long (v2 q3 (j1_0 q1))), .second, .val (.long (v2 q4 (j1_0 q0))), .second, .val (.long (v2 q5 (j1_0 q1))), .second, .val (.ref b832), .val (.ref b848), .val (.ref b871), .val (.ref b901), .val (.long (j11_0 (j11_0 (0 : Int64) ((j7_2_0 (j1_0 q0) (j7_2_0 (j1_0 q0) (0 : Int64) (0 : Int64) (v2 q2 (j1_0 q0))) (j7_2_1 (j1_0 q0) (0 : Int64) (v2 q2 (j1_0 q0))) (v2 q4 (j1_0 q0))) + ((j10_2_0 (j7_2_1 (j1_0 q0) (j7_2_1 (j1_0 q0) (0 : Int64) (v2 q2 (j1_0 q0))) (v2 q4 (j1_0 q0)))).toInt64))) ((j7_2_2 (j1_0 q1) (j7_2_2 (j1_0 q1) (0 : Int64) (0 : Int64) (v2 q3 (j1_0 q1))) (j7_2_3 (j1_0 q1) (0 : Int64) (v2 q3 (j1_0 q1))) (v2 q5 (j1_0 q1))) + ((j10_2_1 (j7_2_3 (j1_0 q1) (j7_2_3 (j1_0 q1) (0 : Int64) (v2 q3 (j1_0 q1))) (v2 q5 (j1_0 q1)))).toInt64)))), .second, .val (.long (j11_0 (v12 (v2 q2 (j1_0 q0)) (v2 q4 (j1_0 q0)) (j1_0 q0)) (v12 (v2 q3 (j1_0 q1)) (v2 q5 (j1_0 q1)) (j1_0 q1)))), .second, .unset, .unset, .unset, .unset] [(.ref b901)])) _
    refine XS.aload X983.here hx rfl (hb hby at_150) rfl rfl ?_
    exact k)
  obtain ⟨cq984, kq984, q984a, q984b, q984c⟩ := isOf hZ e983 f973
  obtain ⟨_, _, ⟨T984, L984, k984, n984⟩, -, X984, hSi984, hgr984, ⟨Lc984, hQ984, l984, y984, z984⟩, st984⟩ := X983.virtualBackS hx (y := (⟨"com/example/stowline/stowline/VolumeBound", "remove", "([J)V"⟩ : MethodName)) (z := (⟨"com/example/stowline/stowline/VolumeBound", "remove", "([J)V"⟩ : MethodName)) hown (mvT hZ (hw _ (List.mem_of_getElem? (i := 76) rfl))) (mvT hZ (hw _ (List.mem_of_getElem? (i := 77) rfl))) (notFace_of_selects (args := #[]) (mvT hZ (hw _ (List.mem_of_getElem? (i := 79) rfl)))) (mvT hZ (hw _ (List.mem_of_getElem? (i := 79) rfl))) (mvT hZ (hw _ (List.mem_of_getElem? (i := 78) rfl))) (by decide) (backOfS (W := 0) (rm13_2 l Z aw hw [] b901 b848 cx0915 cx1915 cx2915 ((j1_0 q0)) ((j1_0 q1)) ((j7_2_0 (j1_0 q0) (j7_2_0 (j1_0 q0) (0 : Int64) (0 : Int64) (v2 q2 (j1_0 q0))) (j7_2_1 (j1_0 q0) (0 : Int64) (v2 q2 (j1_0 q0))) (v2 q4 (j1_0 q0)))) ((j7_2_2 (j1_0 q1) (j7_2_2 (j1_0 q1) (0 : Int64) (0 : Int64) (v2 q3 (j1_0 q1))) (j7_2_3 (j1_0 q1) (0 : Int64) (v2 q3 (j1_0 q1))) (v2 q5 (j1_0 q1)))) ((j7_2_1 (j1_0 q0) (j7_2_1 (j1_0 q0) (0 : Int64) (v2 q2 (j1_0 q0))) (v2 q4 (j1_0 q0)))) ((j7_2_3 (j1_0 q1) (j7_2_3 (j1_0 q1) (0 : Int64) (v2 q3 (j1_0 q1))) (v2 q5 (j1_0 q1)))) ((v2 q2 (j1_0 q0))) ((v2 q3 (j1_0 q1))) cy0915 cy1915 cy2915 k848 h963 n0 Z963 f973 f974 f975 f976 f977 f965 f966 f970 g_cx1915 g_cx2915 ne941 ne945 nx_cx0915_cx1915 nx_cx0915_cx2915 nx_cx1915_cx2915 ne939 ne943 (own_p0 _ (own_siz q2 _ (own_cap q0)).1) (own_p0 _ (own_siz q3 _ (own_cap q1)).1) (own_pc _ _ (own_siz q2 _ (own_cap q0)).2) (own_pc _ _ (own_siz q3 _ (own_cap q1)).2) (own_rmok _ _ _ (own_cap q0) (own_siz q2 _ (own_cap q0)).1 (own_siz q2 _ (own_cap q0)).2 (own_siz q4 _ (own_cap q0)).1 (own_siz q4 _ (own_cap q0)).2) (own_rmok _ _ _ (own_cap q1) (own_siz q3 _ (own_cap q1)).1 (own_siz q3 _ (own_cap q1)).2 (own_siz q5 _ (own_cap q1)).1 (own_siz q5 _ (own_cap q1)).2)) hZ (hw _ (List.mem_of_getElem? (i := 80) rfl)) (hw _ (List.mem_of_getElem? (i := 11) rfl)) (by decide) (by decide)) q984a q984c (g := (mkF m 152 #[.val (.long q0), .second, .val (.long q1), .second, .val (.long q2), .second, .val (.long q3), .second, .val (.long q4), .second, .val (.long q5), .second, .val (.long (j1_0 q0)), .second, .val (.long (j1_0 q1)), .second, .val (.long (v2 q2 (j1_0 q0))), .second, .val (.long (v2 q3 (j1_0 q1))), .second, .val (.long (v2 q4 (j1_0 q0))), .second, .val (.long (v2 q5 (j1_0 q1))), .second, .val (.ref b832), .val (.ref b848), .val (.ref b871), .val (.ref b901), .val (.long (j11_0 (j11_0 (0 : Int64) ((j7_2_0 (j1_0 q0) (j7_2_0 (j1_0 q0) (0 : Int64) (0 : Int64) (v2 q2 (j1_0 q0))) (j7_2_1 (j1_0 q0) (0 : Int64) (v2 q2 (j1_0 q0))) (v2 q4 (j1_0 q0))) + ((j10_2_0 (j7_2_1 (j1_0 q0) (j7_2_1 (j1_0 q0) (0 : Int64) (v2 q2 (j1_0 q0))) (v2 q4 (j1_0 q0)))).toInt64))) ((j7_2_2 (j1_0 q1) (j7_2_2 (j1_0 q1) (0 : Int64) (0 : Int64) (v2 q3 (j1_0 q1))) (j7_2_3 (j1_0 q1) (0 : Int64) (v2 q3 (j1_0 q1))) (v2 q5 (j1_0 q1))) + ((j10_2_1 (j7_2_3 (j1_0 q1) (j7_2_3 (j1_0 q1) (0 : Int64) (v2 q3 (j1_0 q1))) (v2 q5 (j1_0 q1)))).toInt64)))), .second, .val (.long (j11_0 (v12 (v2 q2 (j1_0 q0)) (v2 q4 (j1_0 q0)) (j1_0 q0)) (v12 (v2 q3 (j1_0 q1)) (v2 q5 (j1_0 q1)) (j1_0 q1)))), .second, .unset, .unset, .unset, .unset] [(.ref b848), (.ref b901)])) rfl (by rw [hml]; rfl) (Steps.refl _) (argsL := [(.ref b848)]) (rest := []) (lenOf pd_6 rfl) rfl (by show 2 * 0 + _ ≤ _; exact Nat.le_of_eq rfl) (hb hby at_152) (fun _ _ => ⟨rfl, e983, (by decide : 13 + 2 ≤ _), (by decide : 107 + 24 ≤ _)⟩)
  dsimp only [Pt.U, Pt.locs, Pt.cells, Pt.slots] at X984 l984 y984 z984 st984 hQ984 hSi984 hgr984
  subst l984 y984 z984
  obtain ⟨X984, hS, hZ, hown⟩ := rebS hS (show _ ≤ T983.heap.size from own_hk hk e983) X984 hSi984 hgr984 hZ hown
  obtain ⟨h984, e984⟩ : ∃ z, T984.heap = z := ⟨_, rfl⟩
  rw [e984] at hQ984
  obtain ⟨rfl, N984q, K984q, f986, f987⟩ := hQ984
  have f988 := f967.keep K984q
  have f989 := f968.keep K984q (ninS ne938 (ninS ne942 nin0))
  have f990 := f969.keep K984q
  have f991 := f970.keep K984q (ninS ne939 (ninS ne943 nin0))
  have f992 := f971.keep K984q
  have f993 := f972.keep K984q (ninS ne940 (ninS ne944 nin0))
  have f994 := f973.keep K984q
  have f995 := f974.keep K984q (ninS ne941 (ninS ne945 nin0))
  have f996 := f975.keep K984q (ninS ne941 (ninS ne945 nin0))
  have f997 := f976.keep K984q (ninS ne941 (ninS ne945 nin0))
  have f998 := f977.keep K984q (ninS nx_cx0915_cx1915 (ninS nx_cx0915_cx2915 nin0))
  have Z984 := Nat.le_trans Z963 K984q.1
  have hk : T984.heap.size ≤ h984.size := by rw [e984]; exact Nat.le_refl _
  have N984 := Fr.app N983 N984q
  obtain ⟨cq1001, kq1001, q1001a, q1001b, q1001c⟩ := isOf hZ e984 f994
  obtain ⟨_, _, ⟨T1001, L1001, k1001, n1001⟩, -, X1001, ⟨Lc1001, hQ1001, l1001, y1001, z1001⟩, st1001⟩ := X984.virtualBack hx (y := (⟨"com/example/stowline/stowline/VolumeBound", "value", "()J"⟩ : MethodName)) (z := (⟨"com/example/stowline/stowline/VolumeBound", "value", "()J"⟩ : MethodName)) hown (mvT hZ (hw _ (List.mem_of_getElem? (i := 63) rfl))) (mvT hZ (hw _ (List.mem_of_getElem? (i := 64) rfl))) (notFace_of_selects (args := #[]) (mvT hZ (hw _ (List.mem_of_getElem? (i := 66) rfl)))) (mvT hZ (hw _ (List.mem_of_getElem? (i := 66) rfl))) (mvT hZ (hw _ (List.mem_of_getElem? (i := 65) rfl))) (by decide) (backOf (W := 0) (rm10_2 l Z aw hw [] b901 cx0915 cx1915 cx2915 ((j1_0 q0)) ((j1_0 q1)) ((j13_2_0 (j7_2_0 (j1_0 q0) (j7_2_0 (j1_0 q0) (0 : Int64) (0 : Int64) (v2 q2 (j1_0 q0))) (j7_2_1 (j1_0 q0) (0 : Int64) (v2 q2 (j1_0 q0))) (v2 q4 (j1_0 q0))) (j7_2_1 (j1_0 q0) (j7_2_1 (j1_0 q0) (0 : Int64) (v2 q2 (j1_0 q0))) (v2 q4 (j1_0 q0))) (v2 q2 (j1_0 q0)))) ((j13_2_2 (j7_2_2 (j1_0 q1) (j7_2_2 (j1_0 q1) (0 : Int64) (0 : Int64) (v2 q3 (j1_0 q1))) (j7_2_3 (j1_0 q1) (0 : Int64) (v2 q3 (j1_0 q1))) (v2 q5 (j1_0 q1))) (j7_2_3 (j1_0 q1) (j7_2_3 (j1_0 q1) (0 : Int64) (v2 q3 (j1_0 q1))) (v2 q5 (j1_0 q1))) (v2 q3 (j1_0 q1)))) ((j13_2_1 (j1_0 q0) (j7_2_1 (j1_0 q0) (j7_2_1 (j1_0 q0) (0 : Int64) (v2 q2 (j1_0 q0))) (v2 q4 (j1_0 q0))) (v2 q2 (j1_0 q0)))) ((j13_2_3 (j1_0 q1) (j7_2_3 (j1_0 q1) (j7_2_3 (j1_0 q1) (0 : Int64) (v2 q3 (j1_0 q1))) (v2 q5 (j1_0 q1))) (v2 q3 (j1_0 q1)))) cy0915 cy1915 cy2915 h984 n0 Z984 f994 f995 f996 f997 f998 f986 f987) hZ (hw _ (List.mem_of_getElem? (i := 67) rfl)) (hw _ (List.mem_of_getElem? (i := 11) rfl)) (by decide) (by decide)) q1001a q1001c (g := (mkF m 157 #[.val (.long q0), .second, .val (.long q1), .second, .val (.long q2), .second, .val (.long q3), .second, .val (.long q4), .second, .val (.long q5), .second, .val (.long (j1_0 q0)), .second, .val (.long (j1_0 q1)), .second, .val (.long (v2 q2 (j1_0 q0))), .second, .val (.long (v2 q3 (j1_0 q1))), .second, .val (.long (v2 q4 (j1_0 q0))), .second, .val (.long (v2 q5 (j1_0 q1))), .second, .val (.ref b832), .val (.ref b848), .val (.ref b871), .val (.ref b901), .val (.long (j11_0 (j11_0 (0 : Int64) ((j7_2_0 (j1_0 q0) (j7_2_0 (j1_0 q0) (0 : Int64) (0 : Int64) (v2 q2 (j1_0 q0))) (j7_2_1 (j1_0 q0) (0 : Int64) (v2 q2 (j1_0 q0))) (v2 q4 (j1_0 q0))) + ((j10_2_0 (j7_2_1 (j1_0 q0) (j7_2_1 (j1_0 q0) (0 : Int64) (v2 q2 (j1_0 q0))) (v2 q4 (j1_0 q0)))).toInt64))) ((j7_2_2 (j1_0 q1) (j7_2_2 (j1_0 q1) (0 : Int64) (0 : Int64) (v2 q3 (j1_0 q1))) (j7_2_3 (j1_0 q1) (0 : Int64) (v2 q3 (j1_0 q1))) (v2 q5 (j1_0 q1))) + ((j10_2_1 (j7_2_3 (j1_0 q1) (j7_2_3 (j1_0 q1) (0 : Int64) (v2 q3 (j1_0 q1))) (v2 q5 (j1_0 q1)))).toInt64)))), .second, .val (.long (j11_0 (v12 (v2 q2 (j1_0 q0)) (v2 q4 (j1_0 q0)) (j1_0 q0)) (v12 (v2 q3 (j1_0 q1)) (v2 q5 (j1_0 q1)) (j1_0 q1)))), .second, .unset, .unset, .unset, .unset] [(.ref b901)])) rfl (by rw [hml]; rfl) (Steps.refl _) (argsL := []) (rest := []) (lenOf pd_10 rfl) rfl (by show 2 * 0 + _ ≤ _; exact Nat.le_of_eq rfl) (hb hby at_157) (fun _ _ => ⟨rfl, e984, (by decide : 15 + 0 ≤ _), (by decide : 131 + 0 ≤ _)⟩)
  dsimp only [Pt.U, Pt.locs, Pt.cells, Pt.slots] at X1001 l1001 y1001 z1001 st1001 hQ1001
  subst l1001 y1001 z1001
  obtain ⟨rfl, N1001q, e1001⟩ := hQ1001
  have N1001 := Fr.app N984 N1001q
  have pre1002 := fun (t : State) (k : Steps p.tables e below (T1001.setTop (mkF m 166 #[.val (.long q0), .second, .val (.long q1), .second, .val (.long q2), .second, .val (.long q3), .second, .val (.long q4), .second, .val (.long q5), .second, .val (.long (j1_0 q0)), .second, .val (.long (j1_0 q1)), .second, .val (.long (v2 q2 (j1_0 q0))), .second, .val (.long (v2 q3 (j1_0 q1))), .second, .val (.long (v2 q4 (j1_0 q0))), .second, .val (.long (v2 q5 (j1_0 q1))), .second, .val (.ref b832), .val (.ref b848), .val (.ref b871), .val (.ref b901), .val (.long (j11_0 (j11_0 (0 : Int64) ((j7_2_0 (j1_0 q0) (j7_2_0 (j1_0 q0) (0 : Int64) (0 : Int64) (v2 q2 (j1_0 q0))) (j7_2_1 (j1_0 q0) (0 : Int64) (v2 q2 (j1_0 q0))) (v2 q4 (j1_0 q0))) + ((j10_2_0 (j7_2_1 (j1_0 q0) (j7_2_1 (j1_0 q0) (0 : Int64) (v2 q2 (j1_0 q0))) (v2 q4 (j1_0 q0)))).toInt64))) ((j7_2_2 (j1_0 q1) (j7_2_2 (j1_0 q1) (0 : Int64) (0 : Int64) (v2 q3 (j1_0 q1))) (j7_2_3 (j1_0 q1) (0 : Int64) (v2 q3 (j1_0 q1))) (v2 q5 (j1_0 q1))) + ((j10_2_1 (j7_2_3 (j1_0 q1) (j7_2_3 (j1_0 q1) (0 : Int64) (v2 q3 (j1_0 q1))) (v2 q5 (j1_0 q1)))).toInt64)))), .second, .val (.long (j11_0 (v12 (v2 q2 (j1_0 q0)) (v2 q4 (j1_0 q0)) (j1_0 q0)) (v12 (v2 q3 (j1_0 q1)) (v2 q5 (j1_0 q1)) (j1_0 q1)))), .second, .val (.long (j11_0 (j11_0 (0 : Int64) ((j13_2_0 (j7_2_0 (j1_0 q0) (j7_2_0 (j1_0 q0) (0 : Int64) (0 : Int64) (v2 q2 (j1_0 q0))) (j7_2_1 (j1_0 q0) (0 : Int64) (v2 q2 (j1_0 q0))) (v2 q4 (j1_0 q0))) (j7_2_1 (j1_0 q0) (j7_2_1 (j1_0 q0) (0 : Int64) (v2 q2 (j1_0 q0))) (v2 q4 (j1_0 q0))) (v2 q2 (j1_0 q0))) + ((j10_2_0 (j13_2_1 (j1_0 q0) (j7_2_1 (j1_0 q0) (j7_2_1 (j1_0 q0) (0 : Int64) (v2 q2 (j1_0 q0))) (v2 q4 (j1_0 q0))) (v2 q2 (j1_0 q0)))).toInt64))) ((j13_2_2 (j7_2_2 (j1_0 q1) (j7_2_2 (j1_0 q1) (0 : Int64) (0 : Int64) (v2 q3 (j1_0 q1))) (j7_2_3 (j1_0 q1) (0 : Int64) (v2 q3 (j1_0 q1))) (v2 q5 (j1_0 q1))) (j7_2_3 (j1_0 q1) (j7_2_3 (j1_0 q1) (0 : Int64) (v2 q3 (j1_0 q1))) (v2 q5 (j1_0 q1))) (v2 q3 (j1_0 q1))) + ((j10_2_1 (j13_2_3 (j1_0 q1) (j7_2_3 (j1_0 q1) (j7_2_3 (j1_0 q1) (0 : Int64) (v2 q3 (j1_0 q1))) (v2 q5 (j1_0 q1))) (v2 q3 (j1_0 q1)))).toInt64)))), .second, .unset, .unset] [(.int (lcmpW (v2 q4 (j1_0 q0)) (0 : Int64)))])) t) => pre985 t (by
    show Steps p.tables e below (T983.setTop (mkF m 152 #[.val (.long q0), .second, .val (.long q1), .second, .val (.long q2), .second, .val (.long q3), .second, .val (.long q4), .second, .val (.long q5), .second, .val (.long (j1_0 q0)), .second, .val (.long (j1_0 q1)), .second, .val (.long (v2 q2 (j1_0 q0))), .second, .val (.long (v2 q3 (j1_0 q1))), .second, .val (.long (v2 q4 (j1_0 q0))), .second, .val (.long (v2 q5 (j1_0 q1))), .second, .val (.ref b832), .val (.ref b848), .val (.ref b871), .val (.ref b901), .val (.long (j11_0 (j11_0 (0 : Int64) ((j7_2_0 (j1_0 q0) (j7_2_0 (j1_0 q0) (0 : Int64) (0 : Int64) (v2 q2 (j1_0 q0))) (j7_2_1 (j1_0 q0) (0 : Int64) (v2 q2 (j1_0 q0))) (v2 q4 (j1_0 q0))) + ((j10_2_0 (j7_2_1 (j1_0 q0) (j7_2_1 (j1_0 q0) (0 : Int64) (v2 q2 (j1_0 q0))) (v2 q4 (j1_0 q0)))).toInt64))) ((j7_2_2 (j1_0 q1) (j7_2_2 (j1_0 q1) (0 : Int64) (0 : Int64) (v2 q3 (j1_0 q1))) (j7_2_3 (j1_0 q1) (0 : Int64) (v2 q3 (j1_0 q1))) (v2 q5 (j1_0 q1))) + ((j10_2_1 (j7_2_3 (j1_0 q1) (j7_2_3 (j1_0 q1) (0 : Int64) (v2 q3 (j1_0 q1))) (v2 q5 (j1_0 q1)))).toInt64)))), .second, .val (.long (j11_0 (v12 (v2 q2 (j1_0 q0)) (v2 q4 (j1_0 q0)) (j1_0 q0)) (v12 (v2 q3 (j1_0 q1)) (v2 q5 (j1_0 q1)) (j1_0 q1)))), .second, .unset, .unset, .unset, .unset] [(.ref b848), (.ref b901)])) _
    refine st984.trans ?_
    show Steps p.tables e below (T984.setTop (mkF m 155 #[.val (.long q0), .second, .val (.long q1), .second, .val (.long q2), .second, .val (.long q3), .second, .val (.long q4), .second, .val (.long q5), .second, .val (.long (j1_0 q0)), .second, .val (.long (j1_0 q1)), .second, .val (.long (v2 q2 (j1_0 q0))), .second, .val (.long (v2 q3 (j1_0 q1))), .second, .val (.long (v2 q4 (j1_0 q0))), .second, .val (.long (v2 q5 (j1_0 q1))), .second, .val (.ref b832), .val (.ref b848), .val (.ref b871), .val (.ref b901), .val (.long (j11_0 (j11_0 (0 : Int64) ((j7_2_0 (j1_0 q0) (j7_2_0 (j1_0 q0) (0 : Int64) (0 : Int64) (v2 q2 (j1_0 q0))) (j7_2_1 (j1_0 q0) (0 : Int64) (v2 q2 (j1_0 q0))) (v2 q4 (j1_0 q0))) + ((j10_2_0 (j7_2_1 (j1_0 q0) (j7_2_1 (j1_0 q0) (0 : Int64) (v2 q2 (j1_0 q0))) (v2 q4 (j1_0 q0)))).toInt64))) ((j7_2_2 (j1_0 q1) (j7_2_2 (j1_0 q1) (0 : Int64) (0 : Int64) (v2 q3 (j1_0 q1))) (j7_2_3 (j1_0 q1) (0 : Int64) (v2 q3 (j1_0 q1))) (v2 q5 (j1_0 q1))) + ((j10_2_1 (j7_2_3 (j1_0 q1) (j7_2_3 (j1_0 q1) (0 : Int64) (v2 q3 (j1_0 q1))) (v2 q5 (j1_0 q1)))).toInt64)))), .second, .val (.long (j11_0 (v12 (v2 q2 (j1_0 q0)) (v2 q4 (j1_0 q0)) (j1_0 q0)) (v12 (v2 q3 (j1_0 q1)) (v2 q5 (j1_0 q1)) (j1_0 q1)))), .second, .unset, .unset, .unset, .unset] [])) _
    refine XS.aload X984.here hx rfl (hb hby at_155) rfl rfl ?_
    show Steps p.tables e below (T984.setTop (mkF m 157 #[.val (.long q0), .second, .val (.long q1), .second, .val (.long q2), .second, .val (.long q3), .second, .val (.long q4), .second, .val (.long q5), .second, .val (.long (j1_0 q0)), .second, .val (.long (j1_0 q1)), .second, .val (.long (v2 q2 (j1_0 q0))), .second, .val (.long (v2 q3 (j1_0 q1))), .second, .val (.long (v2 q4 (j1_0 q0))), .second, .val (.long (v2 q5 (j1_0 q1))), .second, .val (.ref b832), .val (.ref b848), .val (.ref b871), .val (.ref b901), .val (.long (j11_0 (j11_0 (0 : Int64) ((j7_2_0 (j1_0 q0) (j7_2_0 (j1_0 q0) (0 : Int64) (0 : Int64) (v2 q2 (j1_0 q0))) (j7_2_1 (j1_0 q0) (0 : Int64) (v2 q2 (j1_0 q0))) (v2 q4 (j1_0 q0))) + ((j10_2_0 (j7_2_1 (j1_0 q0) (j7_2_1 (j1_0 q0) (0 : Int64) (v2 q2 (j1_0 q0))) (v2 q4 (j1_0 q0)))).toInt64))) ((j7_2_2 (j1_0 q1) (j7_2_2 (j1_0 q1) (0 : Int64) (0 : Int64) (v2 q3 (j1_0 q1))) (j7_2_3 (j1_0 q1) (0 : Int64) (v2 q3 (j1_0 q1))) (v2 q5 (j1_0 q1))) + ((j10_2_1 (j7_2_3 (j1_0 q1) (j7_2_3 (j1_0 q1) (0 : Int64) (v2 q3 (j1_0 q1))) (v2 q5 (j1_0 q1)))).toInt64)))), .second, .val (.long (j11_0 (v12 (v2 q2 (j1_0 q0)) (v2 q4 (j1_0 q0)) (j1_0 q0)) (v12 (v2 q3 (j1_0 q1)) (v2 q5 (j1_0 q1)) (j1_0 q1)))), .second, .unset, .unset, .unset, .unset] [(.ref b901)])) _
    refine st1001.trans ?_
    show Steps p.tables e below (T1001.setTop (mkF m 160 #[.val (.long q0), .second, .val (.long q1), .second, .val (.long q2), .second, .val (.long q3), .second, .val (.long q4), .second, .val (.long q5), .second, .val (.long (j1_0 q0)), .second, .val (.long (j1_0 q1)), .second, .val (.long (v2 q2 (j1_0 q0))), .second, .val (.long (v2 q3 (j1_0 q1))), .second, .val (.long (v2 q4 (j1_0 q0))), .second, .val (.long (v2 q5 (j1_0 q1))), .second, .val (.ref b832), .val (.ref b848), .val (.ref b871), .val (.ref b901), .val (.long (j11_0 (j11_0 (0 : Int64) ((j7_2_0 (j1_0 q0) (j7_2_0 (j1_0 q0) (0 : Int64) (0 : Int64) (v2 q2 (j1_0 q0))) (j7_2_1 (j1_0 q0) (0 : Int64) (v2 q2 (j1_0 q0))) (v2 q4 (j1_0 q0))) + ((j10_2_0 (j7_2_1 (j1_0 q0) (j7_2_1 (j1_0 q0) (0 : Int64) (v2 q2 (j1_0 q0))) (v2 q4 (j1_0 q0)))).toInt64))) ((j7_2_2 (j1_0 q1) (j7_2_2 (j1_0 q1) (0 : Int64) (0 : Int64) (v2 q3 (j1_0 q1))) (j7_2_3 (j1_0 q1) (0 : Int64) (v2 q3 (j1_0 q1))) (v2 q5 (j1_0 q1))) + ((j10_2_1 (j7_2_3 (j1_0 q1) (j7_2_3 (j1_0 q1) (0 : Int64) (v2 q3 (j1_0 q1))) (v2 q5 (j1_0 q1)))).toInt64)))), .second, .val (.long (j11_0 (v12 (v2 q2 (j1_0 q0)) (v2 q4 (j1_0 q0)) (j1_0 q0)) (v12 (v2 q3 (j1_0 q1)) (v2 q5 (j1_0 q1)) (j1_0 q1)))), .second, .unset, .unset, .unset, .unset] [(.long (j11_0 (j11_0 (0 : Int64) ((j13_2_0 (j7_2_0 (j1_0 q0) (j7_2_0 (j1_0 q0) (0 : Int64) (0 : Int64) (v2 q2 (j1_0 q0))) (j7_2_1 (j1_0 q0) (0 : Int64) (v2 q2 (j1_0 q0))) (v2 q4 (j1_0 q0))) (j7_2_1 (j1_0 q0) (j7_2_1 (j1_0 q0) (0 : Int64) (v2 q2 (j1_0 q0))) (v2 q4 (j1_0 q0))) (v2 q2 (j1_0 q0))) + ((j10_2_0 (j13_2_1 (j1_0 q0) (j7_2_1 (j1_0 q0) (j7_2_1 (j1_0 q0) (0 : Int64) (v2 q2 (j1_0 q0))) (v2 q4 (j1_0 q0))) (v2 q2 (j1_0 q0)))).toInt64))) ((j13_2_2 (j7_2_2 (j1_0 q1) (j7_2_2 (j1_0 q1) (0 : Int64) (0 : Int64) (v2 q3 (j1_0 q1))) (j7_2_3 (j1_0 q1) (0 : Int64) (v2 q3 (j1_0 q1))) (v2 q5 (j1_0 q1))) (j7_2_3 (j1_0 q1) (j7_2_3 (j1_0 q1) (0 : Int64) (v2 q3 (j1_0 q1))) (v2 q5 (j1_0 q1))) (v2 q3 (j1_0 q1))) + ((j10_2_1 (j13_2_3 (j1_0 q1) (j7_2_3 (j1_0 q1) (j7_2_3 (j1_0 q1) (0 : Int64) (v2 q3 (j1_0 q1))) (v2 q5 (j1_0 q1))) (v2 q3 (j1_0 q1)))).toInt64))))])) _
    refine XS.lstore X1001.here hx rfl (hb hby at_160) rfl (l' := #[.val (.long q0), .second, .val (.long q1), .second, .val (.long q2), .second, .val (.long q3), .second, .val (.long q4), .second, .val (.long q5), .second, .val (.long (j1_0 q0)), .second, .val (.long (j1_0 q1)), .second, .val (.long (v2 q2 (j1_0 q0))), .second, .val (.long (v2 q3 (j1_0 q1))), .second, .val (.long (v2 q4 (j1_0 q0))), .second, .val (.long (v2 q5 (j1_0 q1))), .second, .val (.ref b832), .val (.ref b848), .val (.ref b871), .val (.ref b901), .val (.long (j11_0 (j11_0 (0 : Int64) ((j7_2_0 (j1_0 q0) (j7_2_0 (j1_0 q0) (0 : Int64) (0 : Int64) (v2 q2 (j1_0 q0))) (j7_2_1 (j1_0 q0) (0 : Int64) (v2 q2 (j1_0 q0))) (v2 q4 (j1_0 q0))) + ((j10_2_0 (j7_2_1 (j1_0 q0) (j7_2_1 (j1_0 q0) (0 : Int64) (v2 q2 (j1_0 q0))) (v2 q4 (j1_0 q0)))).toInt64))) ((j7_2_2 (j1_0 q1) (j7_2_2 (j1_0 q1) (0 : Int64) (0 : Int64) (v2 q3 (j1_0 q1))) (j7_2_3 (j1_0 q1) (0 : Int64) (v2 q3 (j1_0 q1))) (v2 q5 (j1_0 q1))) + ((j10_2_1 (j7_2_3 (j1_0 q1) (j7_2_3 (j1_0 q1) (0 : Int64) (v2 q3 (j1_0 q1))) (v2 q5 (j1_0 q1)))).toInt64)))), .second, .val (.long (j11_0 (v12 (v2 q2 (j1_0 q0)) (v2 q4 (j1_0 q0)) (j1_0 q0)) (v12 (v2 q3 (j1_0 q1)) (v2 q5 (j1_0 q1)) (j1_0 q1)))), .second, .val (.long (j11_0 (j11_0 (0 : Int64) ((j13_2_0 (j7_2_0 (j1_0 q0) (j7_2_0 (j1_0 q0) (0 : Int64) (0 : Int64) (v2 q2 (j1_0 q0))) (j7_2_1 (j1_0 q0) (0 : Int64) (v2 q2 (j1_0 q0))) (v2 q4 (j1_0 q0))) (j7_2_1 (j1_0 q0) (j7_2_1 (j1_0 q0) (0 : Int64) (v2 q2 (j1_0 q0))) (v2 q4 (j1_0 q0))) (v2 q2 (j1_0 q0))) + ((j10_2_0 (j13_2_1 (j1_0 q0) (j7_2_1 (j1_0 q0) (j7_2_1 (j1_0 q0) (0 : Int64) (v2 q2 (j1_0 q0))) (v2 q4 (j1_0 q0))) (v2 q2 (j1_0 q0)))).toInt64))) ((j13_2_2 (j7_2_2 (j1_0 q1) (j7_2_2 (j1_0 q1) (0 : Int64) (0 : Int64) (v2 q3 (j1_0 q1))) (j7_2_3 (j1_0 q1) (0 : Int64) (v2 q3 (j1_0 q1))) (v2 q5 (j1_0 q1))) (j7_2_3 (j1_0 q1) (j7_2_3 (j1_0 q1) (0 : Int64) (v2 q3 (j1_0 q1))) (v2 q5 (j1_0 q1))) (v2 q3 (j1_0 q1))) + ((j10_2_1 (j13_2_3 (j1_0 q1) (j7_2_3 (j1_0 q1) (j7_2_3 (j1_0 q1) (0 : Int64) (v2 q3 (j1_0 q1))) (v2 q5 (j1_0 q1))) (v2 q3 (j1_0 q1)))).toInt64)))), .second, .unset, .unset]) rfl ?_
    show Steps p.tables e below (T1001.setTop (mkF m 162 #[.val (.long q0), .second, .val (.long q1), .second, .val (.long q2), .second, .val (.long q3), .second, .val (.long q4), .second, .val (.long q5), .second, .val (.long (j1_0 q0)), .second, .val (.long (j1_0 q1)), .second, .val (.long (v2 q2 (j1_0 q0))), .second, .val (.long (v2 q3 (j1_0 q1))), .second, .val (.long (v2 q4 (j1_0 q0))), .second, .val (.long (v2 q5 (j1_0 q1))), .second, .val (.ref b832), .val (.ref b848), .val (.ref b871), .val (.ref b901), .val (.long (j11_0 (j11_0 (0 : Int64) ((j7_2_0 (j1_0 q0) (j7_2_0 (j1_0 q0) (0 : Int64) (0 : Int64) (v2 q2 (j1_0 q0))) (j7_2_1 (j1_0 q0) (0 : Int64) (v2 q2 (j1_0 q0))) (v2 q4 (j1_0 q0))) + ((j10_2_0 (j7_2_1 (j1_0 q0) (j7_2_1 (j1_0 q0) (0 : Int64) (v2 q2 (j1_0 q0))) (v2 q4 (j1_0 q0)))).toInt64))) ((j7_2_2 (j1_0 q1) (j7_2_2 (j1_0 q1) (0 : Int64) (0 : Int64) (v2 q3 (j1_0 q1))) (j7_2_3 (j1_0 q1) (0 : Int64) (v2 q3 (j1_0 q1))) (v2 q5 (j1_0 q1))) + ((j10_2_1 (j7_2_3 (j1_0 q1) (j7_2_3 (j1_0 q1) (0 : Int64) (v2 q3 (j1_0 q1))) (v2 q5 (j1_0 q1)))).toInt64)))), .second, .val (.long (j11_0 (v12 (v2 q2 (j1_0 q0)) (v2 q4 (j1_0 q0)) (j1_0 q0)) (v12 (v2 q3 (j1_0 q1)) (v2 q5 (j1_0 q1)) (j1_0 q1)))), .second, .val (.long (j11_0 (j11_0 (0 : Int64) ((j13_2_0 (j7_2_0 (j1_0 q0) (j7_2_0 (j1_0 q0) (0 : Int64) (0 : Int64) (v2 q2 (j1_0 q0))) (j7_2_1 (j1_0 q0) (0 : Int64) (v2 q2 (j1_0 q0))) (v2 q4 (j1_0 q0))) (j7_2_1 (j1_0 q0) (j7_2_1 (j1_0 q0) (0 : Int64) (v2 q2 (j1_0 q0))) (v2 q4 (j1_0 q0))) (v2 q2 (j1_0 q0))) + ((j10_2_0 (j13_2_1 (j1_0 q0) (j7_2_1 (j1_0 q0) (j7_2_1 (j1_0 q0) (0 : Int64) (v2 q2 (j1_0 q0))) (v2 q4 (j1_0 q0))) (v2 q2 (j1_0 q0)))).toInt64))) ((j13_2_2 (j7_2_2 (j1_0 q1) (j7_2_2 (j1_0 q1) (0 : Int64) (0 : Int64) (v2 q3 (j1_0 q1))) (j7_2_3 (j1_0 q1) (0 : Int64) (v2 q3 (j1_0 q1))) (v2 q5 (j1_0 q1))) (j7_2_3 (j1_0 q1) (j7_2_3 (j1_0 q1) (0 : Int64) (v2 q3 (j1_0 q1))) (v2 q5 (j1_0 q1))) (v2 q3 (j1_0 q1))) + ((j10_2_1 (j13_2_3 (j1_0 q1) (j7_2_3 (j1_0 q1) (j7_2_3 (j1_0 q1) (0 : Int64) (v2 q3 (j1_0 q1))) (v2 q5 (j1_0 q1))) (v2 q3 (j1_0 q1)))).toInt64)))), .second, .unset, .unset] [])) _
    refine XS.lload X1001.here hx rfl (hb hby at_162) rfl ?_
    show Steps p.tables e below (T1001.setTop (mkF m 164 #[.val (.long q0), .second, .val (.long q1), .second, .val (.long q2), .second, .val (.long q3), .second, .val (.long q4), .second, .val (.long q5), .second, .val (.long (j1_0 q0)), .second, .val (.long (j1_0 q1)), .second, .val (.long (v2 q2 (j1_0 q0))), .second, .val (.long (v2 q3 (j1_0 q1))), .second, .val (.long (v2 q4 (j1_0 q0))), .second, .val (.long (v2 q5 (j1_0 q1))), .second, .val (.ref b832), .val (.ref b848), .val (.ref b871), .val (.ref b901), .val (.long (j11_0 (j11_0 (0 : Int64) ((j7_2_0 (j1_0 q0) (j7_2_0 (j1_0 q0) (0 : Int64) (0 : Int64) (v2 q2 (j1_0 q0))) (j7_2_1 (j1_0 q0) (0 : Int64) (v2 q2 (j1_0 q0))) (v2 q4 (j1_0 q0))) + ((j10_2_0 (j7_2_1 (j1_0 q0) (j7_2_1 (j1_0 q0) (0 : Int64) (v2 q2 (j1_0 q0))) (v2 q4 (j1_0 q0)))).toInt64))) ((j7_2_2 (j1_0 q1) (j7_2_2 (j1_0 q1) (0 : Int64) (0 : Int64) (v2 q3 (j1_0 q1))) (j7_2_3 (j1_0 q1) (0 : Int64) (v2 q3 (j1_0 q1))) (v2 q5 (j1_0 q1))) + ((j10_2_1 (j7_2_3 (j1_0 q1) (j7_2_3 (j1_0 q1) (0 : Int64) (v2 q3 (j1_0 q1))) (v2 q5 (j1_0 q1)))).toInt64)))), .second, .val (.long (j11_0 (v12 (v2 q2 (j1_0 q0)) (v2 q4 (j1_0 q0)) (j1_0 q0)) (v12 (v2 q3 (j1_0 q1)) (v2 q5 (j1_0 q1)) (j1_0 q1)))), .second, .val (.long (j11_0 (j11_0 (0 : Int64) ((j13_2_0 (j7_2_0 (j1_0 q0) (j7_2_0 (j1_0 q0) (0 : Int64) (0 : Int64) (v2 q2 (j1_0 q0))) (j7_2_1 (j1_0 q0) (0 : Int64) (v2 q2 (j1_0 q0))) (v2 q4 (j1_0 q0))) (j7_2_1 (j1_0 q0) (j7_2_1 (j1_0 q0) (0 : Int64) (v2 q2 (j1_0 q0))) (v2 q4 (j1_0 q0))) (v2 q2 (j1_0 q0))) + ((j10_2_0 (j13_2_1 (j1_0 q0) (j7_2_1 (j1_0 q0) (j7_2_1 (j1_0 q0) (0 : Int64) (v2 q2 (j1_0 q0))) (v2 q4 (j1_0 q0))) (v2 q2 (j1_0 q0)))).toInt64))) ((j13_2_2 (j7_2_2 (j1_0 q1) (j7_2_2 (j1_0 q1) (0 : Int64) (0 : Int64) (v2 q3 (j1_0 q1))) (j7_2_3 (j1_0 q1) (0 : Int64) (v2 q3 (j1_0 q1))) (v2 q5 (j1_0 q1))) (j7_2_3 (j1_0 q1) (j7_2_3 (j1_0 q1) (0 : Int64) (v2 q3 (j1_0 q1))) (v2 q5 (j1_0 q1))) (v2 q3 (j1_0 q1))) + ((j10_2_1 (j13_2_3 (j1_0 q1) (j7_2_3 (j1_0 q1) (j7_2_3 (j1_0 q1) (0 : Int64) (v2 q3 (j1_0 q1))) (v2 q5 (j1_0 q1))) (v2 q3 (j1_0 q1)))).toInt64)))), .second, .unset, .unset] [(.long (v2 q4 (j1_0 q0)))])) _
    refine XS.lconst X1001.here hx rfl (hb hby at_164) ?_
    show Steps p.tables e below (T1001.setTop (mkF m 165 #[.val (.long q0), .second, .val (.long q1), .second, .val (.long q2), .second, .val (.long q3), .second, .val (.long q4), .second, .val (.long q5), .second, .val (.long (j1_0 q0)), .second, .val (.long (j1_0 q1)), .second, .val (.long (v2 q2 (j1_0 q0))), .second, .val (.long (v2 q3 (j1_0 q1))), .second, .val (.long (v2 q4 (j1_0 q0))), .second, .val (.long (v2 q5 (j1_0 q1))), .second, .val (.ref b832), .val (.ref b848), .val (.ref b871), .val (.ref b901), .val (.long (j11_0 (j11_0 (0 : Int64) ((j7_2_0 (j1_0 q0) (j7_2_0 (j1_0 q0) (0 : Int64) (0 : Int64) (v2 q2 (j1_0 q0))) (j7_2_1 (j1_0 q0) (0 : Int64) (v2 q2 (j1_0 q0))) (v2 q4 (j1_0 q0))) + ((j10_2_0 (j7_2_1 (j1_0 q0) (j7_2_1 (j1_0 q0) (0 : Int64) (v2 q2 (j1_0 q0))) (v2 q4 (j1_0 q0)))).toInt64))) ((j7_2_2 (j1_0 q1) (j7_2_2 (j1_0 q1) (0 : Int64) (0 : Int64) (v2 q3 (j1_0 q1))) (j7_2_3 (j1_0 q1) (0 : Int64) (v2 q3 (j1_0 q1))) (v2 q5 (j1_0 q1))) + ((j10_2_1 (j7_2_3 (j1_0 q1) (j7_2_3 (j1_0 q1) (0 : Int64) (v2 q3 (j1_0 q1))) (v2 q5 (j1_0 q1)))).toInt64)))), .second, .val (.long (j11_0 (v12 (v2 q2 (j1_0 q0)) (v2 q4 (j1_0 q0)) (j1_0 q0)) (v12 (v2 q3 (j1_0 q1)) (v2 q5 (j1_0 q1)) (j1_0 q1)))), .second, .val (.long (j11_0 (j11_0 (0 : Int64) ((j13_2_0 (j7_2_0 (j1_0 q0) (j7_2_0 (j1_0 q0) (0 : Int64) (0 : Int64) (v2 q2 (j1_0 q0))) (j7_2_1 (j1_0 q0) (0 : Int64) (v2 q2 (j1_0 q0))) (v2 q4 (j1_0 q0))) (j7_2_1 (j1_0 q0) (j7_2_1 (j1_0 q0) (0 : Int64) (v2 q2 (j1_0 q0))) (v2 q4 (j1_0 q0))) (v2 q2 (j1_0 q0))) + ((j10_2_0 (j13_2_1 (j1_0 q0) (j7_2_1 (j1_0 q0) (j7_2_1 (j1_0 q0) (0 : Int64) (v2 q2 (j1_0 q0))) (v2 q4 (j1_0 q0))) (v2 q2 (j1_0 q0)))).toInt64))) ((j13_2_2 (j7_2_2 (j1_0 q1) (j7_2_2 (j1_0 q1) (0 : Int64) (0 : Int64) (v2 q3 (j1_0 q1))) (j7_2_3 (j1_0 q1) (0 : Int64) (v2 q3 (j1_0 q1))) (v2 q5 (j1_0 q1))) (j7_2_3 (j1_0 q1) (j7_2_3 (j1_0 q1) (0 : Int64) (v2 q3 (j1_0 q1))) (v2 q5 (j1_0 q1))) (v2 q3 (j1_0 q1))) + ((j10_2_1 (j13_2_3 (j1_0 q1) (j7_2_3 (j1_0 q1) (j7_2_3 (j1_0 q1) (0 : Int64) (v2 q3 (j1_0 q1))) (v2 q5 (j1_0 q1))) (v2 q3 (j1_0 q1)))).toInt64)))), .second, .unset, .unset] [(.long (0 : Int64)), (.long (v2 q4 (j1_0 q0)))])) _
    refine XS.lcmp X1001.here hx rfl (hb hby at_165) rfl ?_
    exact k)
  have pre1003 := fun (t : State) (k : Steps p.tables e below (T1001.setTop (mkF m 174 #[.val (.long q0), .second, .val (.long q1), .second, .val (.long q2), .second, .val (.long q3), .second, .val (.long q4), .second, .val (.long q5), .second, .val (.long (j1_0 q0)), .second, .val (.long (j1_0 q1)), .second, .val (.long (v2 q2 (j1_0 q0))), .second, .val (.long (v2 q3 (j1_0 q1))), .second, .val (.long (v2 q4 (j1_0 q0))), .second, .val (.long (v2 q5 (j1_0 q1))), .second, .val (.ref b832), .val (.ref b848), .val (.ref b871), .val (.ref b901), .val (.long (j11_0 (j11_0 (0 : Int64) ((j7_2_0 (j1_0 q0) (j7_2_0 (j1_0 q0) (0 : Int64) (0 : Int64) (v2 q2 (j1_0 q0))) (j7_2_1 (j1_0 q0) (0 : Int64) (v2 q2 (j1_0 q0))) (v2 q4 (j1_0 q0))) + ((j10_2_0 (j7_2_1 (j1_0 q0) (j7_2_1 (j1_0 q0) (0 : Int64) (v2 q2 (j1_0 q0))) (v2 q4 (j1_0 q0)))).toInt64))) ((j7_2_2 (j1_0 q1) (j7_2_2 (j1_0 q1) (0 : Int64) (0 : Int64) (v2 q3 (j1_0 q1))) (j7_2_3 (j1_0 q1) (0 : Int64) (v2 q3 (j1_0 q1))) (v2 q5 (j1_0 q1))) + ((j10_2_1 (j7_2_3 (j1_0 q1) (j7_2_3 (j1_0 q1) (0 : Int64) (v2 q3 (j1_0 q1))) (v2 q5 (j1_0 q1)))).toInt64)))), .second, .val (.long (j11_0 (v12 (v2 q2 (j1_0 q0)) (v2 q4 (j1_0 q0)) (j1_0 q0)) (v12 (v2 q3 (j1_0 q1)) (v2 q5 (j1_0 q1)) (j1_0 q1)))), .second, .val (.long (j11_0 (j11_0 (0 : Int64) ((j13_2_0 (j7_2_0 (j1_0 q0) (j7_2_0 (j1_0 q0) (0 : Int64) (0 : Int64) (v2 q2 (j1_0 q0))) (j7_2_1 (j1_0 q0) (0 : Int64) (v2 q2 (j1_0 q0))) (v2 q4 (j1_0 q0))) (j7_2_1 (j1_0 q0) (j7_2_1 (j1_0 q0) (0 : Int64) (v2 q2 (j1_0 q0))) (v2 q4 (j1_0 q0))) (v2 q2 (j1_0 q0))) + ((j10_2_0 (j13_2_1 (j1_0 q0) (j7_2_1 (j1_0 q0) (j7_2_1 (j1_0 q0) (0 : Int64) (v2 q2 (j1_0 q0))) (v2 q4 (j1_0 q0))) (v2 q2 (j1_0 q0)))).toInt64))) ((j13_2_2 (j7_2_2 (j1_0 q1) (j7_2_2 (j1_0 q1) (0 : Int64) (0 : Int64) (v2 q3 (j1_0 q1))) (j7_2_3 (j1_0 q1) (0 : Int64) (v2 q3 (j1_0 q1))) (v2 q5 (j1_0 q1))) (j7_2_3 (j1_0 q1) (j7_2_3 (j1_0 q1) (0 : Int64) (v2 q3 (j1_0 q1))) (v2 q5 (j1_0 q1))) (v2 q3 (j1_0 q1))) + ((j10_2_1 (j13_2_3 (j1_0 q1) (j7_2_3 (j1_0 q1) (j7_2_3 (j1_0 q1) (0 : Int64) (v2 q3 (j1_0 q1))) (v2 q5 (j1_0 q1))) (v2 q3 (j1_0 q1)))).toInt64)))), .second, .unset, .unset] [(.long (j0_0 q0 q4))])) t) => pre1002 t (by
    by_cases hc1004 : (0 : Int64) < (v2 q4 (j1_0 q0))
    · skip
      show Steps p.tables e below (T1001.setTop (mkF m 166 #[.val (.long q0), .second, .val (.long q1), .second, .val (.long q2), .second, .val (.long q3), .second, .val (.long q4), .second, .val (.long q5), .second, .val (.long (j1_0 q0)), .second, .val (.long (j1_0 q1)), .second, .val (.long (v2 q2 (j1_0 q0))), .second, .val (.long (v2 q3 (j1_0 q1))), .second, .val (.long (v2 q4 (j1_0 q0))), .second, .val (.long (v2 q5 (j1_0 q1))), .second, .val (.ref b832), .val (.ref b848), .val (.ref b871), .val (.ref b901), .val (.long (j11_0 (j11_0 (0 : Int64) ((j7_2_0 (j1_0 q0) (j7_2_0 (j1_0 q0) (0 : Int64) (0 : Int64) (v2 q2 (j1_0 q0))) (j7_2_1 (j1_0 q0) (0 : Int64) (v2 q2 (j1_0 q0))) (v2 q4 (j1_0 q0))) + ((j10_2_0 (j7_2_1 (j1_0 q0) (j7_2_1 (j1_0 q0) (0 : Int64) (v2 q2 (j1_0 q0))) (v2 q4 (j1_0 q0)))).toInt64))) ((j7_2_2 (j1_0 q1) (j7_2_2 (j1_0 q1) (0 : Int64) (0 : Int64) (v2 q3 (j1_0 q1))) (j7_2_3 (j1_0 q1) (0 : Int64) (v2 q3 (j1_0 q1))) (v2 q5 (j1_0 q1))) + ((j10_2_1 (j7_2_3 (j1_0 q1) (j7_2_3 (j1_0 q1) (0 : Int64) (v2 q3 (j1_0 q1))) (v2 q5 (j1_0 q1)))).toInt64)))), .second, .val (.long (j11_0 (v12 (v2 q2 (j1_0 q0)) (v2 q4 (j1_0 q0)) (j1_0 q0)) (v12 (v2 q3 (j1_0 q1)) (v2 q5 (j1_0 q1)) (j1_0 q1)))), .second, .val (.long (j11_0 (j11_0 (0 : Int64) ((j13_2_0 (j7_2_0 (j1_0 q0) (j7_2_0 (j1_0 q0) (0 : Int64) (0 : Int64) (v2 q2 (j1_0 q0))) (j7_2_1 (j1_0 q0) (0 : Int64) (v2 q2 (j1_0 q0))) (v2 q4 (j1_0 q0))) (j7_2_1 (j1_0 q0) (j7_2_1 (j1_0 q0) (0 : Int64) (v2 q2 (j1_0 q0))) (v2 q4 (j1_0 q0))) (v2 q2 (j1_0 q0))) + ((j10_2_0 (j13_2_1 (j1_0 q0) (j7_2_1 (j1_0 q0) (j7_2_1 (j1_0 q0) (0 : Int64) (v2 q2 (j1_0 q0))) (v2 q4 (j1_0 q0))) (v2 q2 (j1_0 q0)))).toInt64))) ((j13_2_2 (j7_2_2 (j1_0 q1) (j7_2_2 (j1_0 q1) (0 : Int64) (0 : Int64) (v2 q3 (j1_0 q1))) (j7_2_3 (j1_0 q1) (0 : Int64) (v2 q3 (j1_0 q1))) (v2 q5 (j1_0 q1))) (j7_2_3 (j1_0 q1) (j7_2_3 (j1_0 q1) (0 : Int64) (v2 q3 (j1_0 q1))) (v2 q5 (j1_0 q1))) (v2 q3 (j1_0 q1))) + ((j10_2_1 (j13_2_3 (j1_0 q1) (j7_2_3 (j1_0 q1) (j7_2_3 (j1_0 q1) (0 : Int64) (v2 q3 (j1_0 q1))) (v2 q5 (j1_0 q1))) (v2 q3 (j1_0 q1)))).toInt64)))), .second, .unset, .unset] [(.int (lcmpW (v2 q4 (j1_0 q0)) (0 : Int64)))])) _
      refine XS.ifNo X1001.here hx rfl (hb hby at_166) rfl ((if0 _ _).trans (tlt ((own_gt (v2 q4 (j1_0 q0)) (0 : Int64)).mpr hc1004)).2.2.2) ?_
      show Steps p.tables e below (T1001.setTop (mkF m 169 #[.val (.long q0), .second, .val (.long q1), .second, .val (.long q2), .second, .val (.long q3), .second, .val (.long q4), .second, .val (.long q5), .second, .val (.long (j1_0 q0)), .second, .val (.long (j1_0 q1)), .second, .val (.long (v2 q2 (j1_0 q0))), .second, .val (.long (v2 q3 (j1_0 q1))), .second, .val (.long (v2 q4 (j1_0 q0))), .second, .val (.long (v2 q5 (j1_0 q1))), .second, .val (.ref b832), .val (.ref b848), .val (.ref b871), .val (.ref b901), .val (.long (j11_0 (j11_0 (0 : Int64) ((j7_2_0 (j1_0 q0) (j7_2_0 (j1_0 q0) (0 : Int64) (0 : Int64) (v2 q2 (j1_0 q0))) (j7_2_1 (j1_0 q0) (0 : Int64) (v2 q2 (j1_0 q0))) (v2 q4 (j1_0 q0))) + ((j10_2_0 (j7_2_1 (j1_0 q0) (j7_2_1 (j1_0 q0) (0 : Int64) (v2 q2 (j1_0 q0))) (v2 q4 (j1_0 q0)))).toInt64))) ((j7_2_2 (j1_0 q1) (j7_2_2 (j1_0 q1) (0 : Int64) (0 : Int64) (v2 q3 (j1_0 q1))) (j7_2_3 (j1_0 q1) (0 : Int64) (v2 q3 (j1_0 q1))) (v2 q5 (j1_0 q1))) + ((j10_2_1 (j7_2_3 (j1_0 q1) (j7_2_3 (j1_0 q1) (0 : Int64) (v2 q3 (j1_0 q1))) (v2 q5 (j1_0 q1)))).toInt64)))), .second, .val (.long (j11_0 (v12 (v2 q2 (j1_0 q0)) (v2 q4 (j1_0 q0)) (j1_0 q0)) (v12 (v2 q3 (j1_0 q1)) (v2 q5 (j1_0 q1)) (j1_0 q1)))), .second, .val (.long (j11_0 (j11_0 (0 : Int64) ((j13_2_0 (j7_2_0 (j1_0 q0) (j7_2_0 (j1_0 q0) (0 : Int64) (0 : Int64) (v2 q2 (j1_0 q0))) (j7_2_1 (j1_0 q0) (0 : Int64) (v2 q2 (j1_0 q0))) (v2 q4 (j1_0 q0))) (j7_2_1 (j1_0 q0) (j7_2_1 (j1_0 q0) (0 : Int64) (v2 q2 (j1_0 q0))) (v2 q4 (j1_0 q0))) (v2 q2 (j1_0 q0))) + ((j10_2_0 (j13_2_1 (j1_0 q0) (j7_2_1 (j1_0 q0) (j7_2_1 (j1_0 q0) (0 : Int64) (v2 q2 (j1_0 q0))) (v2 q4 (j1_0 q0))) (v2 q2 (j1_0 q0)))).toInt64))) ((j13_2_2 (j7_2_2 (j1_0 q1) (j7_2_2 (j1_0 q1) (0 : Int64) (0 : Int64) (v2 q3 (j1_0 q1))) (j7_2_3 (j1_0 q1) (0 : Int64) (v2 q3 (j1_0 q1))) (v2 q5 (j1_0 q1))) (j7_2_3 (j1_0 q1) (j7_2_3 (j1_0 q1) (0 : Int64) (v2 q3 (j1_0 q1))) (v2 q5 (j1_0 q1))) (v2 q3 (j1_0 q1))) + ((j10_2_1 (j13_2_3 (j1_0 q1) (j7_2_3 (j1_0 q1) (j7_2_3 (j1_0 q1) (0 : Int64) (v2 q3 (j1_0 q1))) (v2 q5 (j1_0 q1))) (v2 q3 (j1_0 q1)))).toInt64)))), .second, .unset, .unset] [])) _
      refine XS.lconst X1001.here hx rfl (hb hby at_169) ?_
      show Steps p.tables e below (T1001.setTop (mkF m 170 #[.val (.long q0), .second, .val (.long q1), .second, .val (.long q2), .second, .val (.long q3), .second, .val (.long q4), .second, .val (.long q5), .second, .val (.long (j1_0 q0)), .second, .val (.long (j1_0 q1)), .second, .val (.long (v2 q2 (j1_0 q0))), .second, .val (.long (v2 q3 (j1_0 q1))), .second, .val (.long (v2 q4 (j1_0 q0))), .second, .val (.long (v2 q5 (j1_0 q1))), .second, .val (.ref b832), .val (.ref b848), .val (.ref b871), .val (.ref b901), .val (.long (j11_0 (j11_0 (0 : Int64) ((j7_2_0 (j1_0 q0) (j7_2_0 (j1_0 q0) (0 : Int64) (0 : Int64) (v2 q2 (j1_0 q0))) (j7_2_1 (j1_0 q0) (0 : Int64) (v2 q2 (j1_0 q0))) (v2 q4 (j1_0 q0))) + ((j10_2_0 (j7_2_1 (j1_0 q0) (j7_2_1 (j1_0 q0) (0 : Int64) (v2 q2 (j1_0 q0))) (v2 q4 (j1_0 q0)))).toInt64))) ((j7_2_2 (j1_0 q1) (j7_2_2 (j1_0 q1) (0 : Int64) (0 : Int64) (v2 q3 (j1_0 q1))) (j7_2_3 (j1_0 q1) (0 : Int64) (v2 q3 (j1_0 q1))) (v2 q5 (j1_0 q1))) + ((j10_2_1 (j7_2_3 (j1_0 q1) (j7_2_3 (j1_0 q1) (0 : Int64) (v2 q3 (j1_0 q1))) (v2 q5 (j1_0 q1)))).toInt64)))), .second, .val (.long (j11_0 (v12 (v2 q2 (j1_0 q0)) (v2 q4 (j1_0 q0)) (j1_0 q0)) (v12 (v2 q3 (j1_0 q1)) (v2 q5 (j1_0 q1)) (j1_0 q1)))), .second, .val (.long (j11_0 (j11_0 (0 : Int64) ((j13_2_0 (j7_2_0 (j1_0 q0) (j7_2_0 (j1_0 q0) (0 : Int64) (0 : Int64) (v2 q2 (j1_0 q0))) (j7_2_1 (j1_0 q0) (0 : Int64) (v2 q2 (j1_0 q0))) (v2 q4 (j1_0 q0))) (j7_2_1 (j1_0 q0) (j7_2_1 (j1_0 q0) (0 : Int64) (v2 q2 (j1_0 q0))) (v2 q4 (j1_0 q0))) (v2 q2 (j1_0 q0))) + ((j10_2_0 (j13_2_1 (j1_0 q0) (j7_2_1 (j1_0 q0) (j7_2_1 (j1_0 q0) (0 : Int64) (v2 q2 (j1_0 q0))) (v2 q4 (j1_0 q0))) (v2 q2 (j1_0 q0)))).toInt64))) ((j13_2_2 (j7_2_2 (j1_0 q1) (j7_2_2 (j1_0 q1) (0 : Int64) (0 : Int64) (v2 q3 (j1_0 q1))) (j7_2_3 (j1_0 q1) (0 : Int64) (v2 q3 (j1_0 q1))) (v2 q5 (j1_0 q1))) (j7_2_3 (j1_0 q1) (j7_2_3 (j1_0 q1) (0 : Int64) (v2 q3 (j1_0 q1))) (v2 q5 (j1_0 q1))) (v2 q3 (j1_0 q1))) + ((j10_2_1 (j13_2_3 (j1_0 q1) (j7_2_3 (j1_0 q1) (j7_2_3 (j1_0 q1) (0 : Int64) (v2 q3 (j1_0 q1))) (v2 q5 (j1_0 q1))) (v2 q3 (j1_0 q1)))).toInt64)))), .second, .unset, .unset] [(.long (1 : Int64))])) _
      refine XS.goto X1001.here hx rfl (pc0 := 170) (pc' := 174) rfl (hb hby at_170) (by decide) (by decide) ?_
      have hj1005 : (j0_0 q0 q4) = (1 : Int64) := by unfold j0_0; first | (rw [if_pos hc1004]) | (simp only [if_pos hc1004])
      rw [hj1005] at k
      exact k
    · skip
      show Steps p.tables e below (T1001.setTop (mkF m 166 #[.val (.long q0), .second, .val (.long q1), .second, .val (.long q2), .second, .val (.long q3), .second, .val (.long q4), .second, .val (.long q5), .second, .val (.long (j1_0 q0)), .second, .val (.long (j1_0 q1)), .second, .val (.long (v2 q2 (j1_0 q0))), .second, .val (.long (v2 q3 (j1_0 q1))), .second, .val (.long (v2 q4 (j1_0 q0))), .second, .val (.long (v2 q5 (j1_0 q1))), .second, .val (.ref b832), .val (.ref b848), .val (.ref b871), .val (.ref b901), .val (.long (j11_0 (j11_0 (0 : Int64) ((j7_2_0 (j1_0 q0) (j7_2_0 (j1_0 q0) (0 : Int64) (0 : Int64) (v2 q2 (j1_0 q0))) (j7_2_1 (j1_0 q0) (0 : Int64) (v2 q2 (j1_0 q0))) (v2 q4 (j1_0 q0))) + ((j10_2_0 (j7_2_1 (j1_0 q0) (j7_2_1 (j1_0 q0) (0 : Int64) (v2 q2 (j1_0 q0))) (v2 q4 (j1_0 q0)))).toInt64))) ((j7_2_2 (j1_0 q1) (j7_2_2 (j1_0 q1) (0 : Int64) (0 : Int64) (v2 q3 (j1_0 q1))) (j7_2_3 (j1_0 q1) (0 : Int64) (v2 q3 (j1_0 q1))) (v2 q5 (j1_0 q1))) + ((j10_2_1 (j7_2_3 (j1_0 q1) (j7_2_3 (j1_0 q1) (0 : Int64) (v2 q3 (j1_0 q1))) (v2 q5 (j1_0 q1)))).toInt64)))), .second, .val (.long (j11_0 (v12 (v2 q2 (j1_0 q0)) (v2 q4 (j1_0 q0)) (j1_0 q0)) (v12 (v2 q3 (j1_0 q1)) (v2 q5 (j1_0 q1)) (j1_0 q1)))), .second, .val (.long (j11_0 (j11_0 (0 : Int64) ((j13_2_0 (j7_2_0 (j1_0 q0) (j7_2_0 (j1_0 q0) (0 : Int64) (0 : Int64) (v2 q2 (j1_0 q0))) (j7_2_1 (j1_0 q0) (0 : Int64) (v2 q2 (j1_0 q0))) (v2 q4 (j1_0 q0))) (j7_2_1 (j1_0 q0) (j7_2_1 (j1_0 q0) (0 : Int64) (v2 q2 (j1_0 q0))) (v2 q4 (j1_0 q0))) (v2 q2 (j1_0 q0))) + ((j10_2_0 (j13_2_1 (j1_0 q0) (j7_2_1 (j1_0 q0) (j7_2_1 (j1_0 q0) (0 : Int64) (v2 q2 (j1_0 q0))) (v2 q4 (j1_0 q0))) (v2 q2 (j1_0 q0)))).toInt64))) ((j13_2_2 (j7_2_2 (j1_0 q1) (j7_2_2 (j1_0 q1) (0 : Int64) (0 : Int64) (v2 q3 (j1_0 q1))) (j7_2_3 (j1_0 q1) (0 : Int64) (v2 q3 (j1_0 q1))) (v2 q5 (j1_0 q1))) (j7_2_3 (j1_0 q1) (j7_2_3 (j1_0 q1) (0 : Int64) (v2 q3 (j1_0 q1))) (v2 q5 (j1_0 q1))) (v2 q3 (j1_0 q1))) + ((j10_2_1 (j13_2_3 (j1_0 q1) (j7_2_3 (j1_0 q1) (j7_2_3 (j1_0 q1) (0 : Int64) (v2 q3 (j1_0 q1))) (v2 q5 (j1_0 q1))) (v2 q3 (j1_0 q1)))).toInt64)))), .second, .unset, .unset] [(.int (lcmpW (v2 q4 (j1_0 q0)) (0 : Int64)))])) _
      refine XS.ifYes X1001.here hx rfl (pc0 := 166) (pc' := 173) rfl (hb hby at_166) rfl ((if0 _ _).trans (flt (mt (own_gt (v2 q4 (j1_0 q0)) (0 : Int64)).mp hc1004)).2.2.2) (by decide) (by decide) ?_
      show Steps p.tables e below (T1001.setTop (mkF m 173 #[.val (.long q0), .second, .val (.long q1), .second, .val (.long q2), .second, .val (.long q3), .second, .val (.long q4), .second, .val (.long q5), .second, .val (.long (j1_0 q0)), .second, .val (.long (j1_0 q1)), .second, .val (.long (v2 q2 (j1_0 q0))), .second, .val (.long (v2 q3 (j1_0 q1))), .second, .val (.long (v2 q4 (j1_0 q0))), .second, .val (.long (v2 q5 (j1_0 q1))), .second, .val (.ref b832), .val (.ref b848), .val (.ref b871), .val (.ref b901), .val (.long (j11_0 (j11_0 (0 : Int64) ((j7_2_0 (j1_0 q0) (j7_2_0 (j1_0 q0) (0 : Int64) (0 : Int64) (v2 q2 (j1_0 q0))) (j7_2_1 (j1_0 q0) (0 : Int64) (v2 q2 (j1_0 q0))) (v2 q4 (j1_0 q0))) + ((j10_2_0 (j7_2_1 (j1_0 q0) (j7_2_1 (j1_0 q0) (0 : Int64) (v2 q2 (j1_0 q0))) (v2 q4 (j1_0 q0)))).toInt64))) ((j7_2_2 (j1_0 q1) (j7_2_2 (j1_0 q1) (0 : Int64) (0 : Int64) (v2 q3 (j1_0 q1))) (j7_2_3 (j1_0 q1) (0 : Int64) (v2 q3 (j1_0 q1))) (v2 q5 (j1_0 q1))) + ((j10_2_1 (j7_2_3 (j1_0 q1) (j7_2_3 (j1_0 q1) (0 : Int64) (v2 q3 (j1_0 q1))) (v2 q5 (j1_0 q1)))).toInt64)))), .second, .val (.long (j11_0 (v12 (v2 q2 (j1_0 q0)) (v2 q4 (j1_0 q0)) (j1_0 q0)) (v12 (v2 q3 (j1_0 q1)) (v2 q5 (j1_0 q1)) (j1_0 q1)))), .second, .val (.long (j11_0 (j11_0 (0 : Int64) ((j13_2_0 (j7_2_0 (j1_0 q0) (j7_2_0 (j1_0 q0) (0 : Int64) (0 : Int64) (v2 q2 (j1_0 q0))) (j7_2_1 (j1_0 q0) (0 : Int64) (v2 q2 (j1_0 q0))) (v2 q4 (j1_0 q0))) (j7_2_1 (j1_0 q0) (j7_2_1 (j1_0 q0) (0 : Int64) (v2 q2 (j1_0 q0))) (v2 q4 (j1_0 q0))) (v2 q2 (j1_0 q0))) + ((j10_2_0 (j13_2_1 (j1_0 q0) (j7_2_1 (j1_0 q0) (j7_2_1 (j1_0 q0) (0 : Int64) (v2 q2 (j1_0 q0))) (v2 q4 (j1_0 q0))) (v2 q2 (j1_0 q0)))).toInt64))) ((j13_2_2 (j7_2_2 (j1_0 q1) (j7_2_2 (j1_0 q1) (0 : Int64) (0 : Int64) (v2 q3 (j1_0 q1))) (j7_2_3 (j1_0 q1) (0 : Int64) (v2 q3 (j1_0 q1))) (v2 q5 (j1_0 q1))) (j7_2_3 (j1_0 q1) (j7_2_3 (j1_0 q1) (0 : Int64) (v2 q3 (j1_0 q1))) (v2 q5 (j1_0 q1))) (v2 q3 (j1_0 q1))) + ((j10_2_1 (j13_2_3 (j1_0 q1) (j7_2_3 (j1_0 q1) (j7_2_3 (j1_0 q1) (0 : Int64) (v2 q3 (j1_0 q1))) (v2 q5 (j1_0 q1))) (v2 q3 (j1_0 q1)))).toInt64)))), .second, .unset, .unset] [])) _
      refine XS.lconst X1001.here hx rfl (hb hby at_173) ?_
      have hj1006 : (j0_0 q0 q4) = (0 : Int64) := by unfold j0_0; first | (rw [if_neg hc1004]) | (simp only [if_neg hc1004])
      rw [hj1006] at k
      exact k)
  have pre1007 := fun (t : State) (k : Steps p.tables e below (T1001.setTop (mkF m 178 #[.val (.long q0), .second, .val (.long q1), .second, .val (.long q2), .second, .val (.long q3), .second, .val (.long q4), .second, .val (.long q5), .second, .val (.long (j1_0 q0)), .second, .val (.long (j1_0 q1)), .second, .val (.long (v2 q2 (j1_0 q0))), .second, .val (.long (v2 q3 (j1_0 q1))), .second, .val (.long (v2 q4 (j1_0 q0))), .second, .val (.long (v2 q5 (j1_0 q1))), .second, .val (.ref b832), .val (.ref b848), .val (.ref b871), .val (.ref b901), .val (.long (j11_0 (j11_0 (0 : Int64) ((j7_2_0 (j1_0 q0) (j7_2_0 (j1_0 q0) (0 : Int64) (0 : Int64) (v2 q2 (j1_0 q0))) (j7_2_1 (j1_0 q0) (0 : Int64) (v2 q2 (j1_0 q0))) (v2 q4 (j1_0 q0))) + ((j10_2_0 (j7_2_1 (j1_0 q0) (j7_2_1 (j1_0 q0) (0 : Int64) (v2 q2 (j1_0 q0))) (v2 q4 (j1_0 q0)))).toInt64))) ((j7_2_2 (j1_0 q1) (j7_2_2 (j1_0 q1) (0 : Int64) (0 : Int64) (v2 q3 (j1_0 q1))) (j7_2_3 (j1_0 q1) (0 : Int64) (v2 q3 (j1_0 q1))) (v2 q5 (j1_0 q1))) + ((j10_2_1 (j7_2_3 (j1_0 q1) (j7_2_3 (j1_0 q1) (0 : Int64) (v2 q3 (j1_0 q1))) (v2 q5 (j1_0 q1)))).toInt64)))), .second, .val (.long (j11_0 (v12 (v2 q2 (j1_0 q0)) (v2 q4 (j1_0 q0)) (j1_0 q0)) (v12 (v2 q3 (j1_0 q1)) (v2 q5 (j1_0 q1)) (j1_0 q1)))), .second, .val (.long (j11_0 (j11_0 (0 : Int64) ((j13_2_0 (j7_2_0 (j1_0 q0) (j7_2_0 (j1_0 q0) (0 : Int64) (0 : Int64) (v2 q2 (j1_0 q0))) (j7_2_1 (j1_0 q0) (0 : Int64) (v2 q2 (j1_0 q0))) (v2 q4 (j1_0 q0))) (j7_2_1 (j1_0 q0) (j7_2_1 (j1_0 q0) (0 : Int64) (v2 q2 (j1_0 q0))) (v2 q4 (j1_0 q0))) (v2 q2 (j1_0 q0))) + ((j10_2_0 (j13_2_1 (j1_0 q0) (j7_2_1 (j1_0 q0) (j7_2_1 (j1_0 q0) (0 : Int64) (v2 q2 (j1_0 q0))) (v2 q4 (j1_0 q0))) (v2 q2 (j1_0 q0)))).toInt64))) ((j13_2_2 (j7_2_2 (j1_0 q1) (j7_2_2 (j1_0 q1) (0 : Int64) (0 : Int64) (v2 q3 (j1_0 q1))) (j7_2_3 (j1_0 q1) (0 : Int64) (v2 q3 (j1_0 q1))) (v2 q5 (j1_0 q1))) (j7_2_3 (j1_0 q1) (j7_2_3 (j1_0 q1) (0 : Int64) (v2 q3 (j1_0 q1))) (v2 q5 (j1_0 q1))) (v2 q3 (j1_0 q1))) + ((j10_2_1 (j13_2_3 (j1_0 q1) (j7_2_3 (j1_0 q1) (j7_2_3 (j1_0 q1) (0 : Int64) (v2 q3 (j1_0 q1))) (v2 q5 (j1_0 q1))) (v2 q3 (j1_0 q1)))).toInt64)))), .second, .unset, .unset] [(.int (lcmpW (v2 q5 (j1_0 q1)) (0 : Int64))), (.long (j0_0 q0 q4))])) t) => pre1003 t (by
    show Steps p.tables e below (T1001.setTop (mkF m 174 #[.val (.long q0), .second, .val (.long q1), .second, .val (.long q2), .second, .val (.long q3), .second, .val (.long q4), .second, .val (.long q5), .second, .val (.long (j1_0 q0)), .second, .val (.long (j1_0 q1)), .second, .val (.long (v2 q2 (j1_0 q0))), .second, .val (.long (v2 q3 (j1_0 q1))), .second, .val (.long (v2 q4 (j1_0 q0))), .second, .val (.long (v2 q5 (j1_0 q1))), .second, .val (.ref b832), .val (.ref b848), .val (.ref b871), .val (.ref b901), .val (.long (j11_0 (j11_0 (0 : Int64) ((j7_2_0 (j1_0 q0) (j7_2_0 (j1_0 q0) (0 : Int64) (0 : Int64) (v2 q2 (j1_0 q0))) (j7_2_1 (j1_0 q0) (0 : Int64) (v2 q2 (j1_0 q0))) (v2 q4 (j1_0 q0))) + ((j10_2_0 (j7_2_1 (j1_0 q0) (j7_2_1 (j1_0 q0) (0 : Int64) (v2 q2 (j1_0 q0))) (v2 q4 (j1_0 q0)))).toInt64))) ((j7_2_2 (j1_0 q1) (j7_2_2 (j1_0 q1) (0 : Int64) (0 : Int64) (v2 q3 (j1_0 q1))) (j7_2_3 (j1_0 q1) (0 : Int64) (v2 q3 (j1_0 q1))) (v2 q5 (j1_0 q1))) + ((j10_2_1 (j7_2_3 (j1_0 q1) (j7_2_3 (j1_0 q1) (0 : Int64) (v2 q3 (j1_0 q1))) (v2 q5 (j1_0 q1)))).toInt64)))), .second, .val (.long (j11_0 (v12 (v2 q2 (j1_0 q0)) (v2 q4 (j1_0 q0)) (j1_0 q0)) (v12 (v2 q3 (j1_0 q1)) (v2 q5 (j1_0 q1)) (j1_0 q1)))), .second, .val (.long (j11_0 (j11_0 (0 : Int64) ((j13_2_0 (j7_2_0 (j1_0 q0) (j7_2_0 (j1_0 q0) (0 : Int64) (0 : Int64) (v2 q2 (j1_0 q0))) (j7_2_1 (j1_0 q0) (0 : Int64) (v2 q2 (j1_0 q0))) (v2 q4 (j1_0 q0))) (j7_2_1 (j1_0 q0) (j7_2_1 (j1_0 q0) (0 : Int64) (v2 q2 (j1_0 q0))) (v2 q4 (j1_0 q0))) (v2 q2 (j1_0 q0))) + ((j10_2_0 (j13_2_1 (j1_0 q0) (j7_2_1 (j1_0 q0) (j7_2_1 (j1_0 q0) (0 : Int64) (v2 q2 (j1_0 q0))) (v2 q4 (j1_0 q0))) (v2 q2 (j1_0 q0)))).toInt64))) ((j13_2_2 (j7_2_2 (j1_0 q1) (j7_2_2 (j1_0 q1) (0 : Int64) (0 : Int64) (v2 q3 (j1_0 q1))) (j7_2_3 (j1_0 q1) (0 : Int64) (v2 q3 (j1_0 q1))) (v2 q5 (j1_0 q1))) (j7_2_3 (j1_0 q1) (j7_2_3 (j1_0 q1) (0 : Int64) (v2 q3 (j1_0 q1))) (v2 q5 (j1_0 q1))) (v2 q3 (j1_0 q1))) + ((j10_2_1 (j13_2_3 (j1_0 q1) (j7_2_3 (j1_0 q1) (j7_2_3 (j1_0 q1) (0 : Int64) (v2 q3 (j1_0 q1))) (v2 q5 (j1_0 q1))) (v2 q3 (j1_0 q1)))).toInt64)))), .second, .unset, .unset] [(.long (j0_0 q0 q4))])) _
    refine XS.lload X1001.here hx rfl (hb hby at_174) rfl ?_
    show Steps p.tables e below (T1001.setTop (mkF m 176 #[.val (.long q0), .second, .val (.long q1), .second, .val (.long q2), .second, .val (.long q3), .second, .val (.long q4), .second, .val (.long q5), .second, .val (.long (j1_0 q0)), .second, .val (.long (j1_0 q1)), .second, .val (.long (v2 q2 (j1_0 q0))), .second, .val (.long (v2 q3 (j1_0 q1))), .second, .val (.long (v2 q4 (j1_0 q0))), .second, .val (.long (v2 q5 (j1_0 q1))), .second, .val (.ref b832), .val (.ref b848), .val (.ref b871), .val (.ref b901), .val (.long (j11_0 (j11_0 (0 : Int64) ((j7_2_0 (j1_0 q0) (j7_2_0 (j1_0 q0) (0 : Int64) (0 : Int64) (v2 q2 (j1_0 q0))) (j7_2_1 (j1_0 q0) (0 : Int64) (v2 q2 (j1_0 q0))) (v2 q4 (j1_0 q0))) + ((j10_2_0 (j7_2_1 (j1_0 q0) (j7_2_1 (j1_0 q0) (0 : Int64) (v2 q2 (j1_0 q0))) (v2 q4 (j1_0 q0)))).toInt64))) ((j7_2_2 (j1_0 q1) (j7_2_2 (j1_0 q1) (0 : Int64) (0 : Int64) (v2 q3 (j1_0 q1))) (j7_2_3 (j1_0 q1) (0 : Int64) (v2 q3 (j1_0 q1))) (v2 q5 (j1_0 q1))) + ((j10_2_1 (j7_2_3 (j1_0 q1) (j7_2_3 (j1_0 q1) (0 : Int64) (v2 q3 (j1_0 q1))) (v2 q5 (j1_0 q1)))).toInt64)))), .second, .val (.long (j11_0 (v12 (v2 q2 (j1_0 q0)) (v2 q4 (j1_0 q0)) (j1_0 q0)) (v12 (v2 q3 (j1_0 q1)) (v2 q5 (j1_0 q1)) (j1_0 q1)))), .second, .val (.long (j11_0 (j11_0 (0 : Int64) ((j13_2_0 (j7_2_0 (j1_0 q0) (j7_2_0 (j1_0 q0) (0 : Int64) (0 : Int64) (v2 q2 (j1_0 q0))) (j7_2_1 (j1_0 q0) (0 : Int64) (v2 q2 (j1_0 q0))) (v2 q4 (j1_0 q0))) (j7_2_1 (j1_0 q0) (j7_2_1 (j1_0 q0) (0 : Int64) (v2 q2 (j1_0 q0))) (v2 q4 (j1_0 q0))) (v2 q2 (j1_0 q0))) + ((j10_2_0 (j13_2_1 (j1_0 q0) (j7_2_1 (j1_0 q0) (j7_2_1 (j1_0 q0) (0 : Int64) (v2 q2 (j1_0 q0))) (v2 q4 (j1_0 q0))) (v2 q2 (j1_0 q0)))).toInt64))) ((j13_2_2 (j7_2_2 (j1_0 q1) (j7_2_2 (j1_0 q1) (0 : Int64) (0 : Int64) (v2 q3 (j1_0 q1))) (j7_2_3 (j1_0 q1) (0 : Int64) (v2 q3 (j1_0 q1))) (v2 q5 (j1_0 q1))) (j7_2_3 (j1_0 q1) (j7_2_3 (j1_0 q1) (0 : Int64) (v2 q3 (j1_0 q1))) (v2 q5 (j1_0 q1))) (v2 q3 (j1_0 q1))) + ((j10_2_1 (j13_2_3 (j1_0 q1) (j7_2_3 (j1_0 q1) (j7_2_3 (j1_0 q1) (0 : Int64) (v2 q3 (j1_0 q1))) (v2 q5 (j1_0 q1))) (v2 q3 (j1_0 q1)))).toInt64)))), .second, .unset, .unset] [(.long (v2 q5 (j1_0 q1))), (.long (j0_0 q0 q4))])) _
    refine XS.lconst X1001.here hx rfl (hb hby at_176) ?_
    show Steps p.tables e below (T1001.setTop (mkF m 177 #[.val (.long q0), .second, .val (.long q1), .second, .val (.long q2), .second, .val (.long q3), .second, .val (.long q4), .second, .val (.long q5), .second, .val (.long (j1_0 q0)), .second, .val (.long (j1_0 q1)), .second, .val (.long (v2 q2 (j1_0 q0))), .second, .val (.long (v2 q3 (j1_0 q1))), .second, .val (.long (v2 q4 (j1_0 q0))), .second, .val (.long (v2 q5 (j1_0 q1))), .second, .val (.ref b832), .val (.ref b848), .val (.ref b871), .val (.ref b901), .val (.long (j11_0 (j11_0 (0 : Int64) ((j7_2_0 (j1_0 q0) (j7_2_0 (j1_0 q0) (0 : Int64) (0 : Int64) (v2 q2 (j1_0 q0))) (j7_2_1 (j1_0 q0) (0 : Int64) (v2 q2 (j1_0 q0))) (v2 q4 (j1_0 q0))) + ((j10_2_0 (j7_2_1 (j1_0 q0) (j7_2_1 (j1_0 q0) (0 : Int64) (v2 q2 (j1_0 q0))) (v2 q4 (j1_0 q0)))).toInt64))) ((j7_2_2 (j1_0 q1) (j7_2_2 (j1_0 q1) (0 : Int64) (0 : Int64) (v2 q3 (j1_0 q1))) (j7_2_3 (j1_0 q1) (0 : Int64) (v2 q3 (j1_0 q1))) (v2 q5 (j1_0 q1))) + ((j10_2_1 (j7_2_3 (j1_0 q1) (j7_2_3 (j1_0 q1) (0 : Int64) (v2 q3 (j1_0 q1))) (v2 q5 (j1_0 q1)))).toInt64)))), .second, .val (.long (j11_0 (v12 (v2 q2 (j1_0 q0)) (v2 q4 (j1_0 q0)) (j1_0 q0)) (v12 (v2 q3 (j1_0 q1)) (v2 q5 (j1_0 q1)) (j1_0 q1)))), .second, .val (.long (j11_0 (j11_0 (0 : Int64) ((j13_2_0 (j7_2_0 (j1_0 q0) (j7_2_0 (j1_0 q0) (0 : Int64) (0 : Int64) (v2 q2 (j1_0 q0))) (j7_2_1 (j1_0 q0) (0 : Int64) (v2 q2 (j1_0 q0))) (v2 q4 (j1_0 q0))) (j7_2_1 (j1_0 q0) (j7_2_1 (j1_0 q0) (0 : Int64) (v2 q2 (j1_0 q0))) (v2 q4 (j1_0 q0))) (v2 q2 (j1_0 q0))) + ((j10_2_0 (j13_2_1 (j1_0 q0) (j7_2_1 (j1_0 q0) (j7_2_1 (j1_0 q0) (0 : Int64) (v2 q2 (j1_0 q0))) (v2 q4 (j1_0 q0))) (v2 q2 (j1_0 q0)))).toInt64))) ((j13_2_2 (j7_2_2 (j1_0 q1) (j7_2_2 (j1_0 q1) (0 : Int64) (0 : Int64) (v2 q3 (j1_0 q1))) (j7_2_3 (j1_0 q1) (0 : Int64) (v2 q3 (j1_0 q1))) (v2 q5 (j1_0 q1))) (j7_2_3 (j1_0 q1) (j7_2_3 (j1_0 q1) (0 : Int64) (v2 q3 (j1_0 q1))) (v2 q5 (j1_0 q1))) (v2 q3 (j1_0 q1))) + ((j10_2_1 (j13_2_3 (j1_0 q1) (j7_2_3 (j1_0 q1) (j7_2_3 (j1_0 q1) (0 : Int64) (v2 q3 (j1_0 q1))) (v2 q5 (j1_0 q1))) (v2 q3 (j1_0 q1)))).toInt64)))), .second, .unset, .unset] [(.long (0 : Int64)), (.long (v2 q5 (j1_0 q1))), (.long (j0_0 q0 q4))])) _
    refine XS.lcmp X1001.here hx rfl (hb hby at_177) rfl ?_
    exact k)
  have pre1008 := fun (t : State) (k : Steps p.tables e below (T1001.setTop (mkF m 186 #[.val (.long q0), .second, .val (.long q1), .second, .val (.long q2), .second, .val (.long q3), .second, .val (.long q4), .second, .val (.long q5), .second, .val (.long (j1_0 q0)), .second, .val (.long (j1_0 q1)), .second, .val (.long (v2 q2 (j1_0 q0))), .second, .val (.long (v2 q3 (j1_0 q1))), .second, .val (.long (v2 q4 (j1_0 q0))), .second, .val (.long (v2 q5 (j1_0 q1))), .second, .val (.ref b832), .val (.ref b848), .val (.ref b871), .val (.ref b901), .val (.long (j11_0 (j11_0 (0 : Int64) ((j7_2_0 (j1_0 q0) (j7_2_0 (j1_0 q0) (0 : Int64) (0 : Int64) (v2 q2 (j1_0 q0))) (j7_2_1 (j1_0 q0) (0 : Int64) (v2 q2 (j1_0 q0))) (v2 q4 (j1_0 q0))) + ((j10_2_0 (j7_2_1 (j1_0 q0) (j7_2_1 (j1_0 q0) (0 : Int64) (v2 q2 (j1_0 q0))) (v2 q4 (j1_0 q0)))).toInt64))) ((j7_2_2 (j1_0 q1) (j7_2_2 (j1_0 q1) (0 : Int64) (0 : Int64) (v2 q3 (j1_0 q1))) (j7_2_3 (j1_0 q1) (0 : Int64) (v2 q3 (j1_0 q1))) (v2 q5 (j1_0 q1))) + ((j10_2_1 (j7_2_3 (j1_0 q1) (j7_2_3 (j1_0 q1) (0 : Int64) (v2 q3 (j1_0 q1))) (v2 q5 (j1_0 q1)))).toInt64)))), .second, .val (.long (j11_0 (v12 (v2 q2 (j1_0 q0)) (v2 q4 (j1_0 q0)) (j1_0 q0)) (v12 (v2 q3 (j1_0 q1)) (v2 q5 (j1_0 q1)) (j1_0 q1)))), .second, .val (.long (j11_0 (j11_0 (0 : Int64) ((j13_2_0 (j7_2_0 (j1_0 q0) (j7_2_0 (j1_0 q0) (0 : Int64) (0 : Int64) (v2 q2 (j1_0 q0))) (j7_2_1 (j1_0 q0) (0 : Int64) (v2 q2 (j1_0 q0))) (v2 q4 (j1_0 q0))) (j7_2_1 (j1_0 q0) (j7_2_1 (j1_0 q0) (0 : Int64) (v2 q2 (j1_0 q0))) (v2 q4 (j1_0 q0))) (v2 q2 (j1_0 q0))) + ((j10_2_0 (j13_2_1 (j1_0 q0) (j7_2_1 (j1_0 q0) (j7_2_1 (j1_0 q0) (0 : Int64) (v2 q2 (j1_0 q0))) (v2 q4 (j1_0 q0))) (v2 q2 (j1_0 q0)))).toInt64))) ((j13_2_2 (j7_2_2 (j1_0 q1) (j7_2_2 (j1_0 q1) (0 : Int64) (0 : Int64) (v2 q3 (j1_0 q1))) (j7_2_3 (j1_0 q1) (0 : Int64) (v2 q3 (j1_0 q1))) (v2 q5 (j1_0 q1))) (j7_2_3 (j1_0 q1) (j7_2_3 (j1_0 q1) (0 : Int64) (v2 q3 (j1_0 q1))) (v2 q5 (j1_0 q1))) (v2 q3 (j1_0 q1))) + ((j10_2_1 (j13_2_3 (j1_0 q1) (j7_2_3 (j1_0 q1) (j7_2_3 (j1_0 q1) (0 : Int64) (v2 q3 (j1_0 q1))) (v2 q5 (j1_0 q1))) (v2 q3 (j1_0 q1)))).toInt64)))), .second, .unset, .unset] [(.long (j0_1 q1 q5)), (.long (j0_0 q0 q4))])) t) => pre1007 t (by
    by_cases hc1009 : (0 : Int64) < (v2 q5 (j1_0 q1))
    · skip
      show Steps p.tables e below (T1001.setTop (mkF m 178 #[.val (.long q0), .second, .val (.long q1), .second, .val (.long q2), .second, .val (.long q3), .second, .val (.long q4), .second, .val (.long q5), .second, .val (.long (j1_0 q0)), .second, .val (.long (j1_0 q1)), .second, .val (.long (v2 q2 (j1_0 q0))), .second, .val (.long (v2 q3 (j1_0 q1))), .second, .val (.long (v2 q4 (j1_0 q0))), .second, .val (.long (v2 q5 (j1_0 q1))), .second, .val (.ref b832), .val (.ref b848), .val (.ref b871), .val (.ref b901), .val (.long (j11_0 (j11_0 (0 : Int64) ((j7_2_0 (j1_0 q0) (j7_2_0 (j1_0 q0) (0 : Int64) (0 : Int64) (v2 q2 (j1_0 q0))) (j7_2_1 (j1_0 q0) (0 : Int64) (v2 q2 (j1_0 q0))) (v2 q4 (j1_0 q0))) + ((j10_2_0 (j7_2_1 (j1_0 q0) (j7_2_1 (j1_0 q0) (0 : Int64) (v2 q2 (j1_0 q0))) (v2 q4 (j1_0 q0)))).toInt64))) ((j7_2_2 (j1_0 q1) (j7_2_2 (j1_0 q1) (0 : Int64) (0 : Int64) (v2 q3 (j1_0 q1))) (j7_2_3 (j1_0 q1) (0 : Int64) (v2 q3 (j1_0 q1))) (v2 q5 (j1_0 q1))) + ((j10_2_1 (j7_2_3 (j1_0 q1) (j7_2_3 (j1_0 q1) (0 : Int64) (v2 q3 (j1_0 q1))) (v2 q5 (j1_0 q1)))).toInt64)))), .second, .val (.long (j11_0 (v12 (v2 q2 (j1_0 q0)) (v2 q4 (j1_0 q0)) (j1_0 q0)) (v12 (v2 q3 (j1_0 q1)) (v2 q5 (j1_0 q1)) (j1_0 q1)))), .second, .val (.long (j11_0 (j11_0 (0 : Int64) ((j13_2_0 (j7_2_0 (j1_0 q0) (j7_2_0 (j1_0 q0) (0 : Int64) (0 : Int64) (v2 q2 (j1_0 q0))) (j7_2_1 (j1_0 q0) (0 : Int64) (v2 q2 (j1_0 q0))) (v2 q4 (j1_0 q0))) (j7_2_1 (j1_0 q0) (j7_2_1 (j1_0 q0) (0 : Int64) (v2 q2 (j1_0 q0))) (v2 q4 (j1_0 q0))) (v2 q2 (j1_0 q0))) + ((j10_2_0 (j13_2_1 (j1_0 q0) (j7_2_1 (j1_0 q0) (j7_2_1 (j1_0 q0) (0 : Int64) (v2 q2 (j1_0 q0))) (v2 q4 (j1_0 q0))) (v2 q2 (j1_0 q0)))).toInt64))) ((j13_2_2 (j7_2_2 (j1_0 q1) (j7_2_2 (j1_0 q1) (0 : Int64) (0 : Int64) (v2 q3 (j1_0 q1))) (j7_2_3 (j1_0 q1) (0 : Int64) (v2 q3 (j1_0 q1))) (v2 q5 (j1_0 q1))) (j7_2_3 (j1_0 q1) (j7_2_3 (j1_0 q1) (0 : Int64) (v2 q3 (j1_0 q1))) (v2 q5 (j1_0 q1))) (v2 q3 (j1_0 q1))) + ((j10_2_1 (j13_2_3 (j1_0 q1) (j7_2_3 (j1_0 q1) (j7_2_3 (j1_0 q1) (0 : Int64) (v2 q3 (j1_0 q1))) (v2 q5 (j1_0 q1))) (v2 q3 (j1_0 q1)))).toInt64)))), .second, .unset, .unset] [(.int (lcmpW (v2 q5 (j1_0 q1)) (0 : Int64))), (.long (j0_0 q0 q4))])) _
      refine XS.ifNo X1001.here hx rfl (hb hby at_178) rfl ((if0 _ _).trans (tlt ((own_gt (v2 q5 (j1_0 q1)) (0 : Int64)).mpr hc1009)).2.2.2) ?_
      show Steps p.tables e below (T1001.setTop (mkF m 181 #[.val (.long q0), .second, .val (.long q1), .second, .val (.long q2), .second, .val (.long q3), .second, .val (.long q4), .second, .val (.long q5), .second, .val (.long (j1_0 q0)), .second, .val (.long (j1_0 q1)), .second, .val (.long (v2 q2 (j1_0 q0))), .second, .val (.long (v2 q3 (j1_0 q1))), .second, .val (.long (v2 q4 (j1_0 q0))), .second, .val (.long (v2 q5 (j1_0 q1))), .second, .val (.ref b832), .val (.ref b848), .val (.ref b871), .val (.ref b901), .val (.long (j11_0 (j11_0 (0 : Int64) ((j7_2_0 (j1_0 q0) (j7_2_0 (j1_0 q0) (0 : Int64) (0 : Int64) (v2 q2 (j1_0 q0))) (j7_2_1 (j1_0 q0) (0 : Int64) (v2 q2 (j1_0 q0))) (v2 q4 (j1_0 q0))) + ((j10_2_0 (j7_2_1 (j1_0 q0) (j7_2_1 (j1_0 q0) (0 : Int64) (v2 q2 (j1_0 q0))) (v2 q4 (j1_0 q0)))).toInt64))) ((j7_2_2 (j1_0 q1) (j7_2_2 (j1_0 q1) (0 : Int64) (0 : Int64) (v2 q3 (j1_0 q1))) (j7_2_3 (j1_0 q1) (0 : Int64) (v2 q3 (j1_0 q1))) (v2 q5 (j1_0 q1))) + ((j10_2_1 (j7_2_3 (j1_0 q1) (j7_2_3 (j1_0 q1) (0 : Int64) (v2 q3 (j1_0 q1))) (v2 q5 (j1_0 q1)))).toInt64)))), .second, .val (.long (j11_0 (v12 (v2 q2 (j1_0 q0)) (v2 q4 (j1_0 q0)) (j1_0 q0)) (v12 (v2 q3 (j1_0 q1)) (v2 q5 (j1_0 q1)) (j1_0 q1)))), .second, .val (.long (j11_0 (j11_0 (0 : Int64) ((j13_2_0 (j7_2_0 (j1_0 q0) (j7_2_0 (j1_0 q0) (0 : Int64) (0 : Int64) (v2 q2 (j1_0 q0))) (j7_2_1 (j1_0 q0) (0 : Int64) (v2 q2 (j1_0 q0))) (v2 q4 (j1_0 q0))) (j7_2_1 (j1_0 q0) (j7_2_1 (j1_0 q0) (0 : Int64) (v2 q2 (j1_0 q0))) (v2 q4 (j1_0 q0))) (v2 q2 (j1_0 q0))) + ((j10_2_0 (j13_2_1 (j1_0 q0) (j7_2_1 (j1_0 q0) (j7_2_1 (j1_0 q0) (0 : Int64) (v2 q2 (j1_0 q0))) (v2 q4 (j1_0 q0))) (v2 q2 (j1_0 q0)))).toInt64))) ((j13_2_2 (j7_2_2 (j1_0 q1) (j7_2_2 (j1_0 q1) (0 : Int64) (0 : Int64) (v2 q3 (j1_0 q1))) (j7_2_3 (j1_0 q1) (0 : Int64) (v2 q3 (j1_0 q1))) (v2 q5 (j1_0 q1))) (j7_2_3 (j1_0 q1) (j7_2_3 (j1_0 q1) (0 : Int64) (v2 q3 (j1_0 q1))) (v2 q5 (j1_0 q1))) (v2 q3 (j1_0 q1))) + ((j10_2_1 (j13_2_3 (j1_0 q1) (j7_2_3 (j1_0 q1) (j7_2_3 (j1_0 q1) (0 : Int64) (v2 q3 (j1_0 q1))) (v2 q5 (j1_0 q1))) (v2 q3 (j1_0 q1)))).toInt64)))), .second, .unset, .unset] [(.long (j0_0 q0 q4))])) _
      refine XS.lconst X1001.here hx rfl (hb hby at_181) ?_
      show Steps p.tables e below (T1001.setTop (mkF m 182 #[.val (.long q0), .second, .val (.long q1), .second, .val (.long q2), .second, .val (.long q3), .second, .val (.long q4), .second, .val (.long q5), .second, .val (.long (j1_0 q0)), .second, .val (.long (j1_0 q1)), .second, .val (.long (v2 q2 (j1_0 q0))), .second, .val (.long (v2 q3 (j1_0 q1))), .second, .val (.long (v2 q4 (j1_0 q0))), .second, .val (.long (v2 q5 (j1_0 q1))), .second, .val (.ref b832), .val (.ref b848), .val (.ref b871), .val (.ref b901), .val (.long (j11_0 (j11_0 (0 : Int64) ((j7_2_0 (j1_0 q0) (j7_2_0 (j1_0 q0) (0 : Int64) (0 : Int64) (v2 q2 (j1_0 q0))) (j7_2_1 (j1_0 q0) (0 : Int64) (v2 q2 (j1_0 q0))) (v2 q4 (j1_0 q0))) + ((j10_2_0 (j7_2_1 (j1_0 q0) (j7_2_1 (j1_0 q0) (0 : Int64) (v2 q2 (j1_0 q0))) (v2 q4 (j1_0 q0)))).toInt64))) ((j7_2_2 (j1_0 q1) (j7_2_2 (j1_0 q1) (0 : Int64) (0 : Int64) (v2 q3 (j1_0 q1))) (j7_2_3 (j1_0 q1) (0 : Int64) (v2 q3 (j1_0 q1))) (v2 q5 (j1_0 q1))) + ((j10_2_1 (j7_2_3 (j1_0 q1) (j7_2_3 (j1_0 q1) (0 : Int64) (v2 q3 (j1_0 q1))) (v2 q5 (j1_0 q1)))).toInt64)))), .second, .val (.long (j11_0 (v12 (v2 q2 (j1_0 q0)) (v2 q4 (j1_0 q0)) (j1_0 q0)) (v12 (v2 q3 (j1_0 q1)) (v2 q5 (j1_0 q1)) (j1_0 q1)))), .second, .val (.long (j11_0 (j11_0 (0 : Int64) ((j13_2_0 (j7_2_0 (j1_0 q0) (j7_2_0 (j1_0 q0) (0 : Int64) (0 : Int64) (v2 q2 (j1_0 q0))) (j7_2_1 (j1_0 q0) (0 : Int64) (v2 q2 (j1_0 q0))) (v2 q4 (j1_0 q0))) (j7_2_1 (j1_0 q0) (j7_2_1 (j1_0 q0) (0 : Int64) (v2 q2 (j1_0 q0))) (v2 q4 (j1_0 q0))) (v2 q2 (j1_0 q0))) + ((j10_2_0 (j13_2_1 (j1_0 q0) (j7_2_1 (j1_0 q0) (j7_2_1 (j1_0 q0) (0 : Int64) (v2 q2 (j1_0 q0))) (v2 q4 (j1_0 q0))) (v2 q2 (j1_0 q0)))).toInt64))) ((j13_2_2 (j7_2_2 (j1_0 q1) (j7_2_2 (j1_0 q1) (0 : Int64) (0 : Int64) (v2 q3 (j1_0 q1))) (j7_2_3 (j1_0 q1) (0 : Int64) (v2 q3 (j1_0 q1))) (v2 q5 (j1_0 q1))) (j7_2_3 (j1_0 q1) (j7_2_3 (j1_0 q1) (0 : Int64) (v2 q3 (j1_0 q1))) (v2 q5 (j1_0 q1))) (v2 q3 (j1_0 q1))) + ((j10_2_1 (j13_2_3 (j1_0 q1) (j7_2_3 (j1_0 q1) (j7_2_3 (j1_0 q1) (0 : Int64) (v2 q3 (j1_0 q1))) (v2 q5 (j1_0 q1))) (v2 q3 (j1_0 q1)))).toInt64)))), .second, .unset, .unset] [(.long (1 : Int64)), (.long (j0_0 q0 q4))])) _
      refine XS.goto X1001.here hx rfl (pc0 := 182) (pc' := 186) rfl (hb hby at_182) (by decide) (by decide) ?_
      have hj1010 : (j0_1 q1 q5) = (1 : Int64) := by unfold j0_1; first | (rw [if_pos hc1009]) | (simp only [if_pos hc1009])
      rw [hj1010] at k
      exact k
    · skip
      show Steps p.tables e below (T1001.setTop (mkF m 178 #[.val (.long q0), .second, .val (.long q1), .second, .val (.long q2), .second, .val (.long q3), .second, .val (.long q4), .second, .val (.long q5), .second, .val (.long (j1_0 q0)), .second, .val (.long (j1_0 q1)), .second, .val (.long (v2 q2 (j1_0 q0))), .second, .val (.long (v2 q3 (j1_0 q1))), .second, .val (.long (v2 q4 (j1_0 q0))), .second, .val (.long (v2 q5 (j1_0 q1))), .second, .val (.ref b832), .val (.ref b848), .val (.ref b871), .val (.ref b901), .val (.long (j11_0 (j11_0 (0 : Int64) ((j7_2_0 (j1_0 q0) (j7_2_0 (j1_0 q0) (0 : Int64) (0 : Int64) (v2 q2 (j1_0 q0))) (j7_2_1 (j1_0 q0) (0 : Int64) (v2 q2 (j1_0 q0))) (v2 q4 (j1_0 q0))) + ((j10_2_0 (j7_2_1 (j1_0 q0) (j7_2_1 (j1_0 q0) (0 : Int64) (v2 q2 (j1_0 q0))) (v2 q4 (j1_0 q0)))).toInt64))) ((j7_2_2 (j1_0 q1) (j7_2_2 (j1_0 q1) (0 : Int64) (0 : Int64) (v2 q3 (j1_0 q1))) (j7_2_3 (j1_0 q1) (0 : Int64) (v2 q3 (j1_0 q1))) (v2 q5 (j1_0 q1))) + ((j10_2_1 (j7_2_3 (j1_0 q1) (j7_2_3 (j1_0 q1) (0 : Int64) (v2 q3 (j1_0 q1))) (v2 q5 (j1_0 q1)))).toInt64)))), .second, .val (.long (j11_0 (v12 (v2 q2 (j1_0 q0)) (v2 q4 (j1_0 q0)) (j1_0 q0)) (v12 (v2 q3 (j1_0 q1)) (v2 q5 (j1_0 q1)) (j1_0 q1)))), .second, .val (.long (j11_0 (j11_0 (0 : Int64) ((j13_2_0 (j7_2_0 (j1_0 q0) (j7_2_0 (j1_0 q0) (0 : Int64) (0 : Int64) (v2 q2 (j1_0 q0))) (j7_2_1 (j1_0 q0) (0 : Int64) (v2 q2 (j1_0 q0))) (v2 q4 (j1_0 q0))) (j7_2_1 (j1_0 q0) (j7_2_1 (j1_0 q0) (0 : Int64) (v2 q2 (j1_0 q0))) (v2 q4 (j1_0 q0))) (v2 q2 (j1_0 q0))) + ((j10_2_0 (j13_2_1 (j1_0 q0) (j7_2_1 (j1_0 q0) (j7_2_1 (j1_0 q0) (0 : Int64) (v2 q2 (j1_0 q0))) (v2 q4 (j1_0 q0))) (v2 q2 (j1_0 q0)))).toInt64))) ((j13_2_2 (j7_2_2 (j1_0 q1) (j7_2_2 (j1_0 q1) (0 : Int64) (0 : Int64) (v2 q3 (j1_0 q1))) (j7_2_3 (j1_0 q1) (0 : Int64) (v2 q3 (j1_0 q1))) (v2 q5 (j1_0 q1))) (j7_2_3 (j1_0 q1) (j7_2_3 (j1_0 q1) (0 : Int64) (v2 q3 (j1_0 q1))) (v2 q5 (j1_0 q1))) (v2 q3 (j1_0 q1))) + ((j10_2_1 (j13_2_3 (j1_0 q1) (j7_2_3 (j1_0 q1) (j7_2_3 (j1_0 q1) (0 : Int64) (v2 q3 (j1_0 q1))) (v2 q5 (j1_0 q1))) (v2 q3 (j1_0 q1)))).toInt64)))), .second, .unset, .unset] [(.int (lcmpW (v2 q5 (j1_0 q1)) (0 : Int64))), (.long (j0_0 q0 q4))])) _
      refine XS.ifYes X1001.here hx rfl (pc0 := 178) (pc' := 185) rfl (hb hby at_178) rfl ((if0 _ _).trans (flt (mt (own_gt (v2 q5 (j1_0 q1)) (0 : Int64)).mp hc1009)).2.2.2) (by decide) (by decide) ?_
      show Steps p.tables e below (T1001.setTop (mkF m 185 #[.val (.long q0), .second, .val (.long q1), .second, .val (.long q2), .second, .val (.long q3), .second, .val (.long q4), .second, .val (.long q5), .second, .val (.long (j1_0 q0)), .second, .val (.long (j1_0 q1)), .second, .val (.long (v2 q2 (j1_0 q0))), .second, .val (.long (v2 q3 (j1_0 q1))), .second, .val (.long (v2 q4 (j1_0 q0))), .second, .val (.long (v2 q5 (j1_0 q1))), .second, .val (.ref b832), .val (.ref b848), .val (.ref b871), .val (.ref b901), .val (.long (j11_0 (j11_0 (0 : Int64) ((j7_2_0 (j1_0 q0) (j7_2_0 (j1_0 q0) (0 : Int64) (0 : Int64) (v2 q2 (j1_0 q0))) (j7_2_1 (j1_0 q0) (0 : Int64) (v2 q2 (j1_0 q0))) (v2 q4 (j1_0 q0))) + ((j10_2_0 (j7_2_1 (j1_0 q0) (j7_2_1 (j1_0 q0) (0 : Int64) (v2 q2 (j1_0 q0))) (v2 q4 (j1_0 q0)))).toInt64))) ((j7_2_2 (j1_0 q1) (j7_2_2 (j1_0 q1) (0 : Int64) (0 : Int64) (v2 q3 (j1_0 q1))) (j7_2_3 (j1_0 q1) (0 : Int64) (v2 q3 (j1_0 q1))) (v2 q5 (j1_0 q1))) + ((j10_2_1 (j7_2_3 (j1_0 q1) (j7_2_3 (j1_0 q1) (0 : Int64) (v2 q3 (j1_0 q1))) (v2 q5 (j1_0 q1)))).toInt64)))), .second, .val (.long (j11_0 (v12 (v2 q2 (j1_0 q0)) (v2 q4 (j1_0 q0)) (j1_0 q0)) (v12 (v2 q3 (j1_0 q1)) (v2 q5 (j1_0 q1)) (j1_0 q1)))), .second, .val (.long (j11_0 (j11_0 (0 : Int64) ((j13_2_0 (j7_2_0 (j1_0 q0) (j7_2_0 (j1_0 q0) (0 : Int64) (0 : Int64) (v2 q2 (j1_0 q0))) (j7_2_1 (j1_0 q0) (0 : Int64) (v2 q2 (j1_0 q0))) (v2 q4 (j1_0 q0))) (j7_2_1 (j1_0 q0) (j7_2_1 (j1_0 q0) (0 : Int64) (v2 q2 (j1_0 q0))) (v2 q4 (j1_0 q0))) (v2 q2 (j1_0 q0))) + ((j10_2_0 (j13_2_1 (j1_0 q0) (j7_2_1 (j1_0 q0) (j7_2_1 (j1_0 q0) (0 : Int64) (v2 q2 (j1_0 q0))) (v2 q4 (j1_0 q0))) (v2 q2 (j1_0 q0)))).toInt64))) ((j13_2_2 (j7_2_2 (j1_0 q1) (j7_2_2 (j1_0 q1) (0 : Int64) (0 : Int64) (v2 q3 (j1_0 q1))) (j7_2_3 (j1_0 q1) (0 : Int64) (v2 q3 (j1_0 q1))) (v2 q5 (j1_0 q1))) (j7_2_3 (j1_0 q1) (j7_2_3 (j1_0 q1) (0 : Int64) (v2 q3 (j1_0 q1))) (v2 q5 (j1_0 q1))) (v2 q3 (j1_0 q1))) + ((j10_2_1 (j13_2_3 (j1_0 q1) (j7_2_3 (j1_0 q1) (j7_2_3 (j1_0 q1) (0 : Int64) (v2 q3 (j1_0 q1))) (v2 q5 (j1_0 q1))) (v2 q3 (j1_0 q1)))).toInt64)))), .second, .unset, .unset] [(.long (j0_0 q0 q4))])) _
      refine XS.lconst X1001.here hx rfl (hb hby at_185) ?_
      have hj1011 : (j0_1 q1 q5) = (0 : Int64) := by unfold j0_1; first | (rw [if_neg hc1009]) | (simp only [if_neg hc1009])
      rw [hj1011] at k
      exact k)
  obtain ⟨_, _, ⟨T1012, L1012, k1012, n1012⟩, -, X1012, ⟨Lc1012, hQ1012, l1012, y1012, z1012⟩, st1012⟩ := Jvm.LawKit.callS X1001 hx (y := (⟨"java/lang/Math", "max", "(JJ)J"⟩ : MethodName)) hown (mvT hZ (hw _ (List.mem_of_getElem? (i := 75) rfl))) (mvT hZ (hw _ (List.mem_of_getElem? (i := 69) rfl))) (mvT hZ (hw _ (List.mem_of_getElem? (i := 70) rfl))) (mvT hZ (hw _ (List.mem_of_getElem? (i := 71) rfl))) (by decide) (backOf (W := 0) (rm11 l Z aw hw [] ((j0_0 q0 q4)) ((j0_1 q1 q5)) h984 n0 Z984 ) hZ (hw _ (List.mem_of_getElem? (i := 71) rfl)) (hw _ (List.mem_of_getElem? (i := 70) rfl)) (by decide) (by decide)) (g := (mkF m 186 #[.val (.long q0), .second, .val (.long q1), .second, .val (.long q2), .second, .val (.long q3), .second, .val (.long q4), .second, .val (.long q5), .second, .val (.long (j1_0 q0)), .second, .val (.long (j1_0 q1)), .second, .val (.long (v2 q2 (j1_0 q0))), .second, .val (.long (v2 q3 (j1_0 q1))), .second, .val (.long (v2 q4 (j1_0 q0))), .second, .val (.long (v2 q5 (j1_0 q1))), .second, .val (.ref b832), .val (.ref b848), .val (.ref b871), .val (.ref b901), .val (.long (j11_0 (j11_0 (0 : Int64) ((j7_2_0 (j1_0 q0) (j7_2_0 (j1_0 q0) (0 : Int64) (0 : Int64) (v2 q2 (j1_0 q0))) (j7_2_1 (j1_0 q0) (0 : Int64) (v2 q2 (j1_0 q0))) (v2 q4 (j1_0 q0))) + ((j10_2_0 (j7_2_1 (j1_0 q0) (j7_2_1 (j1_0 q0) (0 : Int64) (v2 q2 (j1_0 q0))) (v2 q4 (j1_0 q0)))).toInt64))) ((j7_2_2 (j1_0 q1) (j7_2_2 (j1_0 q1) (0 : Int64) (0 : Int64) (v2 q3 (j1_0 q1))) (j7_2_3 (j1_0 q1) (0 : Int64) (v2 q3 (j1_0 q1))) (v2 q5 (j1_0 q1))) + ((j10_2_1 (j7_2_3 (j1_0 q1) (j7_2_3 (j1_0 q1) (0 : Int64) (v2 q3 (j1_0 q1))) (v2 q5 (j1_0 q1)))).toInt64)))), .second, .val (.long (j11_0 (v12 (v2 q2 (j1_0 q0)) (v2 q4 (j1_0 q0)) (j1_0 q0)) (v12 (v2 q3 (j1_0 q1)) (v2 q5 (j1_0 q1)) (j1_0 q1)))), .second, .val (.long (j11_0 (j11_0 (0 : Int64) ((j13_2_0 (j7_2_0 (j1_0 q0) (j7_2_0 (j1_0 q0) (0 : Int64) (0 : Int64) (v2 q2 (j1_0 q0))) (j7_2_1 (j1_0 q0) (0 : Int64) (v2 q2 (j1_0 q0))) (v2 q4 (j1_0 q0))) (j7_2_1 (j1_0 q0) (j7_2_1 (j1_0 q0) (0 : Int64) (v2 q2 (j1_0 q0))) (v2 q4 (j1_0 q0))) (v2 q2 (j1_0 q0))) + ((j10_2_0 (j13_2_1 (j1_0 q0) (j7_2_1 (j1_0 q0) (j7_2_1 (j1_0 q0) (0 : Int64) (v2 q2 (j1_0 q0))) (v2 q4 (j1_0 q0))) (v2 q2 (j1_0 q0)))).toInt64))) ((j13_2_2 (j7_2_2 (j1_0 q1) (j7_2_2 (j1_0 q1) (0 : Int64) (0 : Int64) (v2 q3 (j1_0 q1))) (j7_2_3 (j1_0 q1) (0 : Int64) (v2 q3 (j1_0 q1))) (v2 q5 (j1_0 q1))) (j7_2_3 (j1_0 q1) (j7_2_3 (j1_0 q1) (0 : Int64) (v2 q3 (j1_0 q1))) (v2 q5 (j1_0 q1))) (v2 q3 (j1_0 q1))) + ((j10_2_1 (j13_2_3 (j1_0 q1) (j7_2_3 (j1_0 q1) (j7_2_3 (j1_0 q1) (0 : Int64) (v2 q3 (j1_0 q1))) (v2 q5 (j1_0 q1))) (v2 q3 (j1_0 q1)))).toInt64)))), .second, .unset, .unset] [(.long (j0_1 q1 q5)), (.long (j0_0 q0 q4))])) rfl (by rw [hml]; rfl) (argsL := [(.long (j0_0 q0 q4)), (.long (j0_1 q1 q5))]) (rest := []) (lenOf pd_7 rfl) rfl (by show 2 * 0 + _ ≤ _; exact Nat.le_of_eq rfl) (hb hby at_186) (fun _ _ => ⟨rfl, e1001, (by decide : 15 + 0 ≤ _), (by decide : 131 + 0 ≤ _)⟩)
  dsimp only [Pt.U, Pt.locs, Pt.cells, Pt.slots] at X1012 l1012 y1012 z1012 st1012 hQ1012
  subst l1012 y1012 z1012
  obtain ⟨rfl, N1012q, e1012⟩ := hQ1012
  have N1012 := Fr.app N1001 N1012q
  have pre1015 := fun (t : State) (k : Steps p.tables e below (T1012.setTop (mkF m 196 #[.val (.long q0), .second, .val (.long q1), .second, .val (.long q2), .second, .val (.long q3), .second, .val (.long q4), .second, .val (.long q5), .second, .val (.long (j1_0 q0)), .second, .val (.long (j1_0 q1)), .second, .val (.long (v2 q2 (j1_0 q0))), .second, .val (.long (v2 q3 (j1_0 q1))), .second, .val (.long (v2 q4 (j1_0 q0))), .second, .val (.long (v2 q5 (j1_0 q1))), .second, .val (.ref b832), .val (.ref b848), .val (.ref b871), .val (.ref b901), .val (.long (j11_0 (j11_0 (0 : Int64) ((j7_2_0 (j1_0 q0) (j7_2_0 (j1_0 q0) (0 : Int64) (0 : Int64) (v2 q2 (j1_0 q0))) (j7_2_1 (j1_0 q0) (0 : Int64) (v2 q2 (j1_0 q0))) (v2 q4 (j1_0 q0))) + ((j10_2_0 (j7_2_1 (j1_0 q0) (j7_2_1 (j1_0 q0) (0 : Int64) (v2 q2 (j1_0 q0))) (v2 q4 (j1_0 q0)))).toInt64))) ((j7_2_2 (j1_0 q1) (j7_2_2 (j1_0 q1) (0 : Int64) (0 : Int64) (v2 q3 (j1_0 q1))) (j7_2_3 (j1_0 q1) (0 : Int64) (v2 q3 (j1_0 q1))) (v2 q5 (j1_0 q1))) + ((j10_2_1 (j7_2_3 (j1_0 q1) (j7_2_3 (j1_0 q1) (0 : Int64) (v2 q3 (j1_0 q1))) (v2 q5 (j1_0 q1)))).toInt64)))), .second, .val (.long (j11_0 (v12 (v2 q2 (j1_0 q0)) (v2 q4 (j1_0 q0)) (j1_0 q0)) (v12 (v2 q3 (j1_0 q1)) (v2 q5 (j1_0 q1)) (j1_0 q1)))), .second, .val (.long (j11_0 (j11_0 (0 : Int64) ((j13_2_0 (j7_2_0 (j1_0 q0) (j7_2_0 (j1_0 q0) (0 : Int64) (0 : Int64) (v2 q2 (j1_0 q0))) (j7_2_1 (j1_0 q0) (0 : Int64) (v2 q2 (j1_0 q0))) (v2 q4 (j1_0 q0))) (j7_2_1 (j1_0 q0) (j7_2_1 (j1_0 q0) (0 : Int64) (v2 q2 (j1_0 q0))) (v2 q4 (j1_0 q0))) (v2 q2 (j1_0 q0))) + ((j10_2_0 (j13_2_1 (j1_0 q0) (j7_2_1 (j1_0 q0) (j7_2_1 (j1_0 q0) (0 : Int64) (v2 q2 (j1_0 q0))) (v2 q4 (j1_0 q0))) (v2 q2 (j1_0 q0)))).toInt64))) ((j13_2_2 (j7_2_2 (j1_0 q1) (j7_2_2 (j1_0 q1) (0 : Int64) (0 : Int64) (v2 q3 (j1_0 q1))) (j7_2_3 (j1_0 q1) (0 : Int64) (v2 q3 (j1_0 q1))) (v2 q5 (j1_0 q1))) (j7_2_3 (j1_0 q1) (j7_2_3 (j1_0 q1) (0 : Int64) (v2 q3 (j1_0 q1))) (v2 q5 (j1_0 q1))) (v2 q3 (j1_0 q1))) + ((j10_2_1 (j13_2_3 (j1_0 q1) (j7_2_3 (j1_0 q1) (j7_2_3 (j1_0 q1) (0 : Int64) (v2 q3 (j1_0 q1))) (v2 q5 (j1_0 q1))) (v2 q3 (j1_0 q1)))).toInt64)))), .second, .val (.long (j11_0 (j0_0 q0 q4) (j0_1 q1 q5))), .second] [(.int (lcmpW (j11_0 (j11_0 (0 : Int64) ((j7_2_0 (j1_0 q0) (j7_2_0 (j1_0 q0) (0 : Int64) (0 : Int64) (v2 q2 (j1_0 q0))) (j7_2_1 (j1_0 q0) (0 : Int64) (v2 q2 (j1_0 q0))) (v2 q4 (j1_0 q0))) + ((j10_2_0 (j7_2_1 (j1_0 q0) (j7_2_1 (j1_0 q0) (0 : Int64) (v2 q2 (j1_0 q0))) (v2 q4 (j1_0 q0)))).toInt64))) ((j7_2_2 (j1_0 q1) (j7_2_2 (j1_0 q1) (0 : Int64) (0 : Int64) (v2 q3 (j1_0 q1))) (j7_2_3 (j1_0 q1) (0 : Int64) (v2 q3 (j1_0 q1))) (v2 q5 (j1_0 q1))) + ((j10_2_1 (j7_2_3 (j1_0 q1) (j7_2_3 (j1_0 q1) (0 : Int64) (v2 q3 (j1_0 q1))) (v2 q5 (j1_0 q1)))).toInt64))) (j11_0 (v12 (v2 q2 (j1_0 q0)) (v2 q4 (j1_0 q0)) (j1_0 q0)) (v12 (v2 q3 (j1_0 q1)) (v2 q5 (j1_0 q1)) (j1_0 q1)))))])) t) => pre1008 t (by
    show Steps p.tables e below (T1001.setTop (mkF m 186 #[.val (.long q0), .second, .val (.long q1), .second, .val (.long q2), .second, .val (.long q3), .second, .val (.long q4), .second, .val (.long q5), .second, .val (.long (j1_0 q0)), .second, .val (.long (j1_0 q1)), .second, .val (.long (v2 q2 (j1_0 q0))), .second, .val (.long (v2 q3 (j1_0 q1))), .second, .val (.long (v2 q4 (j1_0 q0))), .second, .val (.long (v2 q5 (j1_0 q1))), .second, .val (.ref b832), .val (.ref b848), .val (.ref b871), .val (.ref b901), .val (.long (j11_0 (j11_0 (0 : Int64) ((j7_2_0 (j1_0 q0) (j7_2_0 (j1_0 q0) (0 : Int64) (0 : Int64) (v2 q2 (j1_0 q0))) (j7_2_1 (j1_0 q0) (0 : Int64) (v2 q2 (j1_0 q0))) (v2 q4 (j1_0 q0))) + ((j10_2_0 (j7_2_1 (j1_0 q0) (j7_2_1 (j1_0 q0) (0 : Int64) (v2 q2 (j1_0 q0))) (v2 q4 (j1_0 q0)))).toInt64))) ((j7_2_2 (j1_0 q1) (j7_2_2 (j1_0 q1) (0 : Int64) (0 : Int64) (v2 q3 (j1_0 q1))) (j7_2_3 (j1_0 q1) (0 : Int64) (v2 q3 (j1_0 q1))) (v2 q5 (j1_0 q1))) + ((j10_2_1 (j7_2_3 (j1_0 q1) (j7_2_3 (j1_0 q1) (0 : Int64) (v2 q3 (j1_0 q1))) (v2 q5 (j1_0 q1)))).toInt64)))), .second, .val (.long (j11_0 (v12 (v2 q2 (j1_0 q0)) (v2 q4 (j1_0 q0)) (j1_0 q0)) (v12 (v2 q3 (j1_0 q1)) (v2 q5 (j1_0 q1)) (j1_0 q1)))), .second, .val (.long (j11_0 (j11_0 (0 : Int64) ((j13_2_0 (j7_2_0 (j1_0 q0) (j7_2_0 (j1_0 q0) (0 : Int64) (0 : Int64) (v2 q2 (j1_0 q0))) (j7_2_1 (j1_0 q0) (0 : Int64) (v2 q2 (j1_0 q0))) (v2 q4 (j1_0 q0))) (j7_2_1 (j1_0 q0) (j7_2_1 (j1_0 q0) (0 : Int64) (v2 q2 (j1_0 q0))) (v2 q4 (j1_0 q0))) (v2 q2 (j1_0 q0))) + ((j10_2_0 (j13_2_1 (j1_0 q0) (j7_2_1 (j1_0 q0) (j7_2_1 (j1_0 q0) (0 : Int64) (v2 q2 (j1_0 q0))) (v2 q4 (j1_0 q0))) (v2 q2 (j1_0 q0)))).toInt64))) ((j13_2_2 (j7_2_2 (j1_0 q1) (j7_2_2 (j1_0 q1) (0 : Int64) (0 : Int64) (v2 q3 (j1_0 q1))) (j7_2_3 (j1_0 q1) (0 : Int64) (v2 q3 (j1_0 q1))) (v2 q5 (j1_0 q1))) (j7_2_3 (j1_0 q1) (j7_2_3 (j1_0 q1) (0 : Int64) (v2 q3 (j1_0 q1))) (v2 q5 (j1_0 q1))) (v2 q3 (j1_0 q1))) + ((j10_2_1 (j13_2_3 (j1_0 q1) (j7_2_3 (j1_0 q1) (j7_2_3 (j1_0 q1) (0 : Int64) (v2 q3 (j1_0 q1))) (v2 q5 (j1_0 q1))) (v2 q3 (j1_0 q1)))).toInt64)))), .second, .unset, .unset] [(.long (j0_1 q1 q5)), (.long (j0_0 q0 q4))])) _
    refine st1012 _ ?_
    show Steps p.tables e below (T1012.setTop (mkF m 189 #[.val (.long q0), .second, .val (.long q1), .second, .val (.long q2), .second, .val (.long q3), .second, .val (.long q4), .second, .val (.long q5), .second, .val (.long (j1_0 q0)), .second, .val (.long (j1_0 q1)), .second, .val (.long (v2 q2 (j1_0 q0))), .second, .val (.long (v2 q3 (j1_0 q1))), .second, .val (.long (v2 q4 (j1_0 q0))), .second, .val (.long (v2 q5 (j1_0 q1))), .second, .val (.ref b832), .val (.ref b848), .val (.ref b871), .val (.ref b901), .val (.long (j11_0 (j11_0 (0 : Int64) ((j7_2_0 (j1_0 q0) (j7_2_0 (j1_0 q0) (0 : Int64) (0 : Int64) (v2 q2 (j1_0 q0))) (j7_2_1 (j1_0 q0) (0 : Int64) (v2 q2 (j1_0 q0))) (v2 q4 (j1_0 q0))) + ((j10_2_0 (j7_2_1 (j1_0 q0) (j7_2_1 (j1_0 q0) (0 : Int64) (v2 q2 (j1_0 q0))) (v2 q4 (j1_0 q0)))).toInt64))) ((j7_2_2 (j1_0 q1) (j7_2_2 (j1_0 q1) (0 : Int64) (0 : Int64) (v2 q3 (j1_0 q1))) (j7_2_3 (j1_0 q1) (0 : Int64) (v2 q3 (j1_0 q1))) (v2 q5 (j1_0 q1))) + ((j10_2_1 (j7_2_3 (j1_0 q1) (j7_2_3 (j1_0 q1) (0 : Int64) (v2 q3 (j1_0 q1))) (v2 q5 (j1_0 q1)))).toInt64)))), .second, .val (.long (j11_0 (v12 (v2 q2 (j1_0 q0)) (v2 q4 (j1_0 q0)) (j1_0 q0)) (v12 (v2 q3 (j1_0 q1)) (v2 q5 (j1_0 q1)) (j1_0 q1)))), .second, .val (.long (j11_0 (j11_0 (0 : Int64) ((j13_2_0 (j7_2_0 (j1_0 q0) (j7_2_0 (j1_0 q0) (0 : Int64) (0 : Int64) (v2 q2 (j1_0 q0))) (j7_2_1 (j1_0 q0) (0 : Int64) (v2 q2 (j1_0 q0))) (v2 q4 (j1_0 q0))) (j7_2_1 (j1_0 q0) (j7_2_1 (j1_0 q0) (0 : Int64) (v2 q2 (j1_0 q0))) (v2 q4 (j1_0 q0))) (v2 q2 (j1_0 q0))) + ((j10_2_0 (j13_2_1 (j1_0 q0) (j7_2_1 (j1_0 q0) (j7_2_1 (j1_0 q0) (0 : Int64) (v2 q2 (j1_0 q0))) (v2 q4 (j1_0 q0))) (v2 q2 (j1_0 q0)))).toInt64))) ((j13_2_2 (j7_2_2 (j1_0 q1) (j7_2_2 (j1_0 q1) (0 : Int64) (0 : Int64) (v2 q3 (j1_0 q1))) (j7_2_3 (j1_0 q1) (0 : Int64) (v2 q3 (j1_0 q1))) (v2 q5 (j1_0 q1))) (j7_2_3 (j1_0 q1) (j7_2_3 (j1_0 q1) (0 : Int64) (v2 q3 (j1_0 q1))) (v2 q5 (j1_0 q1))) (v2 q3 (j1_0 q1))) + ((j10_2_1 (j13_2_3 (j1_0 q1) (j7_2_3 (j1_0 q1) (j7_2_3 (j1_0 q1) (0 : Int64) (v2 q3 (j1_0 q1))) (v2 q5 (j1_0 q1))) (v2 q3 (j1_0 q1)))).toInt64)))), .second, .unset, .unset] [(.long (j11_0 (j0_0 q0 q4) (j0_1 q1 q5)))])) _
    refine XS.lstore X1012.here hx rfl (hb hby at_189) rfl (l' := #[.val (.long q0), .second, .val (.long q1), .second, .val (.long q2), .second, .val (.long q3), .second, .val (.long q4), .second, .val (.long q5), .second, .val (.long (j1_0 q0)), .second, .val (.long (j1_0 q1)), .second, .val (.long (v2 q2 (j1_0 q0))), .second, .val (.long (v2 q3 (j1_0 q1))), .second, .val (.long (v2 q4 (j1_0 q0))), .second, .val (.long (v2 q5 (j1_0 q1))), .second, .val (.ref b832), .val (.ref b848), .val (.ref b871), .val (.ref b901), .val (.long (j11_0 (j11_0 (0 : Int64) ((j7_2_0 (j1_0 q0) (j7_2_0 (j1_0 q0) (0 : Int64) (0 : Int64) (v2 q2 (j1_0 q0))) (j7_2_1 (j1_0 q0) (0 : Int64) (v2 q2 (j1_0 q0))) (v2 q4 (j1_0 q0))) + ((j10_2_0 (j7_2_1 (j1_0 q0) (j7_2_1 (j1_0 q0) (0 : Int64) (v2 q2 (j1_0 q0))) (v2 q4 (j1_0 q0)))).toInt64))) ((j7_2_2 (j1_0 q1) (j7_2_2 (j1_0 q1) (0 : Int64) (0 : Int64) (v2 q3 (j1_0 q1))) (j7_2_3 (j1_0 q1) (0 : Int64) (v2 q3 (j1_0 q1))) (v2 q5 (j1_0 q1))) + ((j10_2_1 (j7_2_3 (j1_0 q1) (j7_2_3 (j1_0 q1) (0 : Int64) (v2 q3 (j1_0 q1))) (v2 q5 (j1_0 q1)))).toInt64)))), .second, .val (.long (j11_0 (v12 (v2 q2 (j1_0 q0)) (v2 q4 (j1_0 q0)) (j1_0 q0)) (v12 (v2 q3 (j1_0 q1)) (v2 q5 (j1_0 q1)) (j1_0 q1)))), .second, .val (.long (j11_0 (j11_0 (0 : Int64) ((j13_2_0 (j7_2_0 (j1_0 q0) (j7_2_0 (j1_0 q0) (0 : Int64) (0 : Int64) (v2 q2 (j1_0 q0))) (j7_2_1 (j1_0 q0) (0 : Int64) (v2 q2 (j1_0 q0))) (v2 q4 (j1_0 q0))) (j7_2_1 (j1_0 q0) (j7_2_1 (j1_0 q0) (0 : Int64) (v2 q2 (j1_0 q0))) (v2 q4 (j1_0 q0))) (v2 q2 (j1_0 q0))) + ((j10_2_0 (j13_2_1 (j1_0 q0) (j7_2_1 (j1_0 q0) (j7_2_1 (j1_0 q0) (0 : Int64) (v2 q2 (j1_0 q0))) (v2 q4 (j1_0 q0))) (v2 q2 (j1_0 q0)))).toInt64))) ((j13_2_2 (j7_2_2 (j1_0 q1) (j7_2_2 (j1_0 q1) (0 : Int64) (0 : Int64) (v2 q3 (j1_0 q1))) (j7_2_3 (j1_0 q1) (0 : Int64) (v2 q3 (j1_0 q1))) (v2 q5 (j1_0 q1))) (j7_2_3 (j1_0 q1) (j7_2_3 (j1_0 q1) (0 : Int64) (v2 q3 (j1_0 q1))) (v2 q5 (j1_0 q1))) (v2 q3 (j1_0 q1))) + ((j10_2_1 (j13_2_3 (j1_0 q1) (j7_2_3 (j1_0 q1) (j7_2_3 (j1_0 q1) (0 : Int64) (v2 q3 (j1_0 q1))) (v2 q5 (j1_0 q1))) (v2 q3 (j1_0 q1)))).toInt64)))), .second, .val (.long (j11_0 (j0_0 q0 q4) (j0_1 q1 q5))), .second]) rfl ?_
    show Steps p.tables e below (T1012.setTop (mkF m 191 #[.val (.long q0), .second, .val (.long q1), .second, .val (.long q2), .second, .val (.long q3), .second, .val (.long q4), .second, .val (.long q5), .second, .val (.long (j1_0 q0)), .second, .val (.long (j1_0 q1)), .second, .val (.long (v2 q2 (j1_0 q0))), .second, .val (.long (v2 q3 (j1_0 q1))), .second, .val (.long (v2 q4 (j1_0 q0))), .second, .val (.long (v2 q5 (j1_0 q1))), .second, .val (.ref b832), .val (.ref b848), .val (.ref b871), .val (.ref b901), .val (.long (j11_0 (j11_0 (0 : Int64) ((j7_2_0 (j1_0 q0) (j7_2_0 (j1_0 q0) (0 : Int64) (0 : Int64) (v2 q2 (j1_0 q0))) (j7_2_1 (j1_0 q0) (0 : Int64) (v2 q2 (j1_0 q0))) (v2 q4 (j1_0 q0))) + ((j10_2_0 (j7_2_1 (j1_0 q0) (j7_2_1 (j1_0 q0) (0 : Int64) (v2 q2 (j1_0 q0))) (v2 q4 (j1_0 q0)))).toInt64))) ((j7_2_2 (j1_0 q1) (j7_2_2 (j1_0 q1) (0 : Int64) (0 : Int64) (v2 q3 (j1_0 q1))) (j7_2_3 (j1_0 q1) (0 : Int64) (v2 q3 (j1_0 q1))) (v2 q5 (j1_0 q1))) + ((j10_2_1 (j7_2_3 (j1_0 q1) (j7_2_3 (j1_0 q1) (0 : Int64) (v2 q3 (j1_0 q1))) (v2 q5 (j1_0 q1)))).toInt64)))), .second, .val (.long (j11_0 (v12 (v2 q2 (j1_0 q0)) (v2 q4 (j1_0 q0)) (j1_0 q0)) (v12 (v2 q3 (j1_0 q1)) (v2 q5 (j1_0 q1)) (j1_0 q1)))), .second, .val (.long (j11_0 (j11_0 (0 : Int64) ((j13_2_0 (j7_2_0 (j1_0 q0) (j7_2_0 (j1_0 q0) (0 : Int64) (0 : Int64) (v2 q2 (j1_0 q0))) (j7_2_1 (j1_0 q0) (0 : Int64) (v2 q2 (j1_0 q0))) (v2 q4 (j1_0 q0))) (j7_2_1 (j1_0 q0) (j7_2_1 (j1_0 q0) (0 : Int64) (v2 q2 (j1_0 q0))) (v2 q4 (j1_0 q0))) (v2 q2 (j1_0 q0))) + ((j10_2_0 (j13_2_1 (j1_0 q0) (j7_2_1 (j1_0 q0) (j7_2_1 (j1_0 q0) (0 : Int64) (v2 q2 (j1_0 q0))) (v2 q4 (j1_0 q0))) (v2 q2 (j1_0 q0)))).toInt64))) ((j13_2_2 (j7_2_2 (j1_0 q1) (j7_2_2 (j1_0 q1) (0 : Int64) (0 : Int64) (v2 q3 (j1_0 q1))) (j7_2_3 (j1_0 q1) (0 : Int64) (v2 q3 (j1_0 q1))) (v2 q5 (j1_0 q1))) (j7_2_3 (j1_0 q1) (j7_2_3 (j1_0 q1) (0 : Int64) (v2 q3 (j1_0 q1))) (v2 q5 (j1_0 q1))) (v2 q3 (j1_0 q1))) + ((j10_2_1 (j13_2_3 (j1_0 q1) (j7_2_3 (j1_0 q1) (j7_2_3 (j1_0 q1) (0 : Int64) (v2 q3 (j1_0 q1))) (v2 q5 (j1_0 q1))) (v2 q3 (j1_0 q1)))).toInt64)))), .second, .val (.long (j11_0 (j0_0 q0 q4) (j0_1 q1 q5))), .second] [])) _
    refine XS.lload X1012.here hx rfl (hb hby at_191) rfl ?_
    show Steps p.tables e below (T1012.setTop (mkF m 193 #[.val (.long q0), .second, .val (.long q1), .second, .val (.long q2), .second, .val (.long q3), .second, .val (.long q4), .second, .val (.long q5), .second, .val (.long (j1_0 q0)), .second, .val (.long (j1_0 q1)), .second, .val (.long (v2 q2 (j1_0 q0))), .second, .val (.long (v2 q3 (j1_0 q1))), .second, .val (.long (v2 q4 (j1_0 q0))), .second, .val (.long (v2 q5 (j1_0 q1))), .second, .val (.ref b832), .val (.ref b848), .val (.ref b871), .val (.ref b901), .val (.long (j11_0 (j11_0 (0 : Int64) ((j7_2_0 (j1_0 q0) (j7_2_0 (j1_0 q0) (0 : Int64) (0 : Int64) (v2 q2 (j1_0 q0))) (j7_2_1 (j1_0 q0) (0 : Int64) (v2 q2 (j1_0 q0))) (v2 q4 (j1_0 q0))) + ((j10_2_0 (j7_2_1 (j1_0 q0) (j7_2_1 (j1_0 q0) (0 : Int64) (v2 q2 (j1_0 q0))) (v2 q4 (j1_0 q0)))).toInt64))) ((j7_2_2 (j1_0 q1) (j7_2_2 (j1_0 q1) (0 : Int64) (0 : Int64) (v2 q3 (j1_0 q1))) (j7_2_3 (j1_0 q1) (0 : Int64) (v2 q3 (j1_0 q1))) (v2 q5 (j1_0 q1))) + ((j10_2_1 (j7_2_3 (j1_0 q1) (j7_2_3 (j1_0 q1) (0 : Int64) (v2 q3 (j1_0 q1))) (v2 q5 (j1_0 q1)))).toInt64)))), .second, .val (.long (j11_0 (v12 (v2 q2 (j1_0 q0)) (v2 q4 (j1_0 q0)) (j1_0 q0)) (v12 (v2 q3 (j1_0 q1)) (v2 q5 (j1_0 q1)) (j1_0 q1)))), .second, .val (.long (j11_0 (j11_0 (0 : Int64) ((j13_2_0 (j7_2_0 (j1_0 q0) (j7_2_0 (j1_0 q0) (0 : Int64) (0 : Int64) (v2 q2 (j1_0 q0))) (j7_2_1 (j1_0 q0) (0 : Int64) (v2 q2 (j1_0 q0))) (v2 q4 (j1_0 q0))) (j7_2_1 (j1_0 q0) (j7_2_1 (j1_0 q0) (0 : Int64) (v2 q2 (j1_0 q0))) (v2 q4 (j1_0 q0))) (v2 q2 (j1_0 q0))) + ((j10_2_0 (j13_2_1 (j1_0 q0) (j7_2_1 (j1_0 q0) (j7_2_1 (j1_0 q0) (0 : Int64) (v2 q2 (j1_0 q0))) (v2 q4 (j1_0 q0))) (v2 q2 (j1_0 q0)))).toInt64))) ((j13_2_2 (j7_2_2 (j1_0 q1) (j7_2_2 (j1_0 q1) (0 : Int64) (0 : Int64) (v2 q3 (j1_0 q1))) (j7_2_3 (j1_0 q1) (0 : Int64) (v2 q3 (j1_0 q1))) (v2 q5 (j1_0 q1))) (j7_2_3 (j1_0 q1) (j7_2_3 (j1_0 q1) (0 : Int64) (v2 q3 (j1_0 q1))) (v2 q5 (j1_0 q1))) (v2 q3 (j1_0 q1))) + ((j10_2_1 (j13_2_3 (j1_0 q1) (j7_2_3 (j1_0 q1) (j7_2_3 (j1_0 q1) (0 : Int64) (v2 q3 (j1_0 q1))) (v2 q5 (j1_0 q1))) (v2 q3 (j1_0 q1)))).toInt64)))), .second, .val (.long (j11_0 (j0_0 q0 q4) (j0_1 q1 q5))), .second] [(.long (j11_0 (j11_0 (0 : Int64) ((j7_2_0 (j1_0 q0) (j7_2_0 (j1_0 q0) (0 : Int64) (0 : Int64) (v2 q2 (j1_0 q0))) (j7_2_1 (j1_0 q0) (0 : Int64) (v2 q2 (j1_0 q0))) (v2 q4 (j1_0 q0))) + ((j10_2_0 (j7_2_1 (j1_0 q0) (j7_2_1 (j1_0 q0) (0 : Int64) (v2 q2 (j1_0 q0))) (v2 q4 (j1_0 q0)))).toInt64))) ((j7_2_2 (j1_0 q1) (j7_2_2 (j1_0 q1) (0 : Int64) (0 : Int64) (v2 q3 (j1_0 q1))) (j7_2_3 (j1_0 q1) (0 : Int64) (v2 q3 (j1_0 q1))) (v2 q5 (j1_0 q1))) + ((j10_2_1 (j7_2_3 (j1_0 q1) (j7_2_3 (j1_0 q1) (0 : Int64) (v2 q3 (j1_0 q1))) (v2 q5 (j1_0 q1)))).toInt64))))])) _
    refine XS.lload X1012.here hx rfl (hb hby at_193) rfl ?_
    show Steps p.tables e below (T1012.setTop (mkF m 195 #[.val (.long q0), .second, .val (.long q1), .second, .val (.long q2), .second, .val (.long q3), .second, .val (.long q4), .second, .val (.long q5), .second, .val (.long (j1_0 q0)), .second, .val (.long (j1_0 q1)), .second, .val (.long (v2 q2 (j1_0 q0))), .second, .val (.long (v2 q3 (j1_0 q1))), .second, .val (.long (v2 q4 (j1_0 q0))), .second, .val (.long (v2 q5 (j1_0 q1))), .second, .val (.ref b832), .val (.ref b848), .val (.ref b871), .val (.ref b901), .val (.long (j11_0 (j11_0 (0 : Int64) ((j7_2_0 (j1_0 q0) (j7_2_0 (j1_0 q0) (0 : Int64) (0 : Int64) (v2 q2 (j1_0 q0))) (j7_2_1 (j1_0 q0) (0 : Int64) (v2 q2 (j1_0 q0))) (v2 q4 (j1_0 q0))) + ((j10_2_0 (j7_2_1 (j1_0 q0) (j7_2_1 (j1_0 q0) (0 : Int64) (v2 q2 (j1_0 q0))) (v2 q4 (j1_0 q0)))).toInt64))) ((j7_2_2 (j1_0 q1) (j7_2_2 (j1_0 q1) (0 : Int64) (0 : Int64) (v2 q3 (j1_0 q1))) (j7_2_3 (j1_0 q1) (0 : Int64) (v2 q3 (j1_0 q1))) (v2 q5 (j1_0 q1))) + ((j10_2_1 (j7_2_3 (j1_0 q1) (j7_2_3 (j1_0 q1) (0 : Int64) (v2 q3 (j1_0 q1))) (v2 q5 (j1_0 q1)))).toInt64)))), .second, .val (.long (j11_0 (v12 (v2 q2 (j1_0 q0)) (v2 q4 (j1_0 q0)) (j1_0 q0)) (v12 (v2 q3 (j1_0 q1)) (v2 q5 (j1_0 q1)) (j1_0 q1)))), .second, .val (.long (j11_0 (j11_0 (0 : Int64) ((j13_2_0 (j7_2_0 (j1_0 q0) (j7_2_0 (j1_0 q0) (0 : Int64) (0 : Int64) (v2 q2 (j1_0 q0))) (j7_2_1 (j1_0 q0) (0 : Int64) (v2 q2 (j1_0 q0))) (v2 q4 (j1_0 q0))) (j7_2_1 (j1_0 q0) (j7_2_1 (j1_0 q0) (0 : Int64) (v2 q2 (j1_0 q0))) (v2 q4 (j1_0 q0))) (v2 q2 (j1_0 q0))) + ((j10_2_0 (j13_2_1 (j1_0 q0) (j7_2_1 (j1_0 q0) (j7_2_1 (j1_0 q0) (0 : Int64) (v2 q2 (j1_0 q0))) (v2 q4 (j1_0 q0))) (v2 q2 (j1_0 q0)))).toInt64))) ((j13_2_2 (j7_2_2 (j1_0 q1) (j7_2_2 (j1_0 q1) (0 : Int64) (0 : Int64) (v2 q3 (j1_0 q1))) (j7_2_3 (j1_0 q1) (0 : Int64) (v2 q3 (j1_0 q1))) (v2 q5 (j1_0 q1))) (j7_2_3 (j1_0 q1) (j7_2_3 (j1_0 q1) (0 : Int64) (v2 q3 (j1_0 q1))) (v2 q5 (j1_0 q1))) (v2 q3 (j1_0 q1))) + ((j10_2_1 (j13_2_3 (j1_0 q1) (j7_2_3 (j1_0 q1) (j7_2_3 (j1_0 q1) (0 : Int64) (v2 q3 (j1_0 q1))) (v2 q5 (j1_0 q1))) (v2 q3 (j1_0 q1)))).toInt64)))), .second, .val (.long (j11_0 (j0_0 q0 q4) (j0_1 q1 q5))), .second] [(.long (j11_0 (v12 (v2 q2 (j1_0 q0)) (v2 q4 (j1_0 q0)) (j1_0 q0)) (v12 (v2 q3 (j1_0 q1)) (v2 q5 (j1_0 q1)) (j1_0 q1)))), (.long (j11_0 (j11_0 (0 : Int64) ((j7_2_0 (j1_0 q0) (j7_2_0 (j1_0 q0) (0 : Int64) (0 : Int64) (v2 q2 (j1_0 q0))) (j7_2_1 (j1_0 q0) (0 : Int64) (v2 q2 (j1_0 q0))) (v2 q4 (j1_0 q0))) + ((j10_2_0 (j7_2_1 (j1_0 q0) (j7_2_1 (j1_0 q0) (0 : Int64) (v2 q2 (j1_0 q0))) (v2 q4 (j1_0 q0)))).toInt64))) ((j7_2_2 (j1_0 q1) (j7_2_2 (j1_0 q1) (0 : Int64) (0 : Int64) (v2 q3 (j1_0 q1))) (j7_2_3 (j1_0 q1) (0 : Int64) (v2 q3 (j1_0 q1))) (v2 q5 (j1_0 q1))) + ((j10_2_1 (j7_2_3 (j1_0 q1) (j7_2_3 (j1_0 q1) (0 : Int64) (v2 q3 (j1_0 q1))) (v2 q5 (j1_0 q1)))).toInt64))))])) _
    refine XS.lcmp X1012.here hx rfl (hb hby at_195) rfl ?_
    exact k)
  have pre1016 := fun (t : State) (k : Steps p.tables e below (T1012.setTop (mkF m 212 #[.val (.long q0), .second, .val (.long q1), .second, .val (.long q2), .second, .val (.long q3), .second, .val (.long q4), .second, .val (.long q5), .second, .val (.long (j1_0 q0)), .second, .val (.long (j1_0 q1)), .second, .val (.long (v2 q2 (j1_0 q0))), .second, .val (.long (v2 q3 (j1_0 q1))), .second, .val (.long (v2 q4 (j1_0 q0))), .second, .val (.long (v2 q5 (j1_0 q1))), .second, .val (.ref b832), .val (.ref b848), .val (.ref b871), .val (.ref b901), .val (.long (j11_0 (j11_0 (0 : Int64) ((j7_2_0 (j1_0 q0) (j7_2_0 (j1_0 q0) (0 : Int64) (0 : Int64) (v2 q2 (j1_0 q0))) (j7_2_1 (j1_0 q0) (0 : Int64) (v2 q2 (j1_0 q0))) (v2 q4 (j1_0 q0))) + ((j10_2_0 (j7_2_1 (j1_0 q0) (j7_2_1 (j1_0 q0) (0 : Int64) (v2 q2 (j1_0 q0))) (v2 q4 (j1_0 q0)))).toInt64))) ((j7_2_2 (j1_0 q1) (j7_2_2 (j1_0 q1) (0 : Int64) (0 : Int64) (v2 q3 (j1_0 q1))) (j7_2_3 (j1_0 q1) (0 : Int64) (v2 q3 (j1_0 q1))) (v2 q5 (j1_0 q1))) + ((j10_2_1 (j7_2_3 (j1_0 q1) (j7_2_3 (j1_0 q1) (0 : Int64) (v2 q3 (j1_0 q1))) (v2 q5 (j1_0 q1)))).toInt64)))), .second, .val (.long (j11_0 (v12 (v2 q2 (j1_0 q0)) (v2 q4 (j1_0 q0)) (j1_0 q0)) (v12 (v2 q3 (j1_0 q1)) (v2 q5 (j1_0 q1)) (j1_0 q1)))), .second, .val (.long (j11_0 (j11_0 (0 : Int64) ((j13_2_0 (j7_2_0 (j1_0 q0) (j7_2_0 (j1_0 q0) (0 : Int64) (0 : Int64) (v2 q2 (j1_0 q0))) (j7_2_1 (j1_0 q0) (0 : Int64) (v2 q2 (j1_0 q0))) (v2 q4 (j1_0 q0))) (j7_2_1 (j1_0 q0) (j7_2_1 (j1_0 q0) (0 : Int64) (v2 q2 (j1_0 q0))) (v2 q4 (j1_0 q0))) (v2 q2 (j1_0 q0))) + ((j10_2_0 (j13_2_1 (j1_0 q0) (j7_2_1 (j1_0 q0) (j7_2_1 (j1_0 q0) (0 : Int64) (v2 q2 (j1_0 q0))) (v2 q4 (j1_0 q0))) (v2 q2 (j1_0 q0)))).toInt64))) ((j13_2_2 (j7_2_2 (j1_0 q1) (j7_2_2 (j1_0 q1) (0 : Int64) (0 : Int64) (v2 q3 (j1_0 q1))) (j7_2_3 (j1_0 q1) (0 : Int64) (v2 q3 (j1_0 q1))) (v2 q5 (j1_0 q1))) (j7_2_3 (j1_0 q1) (j7_2_3 (j1_0 q1) (0 : Int64) (v2 q3 (j1_0 q1))) (v2 q5 (j1_0 q1))) (v2 q3 (j1_0 q1))) + ((j10_2_1 (j13_2_3 (j1_0 q1) (j7_2_3 (j1_0 q1) (j7_2_3 (j1_0 q1) (0 : Int64) (v2 q3 (j1_0 q1))) (v2 q5 (j1_0 q1))) (v2 q3 (j1_0 q1)))).toInt64)))), .second, .val (.long (j11_0 (j0_0 q0 q4) (j0_1 q1 q5))), .second] [(.int (j0_2 q0 q1 q2 q3 q4 q5))])) t) => pre1015 t (by
    by_cases hc1017 : (j11_0 (j11_0 (0 : Int64) ((j7_2_0 (j1_0 q0) (j7_2_0 (j1_0 q0) (0 : Int64) (0 : Int64) (v2 q2 (j1_0 q0))) (j7_2_1 (j1_0 q0) (0 : Int64) (v2 q2 (j1_0 q0))) (v2 q4 (j1_0 q0))) + ((j10_2_0 (j7_2_1 (j1_0 q0) (j7_2_1 (j1_0 q0) (0 : Int64) (v2 q2 (j1_0 q0))) (v2 q4 (j1_0 q0)))).toInt64))) ((j7_2_2 (j1_0 q1) (j7_2_2 (j1_0 q1) (0 : Int64) (0 : Int64) (v2 q3 (j1_0 q1))) (j7_2_3 (j1_0 q1) (0 : Int64) (v2 q3 (j1_0 q1))) (v2 q5 (j1_0 q1))) + ((j10_2_1 (j7_2_3 (j1_0 q1) (j7_2_3 (j1_0 q1) (0 : Int64) (v2 q3 (j1_0 q1))) (v2 q5 (j1_0 q1)))).toInt64))) = (j11_0 (v12 (v2 q2 (j1_0 q0)) (v2 q4 (j1_0 q0)) (j1_0 q0)) (v12 (v2 q3 (j1_0 q1)) (v2 q5 (j1_0 q1)) (j1_0 q1)))
    · skip
      show Steps p.tables e below (T1012.setTop (mkF m 196 #[.val (.long q0), .second, .val (.long q1), .second, .val (.long q2), .second, .val (.long q3), .second, .val (.long q4), .second, .val (.long q5), .second, .val (.long (j1_0 q0)), .second, .val (.long (j1_0 q1)), .second, .val (.long (v2 q2 (j1_0 q0))), .second, .val (.long (v2 q3 (j1_0 q1))), .second, .val (.long (v2 q4 (j1_0 q0))), .second, .val (.long (v2 q5 (j1_0 q1))), .second, .val (.ref b832), .val (.ref b848), .val (.ref b871), .val (.ref b901), .val (.long (j11_0 (j11_0 (0 : Int64) ((j7_2_0 (j1_0 q0) (j7_2_0 (j1_0 q0) (0 : Int64) (0 : Int64) (v2 q2 (j1_0 q0))) (j7_2_1 (j1_0 q0) (0 : Int64) (v2 q2 (j1_0 q0))) (v2 q4 (j1_0 q0))) + ((j10_2_0 (j7_2_1 (j1_0 q0) (j7_2_1 (j1_0 q0) (0 : Int64) (v2 q2 (j1_0 q0))) (v2 q4 (j1_0 q0)))).toInt64))) ((j7_2_2 (j1_0 q1) (j7_2_2 (j1_0 q1) (0 : Int64) (0 : Int64) (v2 q3 (j1_0 q1))) (j7_2_3 (j1_0 q1) (0 : Int64) (v2 q3 (j1_0 q1))) (v2 q5 (j1_0 q1))) + ((j10_2_1 (j7_2_3 (j1_0 q1) (j7_2_3 (j1_0 q1) (0 : Int64) (v2 q3 (j1_0 q1))) (v2 q5 (j1_0 q1)))).toInt64)))), .second, .val (.long (j11_0 (v12 (v2 q2 (j1_0 q0)) (v2 q4 (j1_0 q0)) (j1_0 q0)) (v12 (v2 q3 (j1_0 q1)) (v2 q5 (j1_0 q1)) (j1_0 q1)))), .second, .val (.long (j11_0 (j11_0 (0 : Int64) ((j13_2_0 (j7_2_0 (j1_0 q0) (j7_2_0 (j1_0 q0) (0 : Int64) (0 : Int64) (v2 q2 (j1_0 q0))) (j7_2_1 (j1_0 q0) (0 : Int64) (v2 q2 (j1_0 q0))) (v2 q4 (j1_0 q0))) (j7_2_1 (j1_0 q0) (j7_2_1 (j1_0 q0) (0 : Int64) (v2 q2 (j1_0 q0))) (v2 q4 (j1_0 q0))) (v2 q2 (j1_0 q0))) + ((j10_2_0 (j13_2_1 (j1_0 q0) (j7_2_1 (j1_0 q0) (j7_2_1 (j1_0 q0) (0 : Int64) (v2 q2 (j1_0 q0))) (v2 q4 (j1_0 q0))) (v2 q2 (j1_0 q0)))).toInt64))) ((j13_2_2 (j7_2_2 (j1_0 q1) (j7_2_2 (j1_0 q1) (0 : Int64) (0 : Int64) (v2 q3 (j1_0 q1))) (j7_2_3 (j1_0 q1) (0 : Int64) (v2 q3 (j1_0 q1))) (v2 q5 (j1_0 q1))) (j7_2_3 (j1_0 q1) (j7_2_3 (j1_0 q1) (0 : Int64) (v2 q3 (j1_0 q1))) (v2 q5 (j1_0 q1))) (v2 q3 (j1_0 q1))) + ((j10_2_1 (j13_2_3 (j1_0 q1) (j7_2_3 (j1_0 q1) (j7_2_3 (j1_0 q1) (0 : Int64) (v2 q3 (j1_0 q1))) (v2 q5 (j1_0 q1))) (v2 q3 (j1_0 q1)))).toInt64)))), .second, .val (.long (j11_0 (j0_0 q0 q4) (j0_1 q1 q5))), .second] [(.int (lcmpW (j11_0 (j11_0 (0 : Int64) ((j7_2_0 (j1_0 q0) (j7_2_0 (j1_0 q0) (0 : Int64) (0 : Int64) (v2 q2 (j1_0 q0))) (j7_2_1 (j1_0 q0) (0 : Int64) (v2 q2 (j1_0 q0))) (v2 q4 (j1_0 q0))) + ((j10_2_0 (j7_2_1 (j1_0 q0) (j7_2_1 (j1_0 q0) (0 : Int64) (v2 q2 (j1_0 q0))) (v2 q4 (j1_0 q0)))).toInt64))) ((j7_2_2 (j1_0 q1) (j7_2_2 (j1_0 q1) (0 : Int64) (0 : Int64) (v2 q3 (j1_0 q1))) (j7_2_3 (j1_0 q1) (0 : Int64) (v2 q3 (j1_0 q1))) (v2 q5 (j1_0 q1))) + ((j10_2_1 (j7_2_3 (j1_0 q1) (j7_2_3 (j1_0 q1) (0 : Int64) (v2 q3 (j1_0 q1))) (v2 q5 (j1_0 q1)))).toInt64))) (j11_0 (v12 (v2 q2 (j1_0 q0)) (v2 q4 (j1_0 q0)) (j1_0 q0)) (v12 (v2 q3 (j1_0 q1)) (v2 q5 (j1_0 q1)) (j1_0 q1)))))])) _
      refine XS.ifNo X1012.here hx rfl (hb hby at_196) rfl ((if0 _ _).trans (teq ((own_eq (j11_0 (j11_0 (0 : Int64) ((j7_2_0 (j1_0 q0) (j7_2_0 (j1_0 q0) (0 : Int64) (0 : Int64) (v2 q2 (j1_0 q0))) (j7_2_1 (j1_0 q0) (0 : Int64) (v2 q2 (j1_0 q0))) (v2 q4 (j1_0 q0))) + ((j10_2_0 (j7_2_1 (j1_0 q0) (j7_2_1 (j1_0 q0) (0 : Int64) (v2 q2 (j1_0 q0))) (v2 q4 (j1_0 q0)))).toInt64))) ((j7_2_2 (j1_0 q1) (j7_2_2 (j1_0 q1) (0 : Int64) (0 : Int64) (v2 q3 (j1_0 q1))) (j7_2_3 (j1_0 q1) (0 : Int64) (v2 q3 (j1_0 q1))) (v2 q5 (j1_0 q1))) + ((j10_2_1 (j7_2_3 (j1_0 q1) (j7_2_3 (j1_0 q1) (0 : Int64) (v2 q3 (j1_0 q1))) (v2 q5 (j1_0 q1)))).toInt64))) (j11_0 (v12 (v2 q2 (j1_0 q0)) (v2 q4 (j1_0 q0)) (j1_0 q0)) (v12 (v2 q3 (j1_0 q1)) (v2 q5 (j1_0 q1)) (j1_0 q1)))).mpr hc1017)).2) ?_
      show Steps p.tables e below (T1012.setTop (mkF m 199 #[.val (.long q0), .second, .val (.long q1), .second, .val (.long q2), .second, .val (.long q3), .second, .val (.long q4), .second, .val (.long q5), .second, .val (.long (j1_0 q0)), .second, .val (.long (j1_0 q1)), .second, .val (.long (v2 q2 (j1_0 q0))), .second, .val (.long (v2 q3 (j1_0 q1))), .second, .val (.long (v2 q4 (j1_0 q0))), .second, .val (.long (v2 q5 (j1_0 q1))), .second, .val (.ref b832), .val (.ref b848), .val (.ref b871), .val (.ref b901), .val (.long (j11_0 (j11_0 (0 : Int64) ((j7_2_0 (j1_0 q0) (j7_2_0 (j1_0 q0) (0 : Int64) (0 : Int64) (v2 q2 (j1_0 q0))) (j7_2_1 (j1_0 q0) (0 : Int64) (v2 q2 (j1_0 q0))) (v2 q4 (j1_0 q0))) + ((j10_2_0 (j7_2_1 (j1_0 q0) (j7_2_1 (j1_0 q0) (0 : Int64) (v2 q2 (j1_0 q0))) (v2 q4 (j1_0 q0)))).toInt64))) ((j7_2_2 (j1_0 q1) (j7_2_2 (j1_0 q1) (0 : Int64) (0 : Int64) (v2 q3 (j1_0 q1))) (j7_2_3 (j1_0 q1) (0 : Int64) (v2 q3 (j1_0 q1))) (v2 q5 (j1_0 q1))) + ((j10_2_1 (j7_2_3 (j1_0 q1) (j7_2_3 (j1_0 q1) (0 : Int64) (v2 q3 (j1_0 q1))) (v2 q5 (j1_0 q1)))).toInt64)))), .second, .val (.long (j11_0 (v12 (v2 q2 (j1_0 q0)) (v2 q4 (j1_0 q0)) (j1_0 q0)) (v12 (v2 q3 (j1_0 q1)) (v2 q5 (j1_0 q1)) (j1_0 q1)))), .second, .val (.long (j11_0 (j11_0 (0 : Int64) ((j13_2_0 (j7_2_0 (j1_0 q0) (j7_2_0 (j1_0 q0) (0 : Int64) (0 : Int64) (v2 q2 (j1_0 q0))) (j7_2_1 (j1_0 q0) (0 : Int64) (v2 q2 (j1_0 q0))) (v2 q4 (j1_0 q0))) (j7_2_1 (j1_0 q0) (j7_2_1 (j1_0 q0) (0 : Int64) (v2 q2 (j1_0 q0))) (v2 q4 (j1_0 q0))) (v2 q2 (j1_0 q0))) + ((j10_2_0 (j13_2_1 (j1_0 q0) (j7_2_1 (j1_0 q0) (j7_2_1 (j1_0 q0) (0 : Int64) (v2 q2 (j1_0 q0))) (v2 q4 (j1_0 q0))) (v2 q2 (j1_0 q0)))).toInt64))) ((j13_2_2 (j7_2_2 (j1_0 q1) (j7_2_2 (j1_0 q1) (0 : Int64) (0 : Int64) (v2 q3 (j1_0 q1))) (j7_2_3 (j1_0 q1) (0 : Int64) (v2 q3 (j1_0 q1))) (v2 q5 (j1_0 q1))) (j7_2_3 (j1_0 q1) (j7_2_3 (j1_0 q1) (0 : Int64) (v2 q3 (j1_0 q1))) (v2 q5 (j1_0 q1))) (v2 q3 (j1_0 q1))) + ((j10_2_1 (j13_2_3 (j1_0 q1) (j7_2_3 (j1_0 q1) (j7_2_3 (j1_0 q1) (0 : Int64) (v2 q3 (j1_0 q1))) (v2 q5 (j1_0 q1))) (v2 q3 (j1_0 q1)))).toInt64)))), .second, .val (.long (j11_0 (j0_0 q0 q4) (j0_1 q1 q5))), .second] [])) _
      refine XS.lload X1012.here hx rfl (hb hby at_199) rfl ?_
      show Steps p.tables e below (T1012.setTop (mkF m 201 #[.val (.long q0), .second, .val (.long q1), .second, .val (.long q2), .second, .val (.long q3), .second, .val (.long q4), .second, .val (.long q5), .second, .val (.long (j1_0 q0)), .second, .val (.long (j1_0 q1)), .second, .val (.long (v2 q2 (j1_0 q0))), .second, .val (.long (v2 q3 (j1_0 q1))), .second, .val (.long (v2 q4 (j1_0 q0))), .second, .val (.long (v2 q5 (j1_0 q1))), .second, .val (.ref b832), .val (.ref b848), .val (.ref b871), .val (.ref b901), .val (.long (j11_0 (j11_0 (0 : Int64) ((j7_2_0 (j1_0 q0) (j7_2_0 (j1_0 q0) (0 : Int64) (0 : Int64) (v2 q2 (j1_0 q0))) (j7_2_1 (j1_0 q0) (0 : Int64) (v2 q2 (j1_0 q0))) (v2 q4 (j1_0 q0))) + ((j10_2_0 (j7_2_1 (j1_0 q0) (j7_2_1 (j1_0 q0) (0 : Int64) (v2 q2 (j1_0 q0))) (v2 q4 (j1_0 q0)))).toInt64))) ((j7_2_2 (j1_0 q1) (j7_2_2 (j1_0 q1) (0 : Int64) (0 : Int64) (v2 q3 (j1_0 q1))) (j7_2_3 (j1_0 q1) (0 : Int64) (v2 q3 (j1_0 q1))) (v2 q5 (j1_0 q1))) + ((j10_2_1 (j7_2_3 (j1_0 q1) (j7_2_3 (j1_0 q1) (0 : Int64) (v2 q3 (j1_0 q1))) (v2 q5 (j1_0 q1)))).toInt64)))), .second, .val (.long (j11_0 (v12 (v2 q2 (j1_0 q0)) (v2 q4 (j1_0 q0)) (j1_0 q0)) (v12 (v2 q3 (j1_0 q1)) (v2 q5 (j1_0 q1)) (j1_0 q1)))), .second, .val (.long (j11_0 (j11_0 (0 : Int64) ((j13_2_0 (j7_2_0 (j1_0 q0) (j7_2_0 (j1_0 q0) (0 : Int64) (0 : Int64) (v2 q2 (j1_0 q0))) (j7_2_1 (j1_0 q0) (0 : Int64) (v2 q2 (j1_0 q0))) (v2 q4 (j1_0 q0))) (j7_2_1 (j1_0 q0) (j7_2_1 (j1_0 q0) (0 : Int64) (v2 q2 (j1_0 q0))) (v2 q4 (j1_0 q0))) (v2 q2 (j1_0 q0))) + ((j10_2_0 (j13_2_1 (j1_0 q0) (j7_2_1 (j1_0 q0) (j7_2_1 (j1_0 q0) (0 : Int64) (v2 q2 (j1_0 q0))) (v2 q4 (j1_0 q0))) (v2 q2 (j1_0 q0)))).toInt64))) ((j13_2_2 (j7_2_2 (j1_0 q1) (j7_2_2 (j1_0 q1) (0 : Int64) (0 : Int64) (v2 q3 (j1_0 q1))) (j7_2_3 (j1_0 q1) (0 : Int64) (v2 q3 (j1_0 q1))) (v2 q5 (j1_0 q1))) (j7_2_3 (j1_0 q1) (j7_2_3 (j1_0 q1) (0 : Int64) (v2 q3 (j1_0 q1))) (v2 q5 (j1_0 q1))) (v2 q3 (j1_0 q1))) + ((j10_2_1 (j13_2_3 (j1_0 q1) (j7_2_3 (j1_0 q1) (j7_2_3 (j1_0 q1) (0 : Int64) (v2 q3 (j1_0 q1))) (v2 q5 (j1_0 q1))) (v2 q3 (j1_0 q1)))).toInt64)))), .second, .val (.long (j11_0 (j0_0 q0 q4) (j0_1 q1 q5))), .second] [(.long (j11_0 (j11_0 (0 : Int64) ((j13_2_0 (j7_2_0 (j1_0 q0) (j7_2_0 (j1_0 q0) (0 : Int64) (0 : Int64) (v2 q2 (j1_0 q0))) (j7_2_1 (j1_0 q0) (0 : Int64) (v2 q2 (j1_0 q0))) (v2 q4 (j1_0 q0))) (j7_2_1 (j1_0 q0) (j7_2_1 (j1_0 q0) (0 : Int64) (v2 q2 (j1_0 q0))) (v2 q4 (j1_0 q0))) (v2 q2 (j1_0 q0))) + ((j10_2_0 (j13_2_1 (j1_0 q0) (j7_2_1 (j1_0 q0) (j7_2_1 (j1_0 q0) (0 : Int64) (v2 q2 (j1_0 q0))) (v2 q4 (j1_0 q0))) (v2 q2 (j1_0 q0)))).toInt64))) ((j13_2_2 (j7_2_2 (j1_0 q1) (j7_2_2 (j1_0 q1) (0 : Int64) (0 : Int64) (v2 q3 (j1_0 q1))) (j7_2_3 (j1_0 q1) (0 : Int64) (v2 q3 (j1_0 q1))) (v2 q5 (j1_0 q1))) (j7_2_3 (j1_0 q1) (j7_2_3 (j1_0 q1) (0 : Int64) (v2 q3 (j1_0 q1))) (v2 q5 (j1_0 q1))) (v2 q3 (j1_0 q1))) + ((j10_2_1 (j13_2_3 (j1_0 q1) (j7_2_3 (j1_0 q1) (j7_2_3 (j1_0 q1) (0 : Int64) (v2 q3 (j1_0 q1))) (v2 q5 (j1_0 q1))) (v2 q3 (j1_0 q1)))).toInt64))))])) _
      refine XS.lload X1012.here hx rfl (hb hby at_201) rfl ?_
      show Steps p.tables e below (T1012.setTop (mkF m 203 #[.val (.long q0), .second, .val (.long q1), .second, .val (.long q2), .second, .val (.long q3), .second, .val (.long q4), .second, .val (.long q5), .second, .val (.long (j1_0 q0)), .second, .val (.long (j1_0 q1)), .second, .val (.long (v2 q2 (j1_0 q0))), .second, .val (.long (v2 q3 (j1_0 q1))), .second, .val (.long (v2 q4 (j1_0 q0))), .second, .val (.long (v2 q5 (j1_0 q1))), .second, .val (.ref b832), .val (.ref b848), .val (.ref b871), .val (.ref b901), .val (.long (j11_0 (j11_0 (0 : Int64) ((j7_2_0 (j1_0 q0) (j7_2_0 (j1_0 q0) (0 : Int64) (0 : Int64) (v2 q2 (j1_0 q0))) (j7_2_1 (j1_0 q0) (0 : Int64) (v2 q2 (j1_0 q0))) (v2 q4 (j1_0 q0))) + ((j10_2_0 (j7_2_1 (j1_0 q0) (j7_2_1 (j1_0 q0) (0 : Int64) (v2 q2 (j1_0 q0))) (v2 q4 (j1_0 q0)))).toInt64))) ((j7_2_2 (j1_0 q1) (j7_2_2 (j1_0 q1) (0 : Int64) (0 : Int64) (v2 q3 (j1_0 q1))) (j7_2_3 (j1_0 q1) (0 : Int64) (v2 q3 (j1_0 q1))) (v2 q5 (j1_0 q1))) + ((j10_2_1 (j7_2_3 (j1_0 q1) (j7_2_3 (j1_0 q1) (0 : Int64) (v2 q3 (j1_0 q1))) (v2 q5 (j1_0 q1)))).toInt64)))), .second, .val (.long (j11_0 (v12 (v2 q2 (j1_0 q0)) (v2 q4 (j1_0 q0)) (j1_0 q0)) (v12 (v2 q3 (j1_0 q1)) (v2 q5 (j1_0 q1)) (j1_0 q1)))), .second, .val (.long (j11_0 (j11_0 (0 : Int64) ((j13_2_0 (j7_2_0 (j1_0 q0) (j7_2_0 (j1_0 q0) (0 : Int64) (0 : Int64) (v2 q2 (j1_0 q0))) (j7_2_1 (j1_0 q0) (0 : Int64) (v2 q2 (j1_0 q0))) (v2 q4 (j1_0 q0))) (j7_2_1 (j1_0 q0) (j7_2_1 (j1_0 q0) (0 : Int64) (v2 q2 (j1_0 q0))) (v2 q4 (j1_0 q0))) (v2 q2 (j1_0 q0))) + ((j10_2_0 (j13_2_1 (j1_0 q0) (j7_2_1 (j1_0 q0) (j7_2_1 (j1_0 q0) (0 : Int64) (v2 q2 (j1_0 q0))) (v2 q4 (j1_0 q0))) (v2 q2 (j1_0 q0)))).toInt64))) ((j13_2_2 (j7_2_2 (j1_0 q1) (j7_2_2 (j1_0 q1) (0 : Int64) (0 : Int64) (v2 q3 (j1_0 q1))) (j7_2_3 (j1_0 q1) (0 : Int64) (v2 q3 (j1_0 q1))) (v2 q5 (j1_0 q1))) (j7_2_3 (j1_0 q1) (j7_2_3 (j1_0 q1) (0 : Int64) (v2 q3 (j1_0 q1))) (v2 q5 (j1_0 q1))) (v2 q3 (j1_0 q1))) + ((j10_2_1 (j13_2_3 (j1_0 q1) (j7_2_3 (j1_0 q1) (j7_2_3 (j1_0 q1) (0 : Int64) (v2 q3 (j1_0 q1))) (v2 q5 (j1_0 q1))) (v2 q3 (j1_0 q1)))).toInt64)))), .second, .val (.long (j11_0 (j0_0 q0 q4) (j0_1 q1 q5))), .second] [(.long (j11_0 (j0_0 q0 q4) (j0_1 q1 q5))), (.long (j11_0 (j11_0 (0 : Int64) ((j13_2_0 (j7_2_0 (j1_0 q0) (j7_2_0 (j1_0 q0) (0 : Int64) (0 : Int64) (v2 q2 (j1_0 q0))) (j7_2_1 (j1_0 q0) (0 : Int64) (v2 q2 (j1_0 q0))) (v2 q4 (j1_0 q0))) (j7_2_1 (j1_0 q0) (j7_2_1 (j1_0 q0) (0 : Int64) (v2 q2 (j1_0 q0))) (v2 q4 (j1_0 q0))) (v2 q2 (j1_0 q0))) + ((j10_2_0 (j13_2_1 (j1_0 q0) (j7_2_1 (j1_0 q0) (j7_2_1 (j1_0 q0) (0 : Int64) (v2 q2 (j1_0 q0))) (v2 q4 (j1_0 q0))) (v2 q2 (j1_0 q0)))).toInt64))) ((j13_2_2 (j7_2_2 (j1_0 q1) (j7_2_2 (j1_0 q1) (0 : Int64) (0 : Int64) (v2 q3 (j1_0 q1))) (j7_2_3 (j1_0 q1) (0 : Int64) (v2 q3 (j1_0 q1))) (v2 q5 (j1_0 q1))) (j7_2_3 (j1_0 q1) (j7_2_3 (j1_0 q1) (0 : Int64) (v2 q3 (j1_0 q1))) (v2 q5 (j1_0 q1))) (v2 q3 (j1_0 q1))) + ((j10_2_1 (j13_2_3 (j1_0 q1) (j7_2_3 (j1_0 q1) (j7_2_3 (j1_0 q1) (0 : Int64) (v2 q3 (j1_0 q1))) (v2 q5 (j1_0 q1))) (v2 q3 (j1_0 q1)))).toInt64))))])) _
      refine XS.lcmp X1012.here hx rfl (hb hby at_203) rfl ?_
      by_cases hc1018 : (j11_0 (j11_0 (0 : Int64) ((j13_2_0 (j7_2_0 (j1_0 q0) (j7_2_0 (j1_0 q0) (0 : Int64) (0 : Int64) (v2 q2 (j1_0 q0))) (j7_2_1 (j1_0 q0) (0 : Int64) (v2 q2 (j1_0 q0))) (v2 q4 (j1_0 q0))) (j7_2_1 (j1_0 q0) (j7_2_1 (j1_0 q0) (0 : Int64) (v2 q2 (j1_0 q0))) (v2 q4 (j1_0 q0))) (v2 q2 (j1_0 q0))) + ((j10_2_0 (j13_2_1 (j1_0 q0) (j7_2_1 (j1_0 q0) (j7_2_1 (j1_0 q0) (0 : Int64) (v2 q2 (j1_0 q0))) (v2 q4 (j1_0 q0))) (v2 q2 (j1_0 q0)))).toInt64))) ((j13_2_2 (j7_2_2 (j1_0 q1) (j7_2_2 (j1_0 q1) (0 : Int64) (0 : Int64) (v2 q3 (j1_0 q1))) (j7_2_3 (j1_0 q1) (0 : Int64) (v2 q3 (j1_0 q1))) (v2 q5 (j1_0 q1))) (j7_2_3 (j1_0 q1) (j7_2_3 (j1_0 q1) (0 : Int64) (v2 q3 (j1_0 q1))) (v2 q5 (j1_0 q1))) (v2 q3 (j1_0 q1))) + ((j10_2_1 (j13_2_3 (j1_0 q1) (j7_2_3 (j1_0 q1) (j7_2_3 (j1_0 q1) (0 : Int64) (v2 q3 (j1_0 q1))) (v2 q5 (j1_0 q1))) (v2 q3 (j1_0 q1)))).toInt64))) = (j11_0 (j0_0 q0 q4) (j0_1 q1 q5))
      · skip
        show Steps p.tables e below (T1012.setTop (mkF m 204 #[.val (.long q0), .second, .val (.long q1), .second, .val (.long q2), .second, .val (.long q3), .second, .val (.long q4), .second, .val (.long q5), .second, .val (.long (j1_0 q0)), .second, .val (.long (j1_0 q1)), .second, .val (.long (v2 q2 (j1_0 q0))), .second, .val (.long (v2 q3 (j1_0 q1))), .second, .val (.long (v2 q4 (j1_0 q0))), .second, .val (.long (v2 q5 (j1_0 q1))), .second, .val (.ref b832), .val (.ref b848), .val (.ref b871), .val (.ref b901), .val (.long (j11_0 (j11_0 (0 : Int64) ((j7_2_0 (j1_0 q0) (j7_2_0 (j1_0 q0) (0 : Int64) (0 : Int64) (v2 q2 (j1_0 q0))) (j7_2_1 (j1_0 q0) (0 : Int64) (v2 q2 (j1_0 q0))) (v2 q4 (j1_0 q0))) + ((j10_2_0 (j7_2_1 (j1_0 q0) (j7_2_1 (j1_0 q0) (0 : Int64) (v2 q2 (j1_0 q0))) (v2 q4 (j1_0 q0)))).toInt64))) ((j7_2_2 (j1_0 q1) (j7_2_2 (j1_0 q1) (0 : Int64) (0 : Int64) (v2 q3 (j1_0 q1))) (j7_2_3 (j1_0 q1) (0 : Int64) (v2 q3 (j1_0 q1))) (v2 q5 (j1_0 q1))) + ((j10_2_1 (j7_2_3 (j1_0 q1) (j7_2_3 (j1_0 q1) (0 : Int64) (v2 q3 (j1_0 q1))) (v2 q5 (j1_0 q1)))).toInt64)))), .second, .val (.long (j11_0 (v12 (v2 q2 (j1_0 q0)) (v2 q4 (j1_0 q0)) (j1_0 q0)) (v12 (v2 q3 (j1_0 q1)) (v2 q5 (j1_0 q1)) (j1_0 q1)))), .second, .val (.long (j11_0 (j11_0 (0 : Int64) ((j13_2_0 (j7_2_0 (j1_0 q0) (j7_2_0 (j1_0 q0) (0 : Int64) (0 : Int64) (v2 q2 (j1_0 q0))) (j7_2_1 (j1_0 q0) (0 : Int64) (v2 q2 (j1_0 q0))) (v2 q4 (j1_0 q0))) (j7_2_1 (j1_0 q0) (j7_2_1 (j1_0 q0) (0 : Int64) (v2 q2 (j1_0 q0))) (v2 q4 (j1_0 q0))) (v2 q2 (j1_0 q0))) + ((j10_2_0 (j13_2_1 (j1_0 q0) (j7_2_1 (j1_0 q0) (j7_2_1 (j1_0 q0) (0 : Int64) (v2 q2 (j1_0 q0))) (v2 q4 (j1_0 q0))) (v2 q2 (j1_0 q0)))).toInt64))) ((j13_2_2 (j7_2_2 (j1_0 q1) (j7_2_2 (j1_0 q1) (0 : Int64) (0 : Int64) (v2 q3 (j1_0 q1))) (j7_2_3 (j1_0 q1) (0 : Int64) (v2 q3 (j1_0 q1))) (v2 q5 (j1_0 q1))) (j7_2_3 (j1_0 q1) (j7_2_3 (j1_0 q1) (0 : Int64) (v2 q3 (j1_0 q1))) (v2 q5 (j1_0 q1))) (v2 q3 (j1_0 q1))) + ((j10_2_1 (j13_2_3 (j1_0 q1) (j7_2_3 (j1_0 q1) (j7_2_3 (j1_0 q1) (0 : Int64) (v2 q3 (j1_0 q1))) (v2 q5 (j1_0 q1))) (v2 q3 (j1_0 q1)))).toInt64)))), .second, .val (.long (j11_0 (j0_0 q0 q4) (j0_1 q1 q5))), .second] [(.int (lcmpW (j11_0 (j11_0 (0 : Int64) ((j13_2_0 (j7_2_0 (j1_0 q0) (j7_2_0 (j1_0 q0) (0 : Int64) (0 : Int64) (v2 q2 (j1_0 q0))) (j7_2_1 (j1_0 q0) (0 : Int64) (v2 q2 (j1_0 q0))) (v2 q4 (j1_0 q0))) (j7_2_1 (j1_0 q0) (j7_2_1 (j1_0 q0) (0 : Int64) (v2 q2 (j1_0 q0))) (v2 q4 (j1_0 q0))) (v2 q2 (j1_0 q0))) + ((j10_2_0 (j13_2_1 (j1_0 q0) (j7_2_1 (j1_0 q0) (j7_2_1 (j1_0 q0) (0 : Int64) (v2 q2 (j1_0 q0))) (v2 q4 (j1_0 q0))) (v2 q2 (j1_0 q0)))).toInt64))) ((j13_2_2 (j7_2_2 (j1_0 q1) (j7_2_2 (j1_0 q1) (0 : Int64) (0 : Int64) (v2 q3 (j1_0 q1))) (j7_2_3 (j1_0 q1) (0 : Int64) (v2 q3 (j1_0 q1))) (v2 q5 (j1_0 q1))) (j7_2_3 (j1_0 q1) (j7_2_3 (j1_0 q1) (0 : Int64) (v2 q3 (j1_0 q1))) (v2 q5 (j1_0 q1))) (v2 q3 (j1_0 q1))) + ((j10_2_1 (j13_2_3 (j1_0 q1) (j7_2_3 (j1_0 q1) (j7_2_3 (j1_0 q1) (0 : Int64) (v2 q3 (j1_0 q1))) (v2 q5 (j1_0 q1))) (v2 q3 (j1_0 q1)))).toInt64))) (j11_0 (j0_0 q0 q4) (j0_1 q1 q5))))])) _
        refine XS.ifNo X1012.here hx rfl (hb hby at_204) rfl ((if0 _ _).trans (teq ((own_eq (j11_0 (j11_0 (0 : Int64) ((j13_2_0 (j7_2_0 (j1_0 q0) (j7_2_0 (j1_0 q0) (0 : Int64) (0 : Int64) (v2 q2 (j1_0 q0))) (j7_2_1 (j1_0 q0) (0 : Int64) (v2 q2 (j1_0 q0))) (v2 q4 (j1_0 q0))) (j7_2_1 (j1_0 q0) (j7_2_1 (j1_0 q0) (0 : Int64) (v2 q2 (j1_0 q0))) (v2 q4 (j1_0 q0))) (v2 q2 (j1_0 q0))) + ((j10_2_0 (j13_2_1 (j1_0 q0) (j7_2_1 (j1_0 q0) (j7_2_1 (j1_0 q0) (0 : Int64) (v2 q2 (j1_0 q0))) (v2 q4 (j1_0 q0))) (v2 q2 (j1_0 q0)))).toInt64))) ((j13_2_2 (j7_2_2 (j1_0 q1) (j7_2_2 (j1_0 q1) (0 : Int64) (0 : Int64) (v2 q3 (j1_0 q1))) (j7_2_3 (j1_0 q1) (0 : Int64) (v2 q3 (j1_0 q1))) (v2 q5 (j1_0 q1))) (j7_2_3 (j1_0 q1) (j7_2_3 (j1_0 q1) (0 : Int64) (v2 q3 (j1_0 q1))) (v2 q5 (j1_0 q1))) (v2 q3 (j1_0 q1))) + ((j10_2_1 (j13_2_3 (j1_0 q1) (j7_2_3 (j1_0 q1) (j7_2_3 (j1_0 q1) (0 : Int64) (v2 q3 (j1_0 q1))) (v2 q5 (j1_0 q1))) (v2 q3 (j1_0 q1)))).toInt64))) (j11_0 (j0_0 q0 q4) (j0_1 q1 q5))).mpr hc1018)).2) ?_
        show Steps p.tables e below (T1012.setTop (mkF m 207 #[.val (.long q0), .second, .val (.long q1), .second, .val (.long q2), .second, .val (.long q3), .second, .val (.long q4), .second, .val (.long q5), .second, .val (.long (j1_0 q0)), .second, .val (.long (j1_0 q1)), .second, .val (.long (v2 q2 (j1_0 q0))), .second, .val (.long (v2 q3 (j1_0 q1))), .second, .val (.long (v2 q4 (j1_0 q0))), .second, .val (.long (v2 q5 (j1_0 q1))), .second, .val (.ref b832), .val (.ref b848), .val (.ref b871), .val (.ref b901), .val (.long (j11_0 (j11_0 (0 : Int64) ((j7_2_0 (j1_0 q0) (j7_2_0 (j1_0 q0) (0 : Int64) (0 : Int64) (v2 q2 (j1_0 q0))) (j7_2_1 (j1_0 q0) (0 : Int64) (v2 q2 (j1_0 q0))) (v2 q4 (j1_0 q0))) + ((j10_2_0 (j7_2_1 (j1_0 q0) (j7_2_1 (j1_0 q0) (0 : Int64) (v2 q2 (j1_0 q0))) (v2 q4 (j1_0 q0)))).toInt64))) ((j7_2_2 (j1_0 q1) (j7_2_2 (j1_0 q1) (0 : Int64) (0 : Int64) (v2 q3 (j1_0 q1))) (j7_2_3 (j1_0 q1) (0 : Int64) (v2 q3 (j1_0 q1))) (v2 q5 (j1_0 q1))) + ((j10_2_1 (j7_2_3 (j1_0 q1) (j7_2_3 (j1_0 q1) (0 : Int64) (v2 q3 (j1_0 q1))) (v2 q5 (j1_0 q1)))).toInt64)))), .second, .val (.long (j11_0 (v12 (v2 q2 (j1_0 q0)) (v2 q4 (j1_0 q0)) (j1_0 q0)) (v12 (v2 q3 (j1_0 q1)) (v2 q5 (j1_0 q1)) (j1_0 q1)))), .second, .val (.long (j11_0 (j11_0 (0 : Int64) ((j13_2_0 (j7_2_0 (j1_0 q0) (j7_2_0 (j1_0 q0) (0 : Int64) (0 : Int64) (v2 q2 (j1_0 q0))) (j7_2_1 (j1_0 q0) (0 : Int64) (v2 q2 (j1_0 q0))) (v2 q4 (j1_0 q0))) (j7_2_1 (j1_0 q0) (j7_2_1 (j1_0 q0) (0 : Int64) (v2 q2 (j1_0 q0))) (v2 q4 (j1_0 q0))) (v2 q2 (j1_0 q0))) + ((j10_2_0 (j13_2_1 (j1_0 q0) (j7_2_1 (j1_0 q0) (j7_2_1 (j1_0 q0) (0 : Int64) (v2 q2 (j1_0 q0))) (v2 q4 (j1_0 q0))) (v2 q2 (j1_0 q0)))).toInt64))) ((j13_2_2 (j7_2_2 (j1_0 q1) (j7_2_2 (j1_0 q1) (0 : Int64) (0 : Int64) (v2 q3 (j1_0 q1))) (j7_2_3 (j1_0 q1) (0 : Int64) (v2 q3 (j1_0 q1))) (v2 q5 (j1_0 q1))) (j7_2_3 (j1_0 q1) (j7_2_3 (j1_0 q1) (0 : Int64) (v2 q3 (j1_0 q1))) (v2 q5 (j1_0 q1))) (v2 q3 (j1_0 q1))) + ((j10_2_1 (j13_2_3 (j1_0 q1) (j7_2_3 (j1_0 q1) (j7_2_3 (j1_0 q1) (0 : Int64) (v2 q3 (j1_0 q1))) (v2 q5 (j1_0 q1))) (v2 q3 (j1_0 q1)))).toInt64)))), .second, .val (.long (j11_0 (j0_0 q0 q4) (j0_1 q1 q5))), .second] [])) _
        refine XS.iconst X1012.here hx rfl (hb hby at_207) ?_
        show Steps p.tables e below (T1012.setTop (mkF m 208 #[.val (.long q0), .second, .val (.long q1), .second, .val (.long q2), .second, .val (.long q3), .second, .val (.long q4), .second, .val (.long q5), .second, .val (.long (j1_0 q0)), .second, .val (.long (j1_0 q1)), .second, .val (.long (v2 q2 (j1_0 q0))), .second, .val (.long (v2 q3 (j1_0 q1))), .second, .val (.long (v2 q4 (j1_0 q0))), .second, .val (.long (v2 q5 (j1_0 q1))), .second, .val (.ref b832), .val (.ref b848), .val (.ref b871), .val (.ref b901), .val (.long (j11_0 (j11_0 (0 : Int64) ((j7_2_0 (j1_0 q0) (j7_2_0 (j1_0 q0) (0 : Int64) (0 : Int64) (v2 q2 (j1_0 q0))) (j7_2_1 (j1_0 q0) (0 : Int64) (v2 q2 (j1_0 q0))) (v2 q4 (j1_0 q0))) + ((j10_2_0 (j7_2_1 (j1_0 q0) (j7_2_1 (j1_0 q0) (0 : Int64) (v2 q2 (j1_0 q0))) (v2 q4 (j1_0 q0)))).toInt64))) ((j7_2_2 (j1_0 q1) (j7_2_2 (j1_0 q1) (0 : Int64) (0 : Int64) (v2 q3 (j1_0 q1))) (j7_2_3 (j1_0 q1) (0 : Int64) (v2 q3 (j1_0 q1))) (v2 q5 (j1_0 q1))) + ((j10_2_1 (j7_2_3 (j1_0 q1) (j7_2_3 (j1_0 q1) (0 : Int64) (v2 q3 (j1_0 q1))) (v2 q5 (j1_0 q1)))).toInt64)))), .second, .val (.long (j11_0 (v12 (v2 q2 (j1_0 q0)) (v2 q4 (j1_0 q0)) (j1_0 q0)) (v12 (v2 q3 (j1_0 q1)) (v2 q5 (j1_0 q1)) (j1_0 q1)))), .second, .val (.long (j11_0 (j11_0 (0 : Int64) ((j13_2_0 (j7_2_0 (j1_0 q0) (j7_2_0 (j1_0 q0) (0 : Int64) (0 : Int64) (v2 q2 (j1_0 q0))) (j7_2_1 (j1_0 q0) (0 : Int64) (v2 q2 (j1_0 q0))) (v2 q4 (j1_0 q0))) (j7_2_1 (j1_0 q0) (j7_2_1 (j1_0 q0) (0 : Int64) (v2 q2 (j1_0 q0))) (v2 q4 (j1_0 q0))) (v2 q2 (j1_0 q0))) + ((j10_2_0 (j13_2_1 (j1_0 q0) (j7_2_1 (j1_0 q0) (j7_2_1 (j1_0 q0) (0 : Int64) (v2 q2 (j1_0 q0))) (v2 q4 (j1_0 q0))) (v2 q2 (j1_0 q0)))).toInt64))) ((j13_2_2 (j7_2_2 (j1_0 q1) (j7_2_2 (j1_0 q1) (0 : Int64) (0 : Int64) (v2 q3 (j1_0 q1))) (j7_2_3 (j1_0 q1) (0 : Int64) (v2 q3 (j1_0 q1))) (v2 q5 (j1_0 q1))) (j7_2_3 (j1_0 q1) (j7_2_3 (j1_0 q1) (0 : Int64) (v2 q3 (j1_0 q1))) (v2 q5 (j1_0 q1))) (v2 q3 (j1_0 q1))) + ((j10_2_1 (j13_2_3 (j1_0 q1) (j7_2_3 (j1_0 q1) (j7_2_3 (j1_0 q1) (0 : Int64) (v2 q3 (j1_0 q1))) (v2 q5 (j1_0 q1))) (v2 q3 (j1_0 q1)))).toInt64)))), .second, .val (.long (j11_0 (j0_0 q0 q4) (j0_1 q1 q5))), .second] [(.int (1 : Int32))])) _
        refine XS.goto X1012.here hx rfl (pc0 := 208) (pc' := 212) rfl (hb hby at_208) (by decide) (by decide) ?_
        have hj1019 : (j0_2 q0 q1 q2 q3 q4 q5) = (1 : Int32) := by unfold j0_2; first | (rw [if_pos hc1017, if_pos hc1018]) | (simp only [if_pos hc1017, if_pos hc1018])
        rw [hj1019] at k
        exact k
      · skip
        show Steps p.tables e below (T1012.setTop (mkF m 204 #[.val (.long q0), .second, .val (.long q1), .second, .val (.long q2), .second, .val (.long q3), .second, .val (.long q4), .second, .val (.long q5), .second, .val (.long (j1_0 q0)), .second, .val (.long (j1_0 q1)), .second, .val (.long (v2 q2 (j1_0 q0))), .second, .val (.long (v2 q3 (j1_0 q1))), .second, .val (.long (v2 q4 (j1_0 q0))), .second, .val (.long (v2 q5 (j1_0 q1))), .second, .val (.ref b832), .val (.ref b848), .val (.ref b871), .val (.ref b901), .val (.long (j11_0 (j11_0 (0 : Int64) ((j7_2_0 (j1_0 q0) (j7_2_0 (j1_0 q0) (0 : Int64) (0 : Int64) (v2 q2 (j1_0 q0))) (j7_2_1 (j1_0 q0) (0 : Int64) (v2 q2 (j1_0 q0))) (v2 q4 (j1_0 q0))) + ((j10_2_0 (j7_2_1 (j1_0 q0) (j7_2_1 (j1_0 q0) (0 : Int64) (v2 q2 (j1_0 q0))) (v2 q4 (j1_0 q0)))).toInt64))) ((j7_2_2 (j1_0 q1) (j7_2_2 (j1_0 q1) (0 : Int64) (0 : Int64) (v2 q3 (j1_0 q1))) (j7_2_3 (j1_0 q1) (0 : Int64) (v2 q3 (j1_0 q1))) (v2 q5 (j1_0 q1))) + ((j10_2_1 (j7_2_3 (j1_0 q1) (j7_2_3 (j1_0 q1) (0 : Int64) (v2 q3 (j1_0 q1))) (v2 q5 (j1_0 q1)))).toInt64)))), .second, .val (.long (j11_0 (v12 (v2 q2 (j1_0 q0)) (v2 q4 (j1_0 q0)) (j1_0 q0)) (v12 (v2 q3 (j1_0 q1)) (v2 q5 (j1_0 q1)) (j1_0 q1)))), .second, .val (.long (j11_0 (j11_0 (0 : Int64) ((j13_2_0 (j7_2_0 (j1_0 q0) (j7_2_0 (j1_0 q0) (0 : Int64) (0 : Int64) (v2 q2 (j1_0 q0))) (j7_2_1 (j1_0 q0) (0 : Int64) (v2 q2 (j1_0 q0))) (v2 q4 (j1_0 q0))) (j7_2_1 (j1_0 q0) (j7_2_1 (j1_0 q0) (0 : Int64) (v2 q2 (j1_0 q0))) (v2 q4 (j1_0 q0))) (v2 q2 (j1_0 q0))) + ((j10_2_0 (j13_2_1 (j1_0 q0) (j7_2_1 (j1_0 q0) (j7_2_1 (j1_0 q0) (0 : Int64) (v2 q2 (j1_0 q0))) (v2 q4 (j1_0 q0))) (v2 q2 (j1_0 q0)))).toInt64))) ((j13_2_2 (j7_2_2 (j1_0 q1) (j7_2_2 (j1_0 q1) (0 : Int64) (0 : Int64) (v2 q3 (j1_0 q1))) (j7_2_3 (j1_0 q1) (0 : Int64) (v2 q3 (j1_0 q1))) (v2 q5 (j1_0 q1))) (j7_2_3 (j1_0 q1) (j7_2_3 (j1_0 q1) (0 : Int64) (v2 q3 (j1_0 q1))) (v2 q5 (j1_0 q1))) (v2 q3 (j1_0 q1))) + ((j10_2_1 (j13_2_3 (j1_0 q1) (j7_2_3 (j1_0 q1) (j7_2_3 (j1_0 q1) (0 : Int64) (v2 q3 (j1_0 q1))) (v2 q5 (j1_0 q1))) (v2 q3 (j1_0 q1)))).toInt64)))), .second, .val (.long (j11_0 (j0_0 q0 q4) (j0_1 q1 q5))), .second] [(.int (lcmpW (j11_0 (j11_0 (0 : Int64) ((j13_2_0 (j7_2_0 (j1_0 q0) (j7_2_0 (j1_0 q0) (0 : Int64) (0 : Int64) (v2 q2 (j1_0 q0))) (j7_2_1 (j1_0 q0) (0 : Int64) (v2 q2 (j1_0 q0))) (v2 q4 (j1_0 q0))) (j7_2_1 (j1_0 q0) (j7_2_1 (j1_0 q0) (0 : Int64) (v2 q2 (j1_0 q0))) (v2 q4 (j1_0 q0))) (v2 q2 (j1_0 q0))) + ((j10_2_0 (j13_2_1 (j1_0 q0) (j7_2_1 (j1_0 q0) (j7_2_1 (j1_0 q0) (0 : Int64) (v2 q2 (j1_0 q0))) (v2 q4 (j1_0 q0))) (v2 q2 (j1_0 q0)))).toInt64))) ((j13_2_2 (j7_2_2 (j1_0 q1) (j7_2_2 (j1_0 q1) (0 : Int64) (0 : Int64) (v2 q3 (j1_0 q1))) (j7_2_3 (j1_0 q1) (0 : Int64) (v2 q3 (j1_0 q1))) (v2 q5 (j1_0 q1))) (j7_2_3 (j1_0 q1) (j7_2_3 (j1_0 q1) (0 : Int64) (v2 q3 (j1_0 q1))) (v2 q5 (j1_0 q1))) (v2 q3 (j1_0 q1))) + ((j10_2_1 (j13_2_3 (j1_0 q1) (j7_2_3 (j1_0 q1) (j7_2_3 (j1_0 q1) (0 : Int64) (v2 q3 (j1_0 q1))) (v2 q5 (j1_0 q1))) (v2 q3 (j1_0 q1)))).toInt64))) (j11_0 (j0_0 q0 q4) (j0_1 q1 q5))))])) _
        refine XS.ifYes X1012.here hx rfl (pc0 := 204) (pc' := 211) rfl (hb hby at_204) rfl ((if0 _ _).trans (feq (mt (own_eq (j11_0 (j11_0 (0 : Int64) ((j13_2_0 (j7_2_0 (j1_0 q0) (j7_2_0 (j1_0 q0) (0 : Int64) (0 : Int64) (v2 q2 (j1_0 q0))) (j7_2_1 (j1_0 q0) (0 : Int64) (v2 q2 (j1_0 q0))) (v2 q4 (j1_0 q0))) (j7_2_1 (j1_0 q0) (j7_2_1 (j1_0 q0) (0 : Int64) (v2 q2 (j1_0 q0))) (v2 q4 (j1_0 q0))) (v2 q2 (j1_0 q0))) + ((j10_2_0 (j13_2_1 (j1_0 q0) (j7_2_1 (j1_0 q0) (j7_2_1 (j1_0 q0) (0 : Int64) (v2 q2 (j1_0 q0))) (v2 q4 (j1_0 q0))) (v2 q2 (j1_0 q0)))).toInt64))) ((j13_2_2 (j7_2_2 (j1_0 q1) (j7_2_2 (j1_0 q1) (0 : Int64) (0 : Int64) (v2 q3 (j1_0 q1))) (j7_2_3 (j1_0 q1) (0 : Int64) (v2 q3 (j1_0 q1))) (v2 q5 (j1_0 q1))) (j7_2_3 (j1_0 q1) (j7_2_3 (j1_0 q1) (0 : Int64) (v2 q3 (j1_0 q1))) (v2 q5 (j1_0 q1))) (v2 q3 (j1_0 q1))) + ((j10_2_1 (j13_2_3 (j1_0 q1) (j7_2_3 (j1_0 q1) (j7_2_3 (j1_0 q1) (0 : Int64) (v2 q3 (j1_0 q1))) (v2 q5 (j1_0 q1))) (v2 q3 (j1_0 q1)))).toInt64))) (j11_0 (j0_0 q0 q4) (j0_1 q1 q5))).mp hc1018)).2) (by decide) (by decide) ?_
        show Steps p.tables e below (T1012.setTop (mkF m 211 #[.val (.long q0), .second, .val (.long q1), .second, .val (.long q2), .second, .val (.long q3), .second, .val (.long q4), .second, .val (.long q5), .second, .val (.long (j1_0 q0)), .second, .val (.long (j1_0 q1)), .second, .val (.long (v2 q2 (j1_0 q0))), .second, .val (.long (v2 q3 (j1_0 q1))), .second, .val (.long (v2 q4 (j1_0 q0))), .second, .val (.long (v2 q5 (j1_0 q1))), .second, .val (.ref b832), .val (.ref b848), .val (.ref b871), .val (.ref b901), .val (.long (j11_0 (j11_0 (0 : Int64) ((j7_2_0 (j1_0 q0) (j7_2_0 (j1_0 q0) (0 : Int64) (0 : Int64) (v2 q2 (j1_0 q0))) (j7_2_1 (j1_0 q0) (0 : Int64) (v2 q2 (j1_0 q0))) (v2 q4 (j1_0 q0))) + ((j10_2_0 (j7_2_1 (j1_0 q0) (j7_2_1 (j1_0 q0) (0 : Int64) (v2 q2 (j1_0 q0))) (v2 q4 (j1_0 q0)))).toInt64))) ((j7_2_2 (j1_0 q1) (j7_2_2 (j1_0 q1) (0 : Int64) (0 : Int64) (v2 q3 (j1_0 q1))) (j7_2_3 (j1_0 q1) (0 : Int64) (v2 q3 (j1_0 q1))) (v2 q5 (j1_0 q1))) + ((j10_2_1 (j7_2_3 (j1_0 q1) (j7_2_3 (j1_0 q1) (0 : Int64) (v2 q3 (j1_0 q1))) (v2 q5 (j1_0 q1)))).toInt64)))), .second, .val (.long (j11_0 (v12 (v2 q2 (j1_0 q0)) (v2 q4 (j1_0 q0)) (j1_0 q0)) (v12 (v2 q3 (j1_0 q1)) (v2 q5 (j1_0 q1)) (j1_0 q1)))), .second, .val (.long (j11_0 (j11_0 (0 : Int64) ((j13_2_0 (j7_2_0 (j1_0 q0) (j7_2_0 (j1_0 q0) (0 : Int64) (0 : Int64) (v2 q2 (j1_0 q0))) (j7_2_1 (j1_0 q0) (0 : Int64) (v2 q2 (j1_0 q0))) (v2 q4 (j1_0 q0))) (j7_2_1 (j1_0 q0) (j7_2_1 (j1_0 q0) (0 : Int64) (v2 q2 (j1_0 q0))) (v2 q4 (j1_0 q0))) (v2 q2 (j1_0 q0))) + ((j10_2_0 (j13_2_1 (j1_0 q0) (j7_2_1 (j1_0 q0) (j7_2_1 (j1_0 q0) (0 : Int64) (v2 q2 (j1_0 q0))) (v2 q4 (j1_0 q0))) (v2 q2 (j1_0 q0)))).toInt64))) ((j13_2_2 (j7_2_2 (j1_0 q1) (j7_2_2 (j1_0 q1) (0 : Int64) (0 : Int64) (v2 q3 (j1_0 q1))) (j7_2_3 (j1_0 q1) (0 : Int64) (v2 q3 (j1_0 q1))) (v2 q5 (j1_0 q1))) (j7_2_3 (j1_0 q1) (j7_2_3 (j1_0 q1) (0 : Int64) (v2 q3 (j1_0 q1))) (v2 q5 (j1_0 q1))) (v2 q3 (j1_0 q1))) + ((j10_2_1 (j13_2_3 (j1_0 q1) (j7_2_3 (j1_0 q1) (j7_2_3 (j1_0 q1) (0 : Int64) (v2 q3 (j1_0 q1))) (v2 q5 (j1_0 q1))) (v2 q3 (j1_0 q1)))).toInt64)))), .second, .val (.long (j11_0 (j0_0 q0 q4) (j0_1 q1 q5))), .second] [])) _
        refine XS.iconst X1012.here hx rfl (hb hby at_211) ?_
        have hj1020 : (j0_2 q0 q1 q2 q3 q4 q5) = (0 : Int32) := by unfold j0_2; first | (rw [if_pos hc1017, if_neg hc1018]) | (simp only [if_pos hc1017, if_neg hc1018])
        rw [hj1020] at k
        exact k
    · skip
      show Steps p.tables e below (T1012.setTop (mkF m 196 #[.val (.long q0), .second, .val (.long q1), .second, .val (.long q2), .second, .val (.long q3), .second, .val (.long q4), .second, .val (.long q5), .second, .val (.long (j1_0 q0)), .second, .val (.long (j1_0 q1)), .second, .val (.long (v2 q2 (j1_0 q0))), .second, .val (.long (v2 q3 (j1_0 q1))), .second, .val (.long (v2 q4 (j1_0 q0))), .second, .val (.long (v2 q5 (j1_0 q1))), .second, .val (.ref b832), .val (.ref b848), .val (.ref b871), .val (.ref b901), .val (.long (j11_0 (j11_0 (0 : Int64) ((j7_2_0 (j1_0 q0) (j7_2_0 (j1_0 q0) (0 : Int64) (0 : Int64) (v2 q2 (j1_0 q0))) (j7_2_1 (j1_0 q0) (0 : Int64) (v2 q2 (j1_0 q0))) (v2 q4 (j1_0 q0))) + ((j10_2_0 (j7_2_1 (j1_0 q0) (j7_2_1 (j1_0 q0) (0 : Int64) (v2 q2 (j1_0 q0))) (v2 q4 (j1_0 q0)))).toInt64))) ((j7_2_2 (j1_0 q1) (j7_2_2 (j1_0 q1) (0 : Int64) (0 : Int64) (v2 q3 (j1_0 q1))) (j7_2_3 (j1_0 q1) (0 : Int64) (v2 q3 (j1_0 q1))) (v2 q5 (j1_0 q1))) + ((j10_2_1 (j7_2_3 (j1_0 q1) (j7_2_3 (j1_0 q1) (0 : Int64) (v2 q3 (j1_0 q1))) (v2 q5 (j1_0 q1)))).toInt64)))), .second, .val (.long (j11_0 (v12 (v2 q2 (j1_0 q0)) (v2 q4 (j1_0 q0)) (j1_0 q0)) (v12 (v2 q3 (j1_0 q1)) (v2 q5 (j1_0 q1)) (j1_0 q1)))), .second, .val (.long (j11_0 (j11_0 (0 : Int64) ((j13_2_0 (j7_2_0 (j1_0 q0) (j7_2_0 (j1_0 q0) (0 : Int64) (0 : Int64) (v2 q2 (j1_0 q0))) (j7_2_1 (j1_0 q0) (0 : Int64) (v2 q2 (j1_0 q0))) (v2 q4 (j1_0 q0))) (j7_2_1 (j1_0 q0) (j7_2_1 (j1_0 q0) (0 : Int64) (v2 q2 (j1_0 q0))) (v2 q4 (j1_0 q0))) (v2 q2 (j1_0 q0))) + ((j10_2_0 (j13_2_1 (j1_0 q0) (j7_2_1 (j1_0 q0) (j7_2_1 (j1_0 q0) (0 : Int64) (v2 q2 (j1_0 q0))) (v2 q4 (j1_0 q0))) (v2 q2 (j1_0 q0)))).toInt64))) ((j13_2_2 (j7_2_2 (j1_0 q1) (j7_2_2 (j1_0 q1) (0 : Int64) (0 : Int64) (v2 q3 (j1_0 q1))) (j7_2_3 (j1_0 q1) (0 : Int64) (v2 q3 (j1_0 q1))) (v2 q5 (j1_0 q1))) (j7_2_3 (j1_0 q1) (j7_2_3 (j1_0 q1) (0 : Int64) (v2 q3 (j1_0 q1))) (v2 q5 (j1_0 q1))) (v2 q3 (j1_0 q1))) + ((j10_2_1 (j13_2_3 (j1_0 q1) (j7_2_3 (j1_0 q1) (j7_2_3 (j1_0 q1) (0 : Int64) (v2 q3 (j1_0 q1))) (v2 q5 (j1_0 q1))) (v2 q3 (j1_0 q1)))).toInt64)))), .second, .val (.long (j11_0 (j0_0 q0 q4) (j0_1 q1 q5))), .second] [(.int (lcmpW (j11_0 (j11_0 (0 : Int64) ((j7_2_0 (j1_0 q0) (j7_2_0 (j1_0 q0) (0 : Int64) (0 : Int64) (v2 q2 (j1_0 q0))) (j7_2_1 (j1_0 q0) (0 : Int64) (v2 q2 (j1_0 q0))) (v2 q4 (j1_0 q0))) + ((j10_2_0 (j7_2_1 (j1_0 q0) (j7_2_1 (j1_0 q0) (0 : Int64) (v2 q2 (j1_0 q0))) (v2 q4 (j1_0 q0)))).toInt64))) ((j7_2_2 (j1_0 q1) (j7_2_2 (j1_0 q1) (0 : Int64) (0 : Int64) (v2 q3 (j1_0 q1))) (j7_2_3 (j1_0 q1) (0 : Int64) (v2 q3 (j1_0 q1))) (v2 q5 (j1_0 q1))) + ((j10_2_1 (j7_2_3 (j1_0 q1) (j7_2_3 (j1_0 q1) (0 : Int64) (v2 q3 (j1_0 q1))) (v2 q5 (j1_0 q1)))).toInt64))) (j11_0 (v12 (v2 q2 (j1_0 q0)) (v2 q4 (j1_0 q0)) (j1_0 q0)) (v12 (v2 q3 (j1_0 q1)) (v2 q5 (j1_0 q1)) (j1_0 q1)))))])) _
      refine XS.ifYes X1012.here hx rfl (pc0 := 196) (pc' := 211) rfl (hb hby at_196) rfl ((if0 _ _).trans (feq (mt (own_eq (j11_0 (j11_0 (0 : Int64) ((j7_2_0 (j1_0 q0) (j7_2_0 (j1_0 q0) (0 : Int64) (0 : Int64) (v2 q2 (j1_0 q0))) (j7_2_1 (j1_0 q0) (0 : Int64) (v2 q2 (j1_0 q0))) (v2 q4 (j1_0 q0))) + ((j10_2_0 (j7_2_1 (j1_0 q0) (j7_2_1 (j1_0 q0) (0 : Int64) (v2 q2 (j1_0 q0))) (v2 q4 (j1_0 q0)))).toInt64))) ((j7_2_2 (j1_0 q1) (j7_2_2 (j1_0 q1) (0 : Int64) (0 : Int64) (v2 q3 (j1_0 q1))) (j7_2_3 (j1_0 q1) (0 : Int64) (v2 q3 (j1_0 q1))) (v2 q5 (j1_0 q1))) + ((j10_2_1 (j7_2_3 (j1_0 q1) (j7_2_3 (j1_0 q1) (0 : Int64) (v2 q3 (j1_0 q1))) (v2 q5 (j1_0 q1)))).toInt64))) (j11_0 (v12 (v2 q2 (j1_0 q0)) (v2 q4 (j1_0 q0)) (j1_0 q0)) (v12 (v2 q3 (j1_0 q1)) (v2 q5 (j1_0 q1)) (j1_0 q1)))).mp hc1017)).2) (by decide) (by decide) ?_
      show Steps p.tables e below (T1012.setTop (mkF m 211 #[.val (.long q0), .second, .val (.long q1), .second, .val (.long q2), .second, .val (.long q3), .second, .val (.long q4), .second, .val (.long q5), .second, .val (.long (j1_0 q0)), .second, .val (.long (j1_0 q1)), .second, .val (.long (v2 q2 (j1_0 q0))), .second, .val (.long (v2 q3 (j1_0 q1))), .second, .val (.long (v2 q4 (j1_0 q0))), .second, .val (.long (v2 q5 (j1_0 q1))), .second, .val (.ref b832), .val (.ref b848), .val (.ref b871), .val (.ref b901), .val (.long (j11_0 (j11_0 (0 : Int64) ((j7_2_0 (j1_0 q0) (j7_2_0 (j1_0 q0) (0 : Int64) (0 : Int64) (v2 q2 (j1_0 q0))) (j7_2_1 (j1_0 q0) (0 : Int64) (v2 q2 (j1_0 q0))) (v2 q4 (j1_0 q0))) + ((j10_2_0 (j7_2_1 (j1_0 q0) (j7_2_1 (j1_0 q0) (0 : Int64) (v2 q2 (j1_0 q0))) (v2 q4 (j1_0 q0)))).toInt64))) ((j7_2_2 (j1_0 q1) (j7_2_2 (j1_0 q1) (0 : Int64) (0 : Int64) (v2 q3 (j1_0 q1))) (j7_2_3 (j1_0 q1) (0 : Int64) (v2 q3 (j1_0 q1))) (v2 q5 (j1_0 q1))) + ((j10_2_1 (j7_2_3 (j1_0 q1) (j7_2_3 (j1_0 q1) (0 : Int64) (v2 q3 (j1_0 q1))) (v2 q5 (j1_0 q1)))).toInt64)))), .second, .val (.long (j11_0 (v12 (v2 q2 (j1_0 q0)) (v2 q4 (j1_0 q0)) (j1_0 q0)) (v12 (v2 q3 (j1_0 q1)) (v2 q5 (j1_0 q1)) (j1_0 q1)))), .second, .val (.long (j11_0 (j11_0 (0 : Int64) ((j13_2_0 (j7_2_0 (j1_0 q0) (j7_2_0 (j1_0 q0) (0 : Int64) (0 : Int64) (v2 q2 (j1_0 q0))) (j7_2_1 (j1_0 q0) (0 : Int64) (v2 q2 (j1_0 q0))) (v2 q4 (j1_0 q0))) (j7_2_1 (j1_0 q0) (j7_2_1 (j1_0 q0) (0 : Int64) (v2 q2 (j1_0 q0))) (v2 q4 (j1_0 q0))) (v2 q2 (j1_0 q0))) + ((j10_2_0 (j13_2_1 (j1_0 q0) (j7_2_1 (j1_0 q0) (j7_2_1 (j1_0 q0) (0 : Int64) (v2 q2 (j1_0 q0))) (v2 q4 (j1_0 q0))) (v2 q2 (j1_0 q0)))).toInt64))) ((j13_2_2 (j7_2_2 (j1_0 q1) (j7_2_2 (j1_0 q1) (0 : Int64) (0 : Int64) (v2 q3 (j1_0 q1))) (j7_2_3 (j1_0 q1) (0 : Int64) (v2 q3 (j1_0 q1))) (v2 q5 (j1_0 q1))) (j7_2_3 (j1_0 q1) (j7_2_3 (j1_0 q1) (0 : Int64) (v2 q3 (j1_0 q1))) (v2 q5 (j1_0 q1))) (v2 q3 (j1_0 q1))) + ((j10_2_1 (j13_2_3 (j1_0 q1) (j7_2_3 (j1_0 q1) (j7_2_3 (j1_0 q1) (0 : Int64) (v2 q3 (j1_0 q1))) (v2 q5 (j1_0 q1))) (v2 q3 (j1_0 q1)))).toInt64)))), .second, .val (.long (j11_0 (j0_0 q0 q4) (j0_1 q1 q5))), .second] [])) _
      refine XS.iconst X1012.here hx rfl (hb hby at_211) ?_
      have hj1021 : (j0_2 q0 q1 q2 q3 q4 q5) = (0 : Int32) := by unfold j0_2; first | (rw [if_neg hc1017]) | (simp only [if_neg hc1017])
      rw [hj1021] at k
      exact k)
  obtain ⟨fs, hr, hrun, hended, hRW⟩ := X1012.leaveW hS (own_hk hk e1012) (v := some (.int (nar .boolean (j0_2 q0 q1 q2 q3 q4 q5)))) (fun h => by rw [Bd.returns] at h; cases h)
  refine ⟨_, _, pre1016 _ ?_, hrun, hended, _, _, rfl, ?_, hRW.1, hRW.2.1, hRW.2.2.1, hRW.2.2.2.mono (by decide) (by decide)⟩
  · skip
    show Steps p.tables e below (T1012.setTop (mkF m 212 #[.val (.long q0), .second, .val (.long q1), .second, .val (.long q2), .second, .val (.long q3), .second, .val (.long q4), .second, .val (.long q5), .second, .val (.long (j1_0 q0)), .second, .val (.long (j1_0 q1)), .second, .val (.long (v2 q2 (j1_0 q0))), .second, .val (.long (v2 q3 (j1_0 q1))), .second, .val (.long (v2 q4 (j1_0 q0))), .second, .val (.long (v2 q5 (j1_0 q1))), .second, .val (.ref b832), .val (.ref b848), .val (.ref b871), .val (.ref b901), .val (.long (j11_0 (j11_0 (0 : Int64) ((j7_2_0 (j1_0 q0) (j7_2_0 (j1_0 q0) (0 : Int64) (0 : Int64) (v2 q2 (j1_0 q0))) (j7_2_1 (j1_0 q0) (0 : Int64) (v2 q2 (j1_0 q0))) (v2 q4 (j1_0 q0))) + ((j10_2_0 (j7_2_1 (j1_0 q0) (j7_2_1 (j1_0 q0) (0 : Int64) (v2 q2 (j1_0 q0))) (v2 q4 (j1_0 q0)))).toInt64))) ((j7_2_2 (j1_0 q1) (j7_2_2 (j1_0 q1) (0 : Int64) (0 : Int64) (v2 q3 (j1_0 q1))) (j7_2_3 (j1_0 q1) (0 : Int64) (v2 q3 (j1_0 q1))) (v2 q5 (j1_0 q1))) + ((j10_2_1 (j7_2_3 (j1_0 q1) (j7_2_3 (j1_0 q1) (0 : Int64) (v2 q3 (j1_0 q1))) (v2 q5 (j1_0 q1)))).toInt64)))), .second, .val (.long (j11_0 (v12 (v2 q2 (j1_0 q0)) (v2 q4 (j1_0 q0)) (j1_0 q0)) (v12 (v2 q3 (j1_0 q1)) (v2 q5 (j1_0 q1)) (j1_0 q1)))), .second, .val (.long (j11_0 (j11_0 (0 : Int64) ((j13_2_0 (j7_2_0 (j1_0 q0) (j7_2_0 (j1_0 q0) (0 : Int64) (0 : Int64) (v2 q2 (j1_0 q0))) (j7_2_1 (j1_0 q0) (0 : Int64) (v2 q2 (j1_0 q0))) (v2 q4 (j1_0 q0))) (j7_2_1 (j1_0 q0) (j7_2_1 (j1_0 q0) (0 : Int64) (v2 q2 (j1_0 q0))) (v2 q4 (j1_0 q0))) (v2 q2 (j1_0 q0))) + ((j10_2_0 (j13_2_1 (j1_0 q0) (j7_2_1 (j1_0 q0) (j7_2_1 (j1_0 q0) (0 : Int64) (v2 q2 (j1_0 q0))) (v2 q4 (j1_0 q0))) (v2 q2 (j1_0 q0)))).toInt64))) ((j13_2_2 (j7_2_2 (j1_0 q1) (j7_2_2 (j1_0 q1) (0 : Int64) (0 : Int64) (v2 q3 (j1_0 q1))) (j7_2_3 (j1_0 q1) (0 : Int64) (v2 q3 (j1_0 q1))) (v2 q5 (j1_0 q1))) (j7_2_3 (j1_0 q1) (j7_2_3 (j1_0 q1) (0 : Int64) (v2 q3 (j1_0 q1))) (v2 q5 (j1_0 q1))) (v2 q3 (j1_0 q1))) + ((j10_2_1 (j13_2_3 (j1_0 q1) (j7_2_3 (j1_0 q1) (j7_2_3 (j1_0 q1) (0 : Int64) (v2 q3 (j1_0 q1))) (v2 q5 (j1_0 q1))) (v2 q3 (j1_0 q1)))).toInt64)))), .second, .val (.long (j11_0 (j0_0 q0 q4) (j0_1 q1 q5))), .second] [(.int (j0_2 q0 q1 q2 q3 q4 q5))])) _
    exact retN X1012 hx (t := .boolean) Bd.returns (by simp) (hb hby at_212) hr
  · show Q0 Z q0 q1 q2 q3 q4 q5 h0 n0 _ T1012.heap _
    rw [e1012]
    exact ⟨rfl, N1012⟩
theorem law_one (q0 q1 q2 q3 q4 q5 : Int64) : (nar .boolean (j0_2 q0 q1 q2 q3 q4 q5)) = 1 := by
  have c0 := own_cap q0
  have c1 := own_cap q1
  obtain ⟨a0, a0'⟩ := own_siz q2 _ c0
  obtain ⟨a1, a1'⟩ := own_siz q3 _ c1
  obtain ⟨b0, b0'⟩ := own_siz q4 _ c0
  obtain ⟨b1, b1'⟩ := own_siz q5 _ c1
  obtain ⟨x0, y0⟩ := own_d1 (j1_0 q0) (v2 q2 (j1_0 q0)) (v2 q4 (j1_0 q0)) c0 a0 a0' b0 b0'
  obtain ⟨x1, y1⟩ := own_d1 (j1_0 q1) (v2 q3 (j1_0 q1)) (v2 q5 (j1_0 q1)) c1 a1 a1' b1 b1'
  have z0 := own_d2 (j1_0 q0) (v2 q2 (j1_0 q0)) (v2 q4 (j1_0 q0)) c0 a0 a0' b0 b0'
  have z1 := own_d2 (j1_0 q1) (v2 q3 (j1_0 q1)) (v2 q5 (j1_0 q1)) c1 a1 a1' b1 b1'
  change j7_2_2 _ _ _ _ + (j10_2_1 (j7_2_3 _ _ _)).toInt64 = _ at x1
  change j13_2_2 _ _ _ + (j10_2_1 (j13_2_3 _ _ _)).toInt64 = _ at z1
  unfold j0_2
  have nn : ∀ b : Int64, 0 ≤ (if (0 : Int64) < b then (1 : Int64) else (0 : Int64)).toInt := fun b => by split <;> decide
  rw [if_pos, if_pos]
  · rfl
  · unfold j0_0 j0_1
    rw [← z0, ← z1, own_mx0 _ (by rw [z0]; exact nn _)]
    rfl
  · rw [← x0, ← x1, own_mx0 _ (by rw [x0]; exact y0)]
    rfl
set_option maxRecDepth 65536 in
set_option maxHeartbeats 40000000 in
theorem comes_1 {Post : Tables → Env → Array Value → State → Outcome → State → Prop} (hpost : ∀ tb e args s v u, (limb_1_1.after args s (.returned v) u = true ∧ limb_1_2.after args s (.returned v) u = true ∧ True) → ReturnedEndW s (.returned v) u (Jvm.fieldLocs frame_1_writes args s ++ Jvm.arrayLocs frame_1_arrays args s ++ Jvm.staticLocs frame_1_statics s) 32 2176 → Post tb e args s (.returned v) u) :
    ArmFor flags0 classFile x code maxLocals ret World_1 tables_1 room_1 Calls_1 rest_1 Pre_1 Post := by
  intro l hfl _ _ p e ha hc hk s m args below hf hA hF happ hP
  obtain ⟨hcalls, hrest, hpre⟩ := hP
  obtain ⟨-, -, -, hnamed, -, -, -, hat⟩ := (Spec.applies_iff hf).mp happ
  obtain ⟨hg, hn⟩ := and_e (Cond.before_iff.mp (show (Jvm.Cond.and given_1 narrow_1).before args s = true from hpre))
  obtain ⟨hcount, r0⟩ := and_e hg
  obtain ⟨k0, r1⟩ := and_e r0
  obtain ⟨k1, r2⟩ := and_e r1
  obtain ⟨k2, r3⟩ := and_e r2
  obtain ⟨k3, r4⟩ := and_e r3
  obtain ⟨k4, r5⟩ := and_e r4
  have k5 := r5
  obtain ⟨w0, w1, w2, w3, w4, w5, rfl⟩ : ∃ w0 w1 w2 w3 w4 w5 : Value, args = #[w0, w1, w2, w3, w4, w5] := by
    have hs : args.size = 6 := by simpa [Cond.value, given_1] using hcount
    obtain ⟨L⟩ := args
    match L, hs with
    | [w0, w1, w2, w3, w4, w5], _ => exact ⟨w0, w1, w2, w3, w4, w5, rfl⟩
  have hw := fun d (hd : d ∈ tables_1) => atoms_spec (ws := Jvm.Cond.code x code maxLocals ret :: tables_1) hat d (List.mem_cons_of_mem _ hd)
  obtain ⟨i0, ei0⟩ := isL_v k0
  obtain rfl : w0 = (.long i0) := Option.some.inj ei0
  obtain ⟨i1, ei1⟩ := isL_v k1
  obtain rfl : w1 = (.long i1) := Option.some.inj ei1
  obtain ⟨i2, ei2⟩ := isL_v k2
  obtain rfl : w2 = (.long i2) := Option.some.inj ei2
  obtain ⟨i3, ei3⟩ := isL_v k3
  obtain rfl : w3 = (.long i3) := Option.some.inj ei3
  obtain ⟨i4, ei4⟩ := isL_v k4
  obtain rfl : w4 = (.long i4) := Option.some.inj ei4
  obtain ⟨i5, ei5⟩ := isL_v k5
  obtain rfl : w5 = (.long i5) := Option.some.inj ei5
  obtain ⟨n, o, h1, h2, h3, v, L, rfl, ⟨hv, N⟩, hq⟩ := rm0 l s _ hw tables_1 i0 i1 i2 i3 i4 i5 s.heap s.heap.size (Nat.le_refl _) p e ha hc hk s m _ below hf ((Spec.applies_iff_loose hf).mp happ).1 ⟨rfl, State.Warmed39.refl s, rfl⟩ trivial
  rw [law_one i0 i1 i2 i3 i4 i5] at hv
  subst hv
  refine ⟨n, _, h1, h2, h3, hpost _ _ _ _ _ _ ⟨Cond.after_iff.mpr rfl, Cond.after_iff.mpr (eq_i res_at (Term.int_eval (1)) rfl), trivial⟩ ⟨hq.1, hq.2.1, hq.2.2.1, (hq.2.2.2.sift fun y hy => Or.inr (N y hy)).mono (by decide) (by decide)⟩⟩
theorem main_1_1 : Claimed_1_1 := comes_1 fun _ _ _ _ _ _ h hF => ⟨h.1, hF⟩
theorem main_1_2 : Claimed_1_2 := comes_1 fun _ _ _ _ _ _ h hF => ⟨h.2.1, hF⟩
end Jvm.Pilot.@@N@@
namespace Jvm.Pilot.@@N@@
open Jvm Jvm.ClassFile Sem Op Lib Jvm.Free Jvm.Stand Jvm.Pilot.@@N@@.Jvm.D
/-! MADE BY PROGRAM (witnessworld.py) out of the Statement's table words and the real class files: 19 classes; the members and pool entries that the words name. The judged class is class 1, her method 4. -/
namespace start1
open Jvm.ClassFile
def u (s : String) : CpInfo := .utf8 (stringToUtf16 s)
/-- a pool by its gaps: so many unusable entries, then the entry; so many at the end -/
def gap : Nat → List CpInfo → List CpInfo
  | 0, r => r
  | n + 1, r => .unusable :: gap n r
def poolList (es : List (Nat × CpInfo)) (last : Nat) : List CpInfo := es.foldr (fun e r => gap e.1 (e.2 :: r)) (gap last [])
def pool (es : List (Nat × CpInfo)) (last : Nat) : Array CpInfo := ⟨poolList es last⟩
def fileOf (pool : Array CpInfo) (this : Nat) (attrs : Array Attribute := #[]) (ms : Array MethodInfo := #[]) (fl : Nat := 33) (sup : Nat := 0) (ifs : Array Nat := #[]) (fds : Array FieldInfo := #[]) : ClassFile where
  minorVersion := 0
  majorVersion := 65
  constantPool := pool
  accessFlags := fl
  thisClass := this
  superClass := sup
  interfaces := ifs
  fields := fds
  methods := ms
  attributes := attrs
def plain (name : String) (sup : Option ClassId) : Class where
  name := name
  kind := .ordinary
  loader := none
  accessFlags := 33
  super := sup
  interfaces := #[]
  cf := none
  fields := #[]
  methods := #[]
  instanceTypes := #[]
  staticTypes := #[]
  resolved := #[]
  callSites := []
  init := .initialized
  statics := none
  mirror := none

def pool0 : Array CpInfo := pool [(5, u "<init>"), (0, u "()V"), (1, .class_ 10), (1, u "java/lang/Object"), (85, u "clone"), (0, u "()Ljava/lang/Object;")] 26

def k0c0 : Code := { maxStack := 0, maxLocals := 1, code := object_method_1_code, exceptionTable := #[], attributes := #[] }
def k0m0 : Method := { name := "<init>", desc := "()V", sig := { parameters := [], returnType := none }, accessFlags := 1, code := some k0c0 }
def k0m1 : Method := { name := "clone", desc := "()Ljava/lang/Object;", sig := { parameters := [], returnType := some (.object "java/lang/Object") }, accessFlags := 260, code := none }
/-- java/lang/Object -/
def k0 : Class := { plain "java/lang/Object" none with
  accessFlags := 33
  interfaces := #[]
  cf := some (fileOf pool0 8 #[] #[{ accessFlags := 1, nameIndex := 5, descriptorIndex := 6, attributes := #[] }, { accessFlags := 260, nameIndex := 96, descriptorIndex := 97, attributes := #[] }] 33 0 #[] #[])
  fields := #[]
  methods := #[k0m0, k0m1]
  instanceTypes := #[]
  staticTypes := #[]
  resolved := Array.replicate 124 none
  statics := none }

def pool1 : Array CpInfo := pool [(2, .class_ 4), (1, u "java/lang/Object"), (0, u "<init>"), (0, u "()V"), (2, .long 9223372036854775807), (1, .long 2), (1, .methodref 14 15), (0, .class_ 16), (0, .nameAndType 17 18), (0, u "com/example/stowline/stowline/VolumeBoundValuePinLaw"), (0, u "cap"), (0, u "(J)J"), (0, .methodref 14 20), (0, .nameAndType 21 22), (0, u "size"), (0, u "(JJ)J"), (0, .class_ 24), (0, u "com/example/stowline/stowline/VolumeBound"), (0, .methodref 23 26), (0, .nameAndType 5 27), (0, u "([J)V"), (0, .methodref 23 29), (0, .nameAndType 30 27), (0, u "add"), (0, .methodref 23 32), (0, .nameAndType 33 34), (0, u "value"), (0, u "()J"), (0, .methodref 14 36), (0, .nameAndType 37 38), (0, u "ceilTwo"), (0, u "(JJJ)J"), (0, .methodref 40 41), (0, .class_ 42), (0, .nameAndType 43 22), (0, u "java/lang/Math"), (0, u "max"), (0, .methodref 23 45), (0, .nameAndType 46 27), (0, u "remove"), (3, u "law"), (0, u "(JJJJJJ)Z")] 4

def k1m0 : Method := { name := "<init>", desc := "()V", sig := { parameters := [], returnType := none }, accessFlags := 1, code := none }
def k1c1 : Code := { maxStack := 4, maxLocals := 4, code := method_2_code, exceptionTable := #[], attributes := #[] }
def k1m1 : Method := { name := "cap", desc := "(J)J", sig := { parameters := [.long], returnType := some .long }, accessFlags := 10, code := some k1c1 }
def k1c2 : Code := { maxStack := 6, maxLocals := 6, code := method_3_code, exceptionTable := #[], attributes := #[] }
def k1m2 : Method := { name := "size", desc := "(JJ)J", sig := { parameters := [.long, .long], returnType := some .long }, accessFlags := 10, code := some k1c2 }
def k1c3 : Code := { maxStack := 6, maxLocals := 6, code := method_4_code, exceptionTable := #[], attributes := #[] }
def k1m3 : Method := { name := "ceilTwo", desc := "(JJJ)J", sig := { parameters := [.long, .long, .long], returnType := some .long }, accessFlags := 10, code := some k1c3 }
def k1c4 : Code := { maxStack := 8, maxLocals := 36, code := code, exceptionTable := #[], attributes := #[] }
def k1m4 : Method := { name := "law", desc := "(JJJJJJ)Z", sig := { parameters := [.long, .long, .long, .long, .long, .long], returnType := some .boolean }, accessFlags := 9, code := some k1c4 }
/-- com/example/stowline/stowline/VolumeBoundValuePinLaw -/
def k1 : Class := { plain "com/example/stowline/stowline/VolumeBoundValuePinLaw" (some 0) with
  accessFlags := 49
  interfaces := #[]
  cf := some (fileOf pool1 14 #[] #[{ accessFlags := 1, nameIndex := 5, descriptorIndex := 6, attributes := #[] }, { accessFlags := 10, nameIndex := 17, descriptorIndex := 18, attributes := #[] }, { accessFlags := 10, nameIndex := 21, descriptorIndex := 22, attributes := #[] }, { accessFlags := 10, nameIndex := 37, descriptorIndex := 38, attributes := #[] }, { accessFlags := 9, nameIndex := 50, descriptorIndex := 51, attributes := #[] }] 49 2 #[] #[])
  fields := #[]
  methods := #[k1m0, k1m1, k1m2, k1m3, k1m4]
  instanceTypes := #[]
  staticTypes := #[]
  resolved := Array.replicate 56 none
  statics := none }

def pool2 : Array CpInfo := pool [(1, .methodref 2 3), (0, .class_ 4), (0, .nameAndType 5 6), (0, u "java/lang/Object"), (0, u "<init>"), (0, u "()V"), (0, .methodref 8 9), (0, .class_ 10), (0, .nameAndType 11 12), (0, u "com/example/stowline/stowline/Capacities"), (0, u "checkedCopy"), (0, u "([J)[J"), (0, .fieldref 14 15), (0, .class_ 16), (0, .nameAndType 17 18), (0, u "com/example/stowline/stowline/VolumeBound"), (0, u "capacities"), (0, u "[J"), (0, .fieldref 14 20), (0, .nameAndType 21 18), (0, u "wholeCapacities"), (0, .fieldref 14 23), (0, .nameAndType 24 18), (0, u "remainders"), (0, .methodref 14 26), (0, .nameAndType 27 28), (0, u "checkSizes"), (0, u "([J)V"), (9, .methodref 39 40), (0, .class_ 41), (0, .nameAndType 42 43), (0, u "java/lang/Math"), (0, u "max"), (0, u "(JJ)J"), (11, u "()J"), (17, u "add"), (49, .methodref 8 124), (0, .nameAndType 27 125), (0, u "([J[J)V"), (4, u "remove"), (0, u "value")] 23

def k2c0 : Code := { maxStack := 2, maxLocals := 2, code := prog_29_method_1_code, exceptionTable := #[], attributes := #[] }
def k2m0 : Method := { name := "<init>", desc := "([J)V", sig := { parameters := [(.array .long)], returnType := none }, accessFlags := 1, code := some k2c0 }
def k2c1 : Code := { maxStack := 6, maxLocals := 5, code := prog_29_method_3_code, exceptionTable := #[], attributes := #[] }
def k2m1 : Method := { name := "add", desc := "([J)V", sig := { parameters := [(.array .long)], returnType := none }, accessFlags := 1, code := some k2c1 }
def k2c2 : Code := { maxStack := 8, maxLocals := 3, code := prog_29_method_4_code, exceptionTable := #[], attributes := #[] }
def k2m2 : Method := { name := "remove", desc := "([J)V", sig := { parameters := [(.array .long)], returnType := none }, accessFlags := 1, code := some k2c2 }
def k2c3 : Code := { maxStack := 6, maxLocals := 6, code := prog_29_method_5_code, exceptionTable := #[], attributes := #[] }
def k2m3 : Method := { name := "value", desc := "()J", sig := { parameters := [], returnType := some .long }, accessFlags := 1, code := some k2c3 }
def k2c4 : Code := { maxStack := 2, maxLocals := 2, code := prog_29_method_10_code, exceptionTable := #[], attributes := #[] }
def k2m4 : Method := { name := "checkSizes", desc := "([J)V", sig := { parameters := [(.array .long)], returnType := none }, accessFlags := 0, code := some k2c4 }
/-- com/example/stowline/stowline/VolumeBound -/
def k2 : Class := { plain "com/example/stowline/stowline/VolumeBound" (some 0) with
  accessFlags := 49
  interfaces := #[]
  cf := some (fileOf pool2 14 #[] #[{ accessFlags := 1, nameIndex := 5, descriptorIndex := 28, attributes := #[] }, { accessFlags := 1, nameIndex := 73, descriptorIndex := 28, attributes := #[] }, { accessFlags := 1, nameIndex := 130, descriptorIndex := 28, attributes := #[] }, { accessFlags := 1, nameIndex := 131, descriptorIndex := 55, attributes := #[] }, { accessFlags := 0, nameIndex := 27, descriptorIndex := 28, attributes := #[] }] 49 2 #[] #[{ accessFlags := 18, nameIndex := 17, descriptorIndex := 18, attributes := #[] }, { accessFlags := 18, nameIndex := 21, descriptorIndex := 18, attributes := #[] }, { accessFlags := 18, nameIndex := 24, descriptorIndex := 18, attributes := #[] }])
  fields := #[{ name := "capacities", type := (.array .long), accessFlags := 18, slot := 0, constantValue := 0 }, { name := "wholeCapacities", type := (.array .long), accessFlags := 18, slot := 1, constantValue := 0 }, { name := "remainders", type := (.array .long), accessFlags := 18, slot := 2, constantValue := 0 }]
  methods := #[k2m0, k2m1, k2m2, k2m3, k2m4]
  instanceTypes := #[(.array .long), (.array .long), (.array .long)]
  staticTypes := #[]
  resolved := Array.replicate 155 none
  statics := none }

def pool3 : Array CpInfo := pool [(2, .class_ 4), (1, u "java/lang/Object"), (0, u "<init>"), (0, u "()V"), (0, .string 8), (0, u "capacities"), (0, .methodref 10 11), (0, .class_ 12), (0, .nameAndType 13 14), (0, u "java/util/Objects"), (0, u "requireNonNull"), (0, u "(Ljava/lang/Object;Ljava/lang/String;)Ljava/lang/Object;"), (11, .methodref 27 28), (0, .class_ 29), (0, .nameAndType 30 31), (0, u "[J"), (0, u "clone"), (0, u "()Ljava/lang/Object;"), (0, .string 33), (0, u "sizes"), (6, .class_ 41), (0, u "com/example/stowline/stowline/Capacities"), (2, u "checkedCopy"), (0, u "([J)[J"), (1, u "checkSizes"), (0, u "([J[J)V")] 21

def k3m0 : Method := { name := "<init>", desc := "()V", sig := { parameters := [], returnType := none }, accessFlags := 2, code := none }
def k3c1 : Code := { maxStack := 5, maxLocals := 2, code := prog_4_method_2_code, exceptionTable := #[], attributes := #[] }
def k3m1 : Method := { name := "checkedCopy", desc := "([J)[J", sig := { parameters := [(.array .long)], returnType := some (.array .long) }, accessFlags := 8, code := some k3c1 }
def k3c2 : Code := { maxStack := 7, maxLocals := 3, code := prog_4_method_3_code, exceptionTable := #[], attributes := #[] }
def k3m2 : Method := { name := "checkSizes", desc := "([J[J)V", sig := { parameters := [(.array .long), (.array .long)], returnType := none }, accessFlags := 8, code := some k3c2 }
/-- com/example/stowline/stowline/Capacities -/
def k3 : Class := { plain "com/example/stowline/stowline/Capacities" (some 0) with
  accessFlags := 48
  interfaces := #[]
  cf := some (fileOf pool3 40 #[] #[{ accessFlags := 2, nameIndex := 5, descriptorIndex := 6, attributes := #[] }, { accessFlags := 8, nameIndex := 44, descriptorIndex := 45, attributes := #[] }, { accessFlags := 8, nameIndex := 47, descriptorIndex := 48, attributes := #[] }] 48 2 #[] #[])
  fields := #[]
  methods := #[k3m0, k3m1, k3m2]
  instanceTypes := #[]
  staticTypes := #[]
  resolved := Array.replicate 70 none
  statics := none }

def pool4 : Array CpInfo := pool [(1, .class_ 2), (0, u "java/io/Serializable"), (0, .class_ 4), (0, u "java/lang/Object")] 2

/-- java/io/Serializable -/
def k4 : Class := { plain "java/io/Serializable" (some 0) with
  accessFlags := 1537
  interfaces := #[]
  cf := some (fileOf pool4 1 #[] #[] 1537 3 #[] #[])
  fields := #[]
  methods := #[]
  instanceTypes := #[]
  staticTypes := #[]
  resolved := Array.replicate 7 none
  statics := none }

def pool5 : Array CpInfo := pool [(1, .class_ 2), (0, u "java/lang/Comparable"), (0, .class_ 4), (0, u "java/lang/Object")] 7

/-- java/lang/Comparable -/
def k5 : Class := { plain "java/lang/Comparable" (some 0) with
  accessFlags := 1537
  interfaces := #[]
  cf := some (fileOf pool5 1 #[] #[] 1537 3 #[] #[])
  fields := #[]
  methods := #[]
  instanceTypes := #[]
  staticTypes := #[]
  resolved := Array.replicate 12 none
  statics := none }

def pool6 : Array CpInfo := pool [(2, .class_ 4), (1, u "java/lang/CharSequence"), (42, .class_ 48), (0, u "java/lang/CharSequence$1CodePointIterator"), (10, .class_ 60), (0, u "java/lang/CharSequence$1CharIterator"), (5, .class_ 67), (0, u "java/lang/Object")] 63

/-- java/lang/CharSequence -/
def k6 : Class := { plain "java/lang/CharSequence" (some 0) with
  accessFlags := 1537
  interfaces := #[]
  cf := some (fileOf pool6 2 #[.nestMembers #[47, 59]] #[] 1537 66 #[] #[])
  fields := #[]
  methods := #[]
  instanceTypes := #[]
  staticTypes := #[]
  resolved := Array.replicate 131 none
  statics := none }

def pool7 : Array CpInfo := pool [(1, .class_ 2), (0, u "java/lang/constant/Constable"), (0, .class_ 4), (0, u "java/lang/Object")] 6

/-- java/lang/constant/Constable -/
def k7 : Class := { plain "java/lang/constant/Constable" (some 0) with
  accessFlags := 1537
  interfaces := #[]
  cf := some (fileOf pool7 1 #[] #[] 1537 3 #[] #[])
  fields := #[]
  methods := #[]
  instanceTypes := #[]
  staticTypes := #[]
  resolved := Array.replicate 11 none
  statics := none }

def pool8 : Array CpInfo := pool [(1, .class_ 2), (0, u "java/lang/constant/ConstantDesc"), (0, .class_ 4), (0, u "java/lang/Object")] 32

/-- java/lang/constant/ConstantDesc -/
def k8 : Class := { plain "java/lang/constant/ConstantDesc" (some 0) with
  accessFlags := 1537
  interfaces := #[]
  cf := some (fileOf pool8 1 #[] #[] 1537 3 #[] #[])
  fields := #[]
  methods := #[]
  instanceTypes := #[]
  staticTypes := #[]
  resolved := Array.replicate 37 none
  statics := none }

def pool9 : Array CpInfo := pool [(2, .class_ 4), (1, u "java/lang/Object"), (0, u "<init>"), (0, u "()V"), (3, .class_ 12), (1, u "java/lang/String"), (0, u "value"), (0, u "[B"), (2, u "coder"), (0, u "B"), (2, u "hash"), (0, u "I"), (2, u "hashIsZero"), (0, u "Z"), (13, u "COMPACT_STRINGS"), (534, .class_ 576), (0, u "java/lang/CharSequence"), (22, u "CASE_INSENSITIVE_ORDER"), (0, u "Ljava/util/Comparator;"), (500, u "serialPersistentFields"), (0, u "[Ljava/io/ObjectStreamField;"), (0, .class_ 1104), (0, u "java/lang/String$CaseInsensitiveComparator"), (1, .class_ 1107), (0, u "java/io/Serializable"), (0, .class_ 1109), (0, u "java/lang/Comparable"), (0, .class_ 1111), (0, u "java/lang/constant/Constable"), (0, .class_ 1113), (0, u "java/lang/constant/ConstantDesc"), (2, u "serialVersionUID"), (0, u "J"), (3, u "REPL"), (0, u "C"), (2, u "LATIN1"), (1, u "UTF16")] 323

def k9m0 : Method := { name := "<init>", desc := "()V", sig := { parameters := [], returnType := none }, accessFlags := 1, code := none }
/-- java/lang/String -/
def k9 : Class := { plain "java/lang/String" (some 0) with
  accessFlags := 49
  interfaces := #[4, 5, 6, 7, 8]
  cf := some (fileOf pool9 10 #[.nestMembers #[1103]] #[{ accessFlags := 1, nameIndex := 5, descriptorIndex := 6, attributes := #[] }] 49 2 #[1106, 1108, 575, 1110, 1112] #[{ accessFlags := 18, nameIndex := 13, descriptorIndex := 14, attributes := #[] }, { accessFlags := 18, nameIndex := 17, descriptorIndex := 18, attributes := #[] }, { accessFlags := 2, nameIndex := 21, descriptorIndex := 22, attributes := #[] }, { accessFlags := 2, nameIndex := 25, descriptorIndex := 26, attributes := #[] }, { accessFlags := 26, nameIndex := 1116, descriptorIndex := 1117, attributes := #[] }, { accessFlags := 24, nameIndex := 40, descriptorIndex := 26, attributes := #[] }, { accessFlags := 26, nameIndex := 1101, descriptorIndex := 1102, attributes := #[] }, { accessFlags := 26, nameIndex := 1121, descriptorIndex := 1122, attributes := #[] }, { accessFlags := 25, nameIndex := 599, descriptorIndex := 600, attributes := #[] }, { accessFlags := 24, nameIndex := 1125, descriptorIndex := 18, attributes := #[] }, { accessFlags := 24, nameIndex := 1127, descriptorIndex := 18, attributes := #[] }])
  fields := #[{ name := "value", type := (.array .byte), accessFlags := 18, slot := 0, constantValue := 0 }, { name := "coder", type := .byte, accessFlags := 18, slot := 1, constantValue := 0 }, { name := "hash", type := .int, accessFlags := 2, slot := 2, constantValue := 0 }, { name := "hashIsZero", type := .boolean, accessFlags := 2, slot := 3, constantValue := 0 }, { name := "serialVersionUID", type := .long, accessFlags := 26, slot := 0, constantValue := 0 }, { name := "COMPACT_STRINGS", type := .boolean, accessFlags := 24, slot := 1, constantValue := 0 }, { name := "serialPersistentFields", type := (.array (.object "java/io/ObjectStreamField")), accessFlags := 26, slot := 2, constantValue := 0 }, { name := "REPL", type := .char, accessFlags := 26, slot := 3, constantValue := 0 }, { name := "CASE_INSENSITIVE_ORDER", type := (.object "java/util/Comparator"), accessFlags := 25, slot := 4, constantValue := 0 }, { name := "LATIN1", type := .byte, accessFlags := 24, slot := 5, constantValue := 0 }, { name := "UTF16", type := .byte, accessFlags := 24, slot := 6, constantValue := 0 }]
  methods := #[k9m0]
  instanceTypes := #[(.array .byte), .byte, .int, .boolean]
  staticTypes := #[.long, .boolean, (.array (.object "java/io/ObjectStreamField")), .char, (.object "java/util/Comparator"), .byte, .byte]
  resolved := Array.replicate 1451 none
  statics := none }

def pool10 : Array CpInfo := pool [(2, .class_ 4), (1, u "java/lang/Object"), (0, u "<init>"), (0, u "()V"), (35, .class_ 44), (1, u "java/util/Objects"), (0, u "requireNonNull"), (48, u "(Ljava/lang/Object;Ljava/lang/String;)Ljava/lang/Object;")] 89

def k10m0 : Method := { name := "<init>", desc := "()V", sig := { parameters := [], returnType := none }, accessFlags := 2, code := none }
def k10c1 : Code := { maxStack := 3, maxLocals := 2, code := jdk_31_method_11_code, exceptionTable := #[], attributes := #[] }
def k10m1 : Method := { name := "requireNonNull", desc := "(Ljava/lang/Object;Ljava/lang/String;)Ljava/lang/Object;", sig := { parameters := [(.object "java/lang/Object"), (.object "java/lang/String")], returnType := some (.object "java/lang/Object") }, accessFlags := 9, code := some k10c1 }
/-- java/util/Objects -/
def k10 : Class := { plain "java/util/Objects" (some 0) with
  accessFlags := 49
  interfaces := #[]
  cf := some (fileOf pool10 42 #[] #[{ accessFlags := 2, nameIndex := 5, descriptorIndex := 6, attributes := #[] }, { accessFlags := 9, nameIndex := 45, descriptorIndex := 94, attributes := #[] }] 49 2 #[] #[])
  fields := #[]
  methods := #[k10m0, k10m1]
  instanceTypes := #[]
  staticTypes := #[]
  resolved := Array.replicate 184 none
  statics := none }

def pool11 : Array CpInfo := pool [(1, .class_ 2), (0, u "java/lang/Cloneable"), (0, .class_ 4), (0, u "java/lang/Object")] 2

/-- java/lang/Cloneable -/
def k11 : Class := { plain "java/lang/Cloneable" (some 0) with
  accessFlags := 1537
  interfaces := #[]
  cf := some (fileOf pool11 1 #[] #[] 1537 3 #[] #[])
  fields := #[]
  methods := #[]
  instanceTypes := #[]
  staticTypes := #[]
  resolved := Array.replicate 7 none
  statics := none }

def pool12 : Array CpInfo := pool [(1, .class_ 2), (0, u "java/lang/Math"), (1, .class_ 6), (1, u "java/lang/Object"), (0, u "<init>"), (0, u "()V"), (89, .class_ 100), (1, u "java/lang/Math$RandomNumberGeneratorHolder"), (20, u "(JJ)J"), (50, u "negativeZeroFloatBits"), (0, u "J"), (2, u "negativeZeroDoubleBits"), (21, u "max"), (46, u "$assertionsDisabled"), (0, u "Z"), (91, u "twoToTheDoubleScaleDown"), (0, u "D"), (4, u "twoToTheDoubleScaleUp"), (9, u "E"), (3, u "PI"), (2, u "TAU"), (2, u "DEGREES_TO_RADIANS"), (0, u "RADIANS_TO_DEGREES")] 94

def k12m0 : Method := { name := "<init>", desc := "()V", sig := { parameters := [], returnType := none }, accessFlags := 2, code := none }
def k12c1 : Code := { maxStack := 4, maxLocals := 4, code := jdk_29_method_66_code, exceptionTable := #[], attributes := #[] }
def k12m1 : Method := { name := "max", desc := "(JJ)J", sig := { parameters := [.long, .long], returnType := some .long }, accessFlags := 9, code := some k12c1 }
/-- java/lang/Math -/
def k12 : Class := { plain "java/lang/Math" (some 0) with
  accessFlags := 49
  interfaces := #[]
  cf := some (fileOf pool12 1 #[.nestMembers #[98]] #[{ accessFlags := 2, nameIndex := 7, descriptorIndex := 8, attributes := #[] }, { accessFlags := 9, nameIndex := 198, descriptorIndex := 121, attributes := #[] }] 49 4 #[] #[{ accessFlags := 25, nameIndex := 354, descriptorIndex := 339, attributes := #[] }, { accessFlags := 25, nameIndex := 358, descriptorIndex := 339, attributes := #[] }, { accessFlags := 25, nameIndex := 361, descriptorIndex := 339, attributes := #[] }, { accessFlags := 26, nameIndex := 364, descriptorIndex := 339, attributes := #[] }, { accessFlags := 26, nameIndex := 365, descriptorIndex := 339, attributes := #[] }, { accessFlags := 26, nameIndex := 172, descriptorIndex := 173, attributes := #[] }, { accessFlags := 26, nameIndex := 176, descriptorIndex := 173, attributes := #[] }, { accessFlags := 8, nameIndex := 344, descriptorIndex := 339, attributes := #[] }, { accessFlags := 8, nameIndex := 338, descriptorIndex := 339, attributes := #[] }, { accessFlags := 4120, nameIndex := 245, descriptorIndex := 246, attributes := #[] }])
  fields := #[{ name := "E", type := .double, accessFlags := 25, slot := 0, constantValue := 0 }, { name := "PI", type := .double, accessFlags := 25, slot := 1, constantValue := 0 }, { name := "TAU", type := .double, accessFlags := 25, slot := 2, constantValue := 0 }, { name := "DEGREES_TO_RADIANS", type := .double, accessFlags := 26, slot := 3, constantValue := 0 }, { name := "RADIANS_TO_DEGREES", type := .double, accessFlags := 26, slot := 4, constantValue := 0 }, { name := "negativeZeroFloatBits", type := .long, accessFlags := 26, slot := 5, constantValue := 0 }, { name := "negativeZeroDoubleBits", type := .long, accessFlags := 26, slot := 6, constantValue := 0 }, { name := "twoToTheDoubleScaleUp", type := .double, accessFlags := 8, slot := 7, constantValue := 0 }, { name := "twoToTheDoubleScaleDown", type := .double, accessFlags := 8, slot := 8, constantValue := 0 }, { name := "$assertionsDisabled", type := .boolean, accessFlags := 4120, slot := 9, constantValue := 0 }]
  methods := #[k12m0, k12m1]
  instanceTypes := #[]
  staticTypes := #[.double, .double, .double, .double, .double, .long, .long, .double, .double, .boolean]
  resolved := Array.replicate 460 none
  statics := none }

/-- the primitive byte -/
def k13 : Class := { plain "byte" none with kind := .primitive 'B', accessFlags := 0x411 }
/-- [B -/
def k14 : Class := { plain "[B" (some 0) with kind := .array 13 .byte, interfaces := #[11, 4], accessFlags := 1041 }

/-- the primitive int -/
def k15 : Class := { plain "int" none with kind := .primitive 'I', accessFlags := 0x411 }
/-- [I -/
def k16 : Class := { plain "[I" (some 0) with kind := .array 15 .int, interfaces := #[11, 4], accessFlags := 1041 }

/-- the primitive long -/
def k17 : Class := { plain "long" none with kind := .primitive 'J', accessFlags := 0x411 }
/-- [J -/
def k18 : Class := { plain "[J" (some 0) with kind := .array 17 .long, interfaces := #[11, 4], accessFlags := 1041 }

def heap : Heap := #[]
def classes : Array Class := #[k0, k1, k2, k3, k4, k5, k6, k7, k8, k9, k10, k11, k12, k13, k14, k15, k16, k17, k18]
def interned : List (Array UInt16 × Addr) := []
def slotsUsed : Nat := 0
def theMethod : MethodId := ⟨1, 4⟩
def args0 : Array Value := #[.long 5, .long 5, .long 5, .long 5, .long 5, .long 5]
def aboutOver (below : List Frame) : State where
  vm := { classes := classes, interned := interned.toArray }
  heap := heap
  slotsUsed := slotsUsed
  threads := #[{ frames := .invoking theMethod args0 :: below }]
def below0 : List Frame := [.native { method := ⟨0, 0⟩, args := #[] }]
def about1 : State := aboutOver below0
def p0 : Program := .bare "" "" ""
def e0 : Env := launch0.env 0 0 0
theorem w_frames : about1.frames = Frame.invoking theMethod args0 :: below0 := rfl
set_option maxRecDepth 65536 in
theorem w_args : argsFit about1.vm theMethod args0 = true := by decide +kernel
set_option maxRecDepth 65536 in
theorem w_heap : heapFits about1 = true := by decide +kernel
set_option maxRecDepth 65536 in
theorem w_runnable : about1.curStatus? = some .runnable := by decide +kernel
set_option maxRecDepth 65536 in
theorem w_alone : about1.alone = true := by decide +kernel
set_option maxRecDepth 65536 in
theorem w_named : about1.methodNamed? x = some theMethod := by decide +kernel
set_option maxRecDepth 65536 in
theorem w_hears : about1.hears theMethod below0 = true := by decide +kernel
set_option maxRecDepth 65536 in
theorem w_ripe : about1.ripe theMethod args0 below0 = true := by decide +kernel
theorem w_running : about1.status = .running := rfl
set_option maxRecDepth 65536 in
theorem w_room : about1.hasRoom e0.platform room_1 = true :=
  launch0.hasRoom_least _ room_1 (by decide +kernel) (by decide +kernel) (by decide +kernel) (by decide +kernel) (by decide +kernel) (by decide +kernel)
theorem allAtoms_all (ts : List Jvm.Cond) (a : Array Jvm.Value) (st : Jvm.State) : (allAtoms ts).before a st = ts.all (fun c => c.before a st) := by
  induction ts with
  | nil => rfl
  | cons c t ih =>
    show (Jvm.Cond.and c (allAtoms t)).before a st = _
    rw [Jvm.Cond.before_and, ih, List.all_cons]
def words1 : List Jvm.Cond := Jvm.Cond.code x code maxLocals ret :: tables_1
/-- a 'code' word, met by the world's own term for the bytes: nothing is compared byte by byte -/
theorem code_word {y : MethodName} {bytes : ByteArray} {mx : Nat} {rt : Option FieldType} {a : Array Value} {s : State} {m : MethodId} {meth : Method} {c : Code} (h1 : s.methodNamed? y = some m) (h2 : s.vm.method? m = some meth) (h3 : meth.code = some c) (h4 : c.code = bytes)
    (h5 : (c.maxLocals == mx && c.exceptionTable.isEmpty && decide (c.maxStack ≤ mostOperands) && decide (meth.sig.returnType = rt) && !meth.locks && decide (parseMethodDescriptor y.desc = some meth.sig)) = true) : (Jvm.Cond.code y bytes mx rt).before a s = true := by
  simp only [Bool.and_eq_true, beq_iff_eq, Bool.not_eq_true', decide_eq_true_eq] at h5
  obtain ⟨⟨⟨⟨⟨g1, g2⟩, g3⟩, g4⟩, g5⟩, g6⟩ := h5
  simp [Cond.before, Cond.holds, Cond.value, h1, h2, h3, h4, g1, g2, g3, g4, g5, g6]
def isCode : Jvm.Cond → Bool
  | .code _ _ _ _ => true
  | _ => false
theorem all_split {L : List Jvm.Cond} {P : Jvm.Cond → Bool} (h1 : L.all (fun c => isCode c || P c) = true) (h2 : ∀ c ∈ L.filter isCode, P c = true) : L.all P = true := by
  refine List.all_eq_true.mpr fun c hc => ?_
  have h := List.all_eq_true.mp h1 c hc
  rcases Bool.eq_false_or_eq_true (isCode c) with hi | hi
  · exact h2 c (List.mem_filter.mpr ⟨hc, hi⟩)
  · simpa [hi] using h
set_option maxRecDepth 65536 in
theorem w_c0 : (Jvm.Cond.code x code maxLocals ret).before args0 about1 = true := code_word (m := ⟨1, 4⟩) (meth := k1m4) (c := k1c4) (by decide +kernel) rfl rfl rfl (by decide +kernel)
set_option maxRecDepth 65536 in
theorem w_c1 : (Jvm.Cond.code ({ cls := "com/example/stowline/stowline/VolumeBoundValuePinLaw", name := "cap", desc := "(J)J" } : Jvm.MethodName) method_2_code (4 : Nat) (Option.some Jvm.ClassFile.FieldType.long)).before args0 about1 = true := code_word (m := ⟨1, 1⟩) (meth := k1m1) (c := k1c1) (by decide +kernel) rfl rfl rfl (by decide +kernel)
set_option maxRecDepth 65536 in
theorem w_c2 : (Jvm.Cond.code ({ cls := "com/example/stowline/stowline/VolumeBoundValuePinLaw", name := "size", desc := "(JJ)J" } : Jvm.MethodName) method_3_code (6 : Nat) (Option.some Jvm.ClassFile.FieldType.long)).before args0 about1 = true := code_word (m := ⟨1, 2⟩) (meth := k1m2) (c := k1c2) (by decide +kernel) rfl rfl rfl (by decide +kernel)
set_option maxRecDepth 65536 in
theorem w_c3 : (Jvm.Cond.code ({ cls := "com/example/stowline/stowline/VolumeBound", name := "<init>", desc := "([J)V" } : Jvm.MethodName) prog_29_method_1_code (2 : Nat) (Option.none : Option Jvm.ClassFile.FieldType)).before args0 about1 = true := code_word (m := ⟨2, 0⟩) (meth := k2m0) (c := k2c0) (by decide +kernel) rfl rfl rfl (by decide +kernel)
set_option maxRecDepth 65536 in
theorem w_c4 : (Jvm.Cond.code ({ cls := "java/lang/Object", name := "<init>", desc := "()V" } : Jvm.MethodName) object_method_1_code (1 : Nat) (Option.none : Option Jvm.ClassFile.FieldType)).before args0 about1 = true := code_word (m := ⟨0, 0⟩) (meth := k0m0) (c := k0c0) (by decide +kernel) rfl rfl rfl (by decide +kernel)
set_option maxRecDepth 65536 in
theorem w_c5 : (Jvm.Cond.code ({ cls := "com/example/stowline/stowline/Capacities", name := "checkedCopy", desc := "([J)[J" } : Jvm.MethodName) prog_4_method_2_code (2 : Nat) (Option.some (Jvm.ClassFile.FieldType.array Jvm.ClassFile.FieldType.long))).before args0 about1 = true := code_word (m := ⟨3, 1⟩) (meth := k3m1) (c := k3c1) (by decide +kernel) rfl rfl rfl (by decide +kernel)
set_option maxRecDepth 65536 in
theorem w_c6 : (Jvm.Cond.code ({ cls := "java/util/Objects", name := "requireNonNull", desc := "(Ljava/lang/Object;Ljava/lang/String;)Ljava/lang/Object;" } : Jvm.MethodName) jdk_31_method_11_code (2 : Nat) (Option.some (Jvm.ClassFile.FieldType.object "java/lang/Object"))).before args0 about1 = true := code_word (m := ⟨10, 1⟩) (meth := k10m1) (c := k10c1) (by decide +kernel) rfl rfl rfl (by decide +kernel)
set_option maxRecDepth 65536 in
theorem w_c7 : (Jvm.Cond.code ({ cls := "com/example/stowline/stowline/VolumeBound", name := "add", desc := "([J)V" } : Jvm.MethodName) prog_29_method_3_code (5 : Nat) (Option.none : Option Jvm.ClassFile.FieldType)).before args0 about1 = true := code_word (m := ⟨2, 1⟩) (meth := k2m1) (c := k2c1) (by decide +kernel) rfl rfl rfl (by decide +kernel)
set_option maxRecDepth 65536 in
theorem w_c8 : (Jvm.Cond.code ({ cls := "com/example/stowline/stowline/VolumeBound", name := "checkSizes", desc := "([J)V" } : Jvm.MethodName) prog_29_method_10_code (2 : Nat) (Option.none : Option Jvm.ClassFile.FieldType)).before args0 about1 = true := code_word (m := ⟨2, 4⟩) (meth := k2m4) (c := k2c4) (by decide +kernel) rfl rfl rfl (by decide +kernel)
set_option maxRecDepth 65536 in
theorem w_c9 : (Jvm.Cond.code ({ cls := "com/example/stowline/stowline/Capacities", name := "checkSizes", desc := "([J[J)V" } : Jvm.MethodName) prog_4_method_3_code (3 : Nat) (Option.none : Option Jvm.ClassFile.FieldType)).before args0 about1 = true := code_word (m := ⟨3, 2⟩) (meth := k3m2) (c := k3c2) (by decide +kernel) rfl rfl rfl (by decide +kernel)
set_option maxRecDepth 65536 in
theorem w_c10 : (Jvm.Cond.code ({ cls := "com/example/stowline/stowline/VolumeBound", name := "value", desc := "()J" } : Jvm.MethodName) prog_29_method_5_code (6 : Nat) (Option.some Jvm.ClassFile.FieldType.long)).before args0 about1 = true := code_word (m := ⟨2, 3⟩) (meth := k2m3) (c := k2c3) (by decide +kernel) rfl rfl rfl (by decide +kernel)
set_option maxRecDepth 65536 in
theorem w_c11 : (Jvm.Cond.code ({ cls := "java/lang/Math", name := "max", desc := "(JJ)J" } : Jvm.MethodName) jdk_29_method_66_code (4 : Nat) (Option.some Jvm.ClassFile.FieldType.long)).before args0 about1 = true := code_word (m := ⟨12, 1⟩) (meth := k12m1) (c := k12c1) (by decide +kernel) rfl rfl rfl (by decide +kernel)
set_option maxRecDepth 65536 in
theorem w_c12 : (Jvm.Cond.code ({ cls := "com/example/stowline/stowline/VolumeBoundValuePinLaw", name := "ceilTwo", desc := "(JJJ)J" } : Jvm.MethodName) method_4_code (6 : Nat) (Option.some Jvm.ClassFile.FieldType.long)).before args0 about1 = true := code_word (m := ⟨1, 3⟩) (meth := k1m3) (c := k1c3) (by decide +kernel) rfl rfl rfl (by decide +kernel)
set_option maxRecDepth 65536 in
theorem w_c13 : (Jvm.Cond.code ({ cls := "com/example/stowline/stowline/VolumeBound", name := "remove", desc := "([J)V" } : Jvm.MethodName) prog_29_method_4_code (3 : Nat) (Option.none : Option Jvm.ClassFile.FieldType)).before args0 about1 = true := code_word (m := ⟨2, 2⟩) (meth := k2m2) (c := k2c2) (by decide +kernel) rfl rfl rfl (by decide +kernel)
def codes1 : List Jvm.Cond := [Jvm.Cond.code x code maxLocals ret, Jvm.Cond.code ({ cls := "com/example/stowline/stowline/VolumeBoundValuePinLaw", name := "cap", desc := "(J)J" } : Jvm.MethodName) method_2_code (4 : Nat) (Option.some Jvm.ClassFile.FieldType.long), Jvm.Cond.code ({ cls := "com/example/stowline/stowline/VolumeBoundValuePinLaw", name := "size", desc := "(JJ)J" } : Jvm.MethodName) method_3_code (6 : Nat) (Option.some Jvm.ClassFile.FieldType.long), Jvm.Cond.code ({ cls := "com/example/stowline/stowline/VolumeBound", name := "<init>", desc := "([J)V" } : Jvm.MethodName) prog_29_method_1_code (2 : Nat) (Option.none : Option Jvm.ClassFile.FieldType), Jvm.Cond.code ({ cls := "java/lang/Object", name := "<init>", desc := "()V" } : Jvm.MethodName) object_method_1_code (1 : Nat) (Option.none : Option Jvm.ClassFile.FieldType), Jvm.Cond.code ({ cls := "com/example/stowline/stowline/Capacities", name := "checkedCopy", desc := "([J)[J" } : Jvm.MethodName) prog_4_method_2_code (2 : Nat) (Option.some (Jvm.ClassFile.FieldType.array Jvm.ClassFile.FieldType.long)), Jvm.Cond.code ({ cls := "java/util/Objects", name := "requireNonNull", desc := "(Ljava/lang/Object;Ljava/lang/String;)Ljava/lang/Object;" } : Jvm.MethodName) jdk_31_method_11_code (2 : Nat) (Option.some (Jvm.ClassFile.FieldType.object "java/lang/Object")), Jvm.Cond.code ({ cls := "com/example/stowline/stowline/VolumeBound", name := "add", desc := "([J)V" } : Jvm.MethodName) prog_29_method_3_code (5 : Nat) (Option.none : Option Jvm.ClassFile.FieldType), Jvm.Cond.code ({ cls := "com/example/stowline/stowline/VolumeBound", name := "checkSizes", desc := "([J)V" } : Jvm.MethodName) prog_29_method_10_code (2 : Nat) (Option.none : Option Jvm.ClassFile.FieldType), Jvm.Cond.code ({ cls := "com/example/stowline/stowline/Capacities", name := "checkSizes", desc := "([J[J)V" } : Jvm.MethodName) prog_4_method_3_code (3 : Nat) (Option.none : Option Jvm.ClassFile.FieldType), Jvm.Cond.code ({ cls := "com/example/stowline/stowline/VolumeBound", name := "value", desc := "()J" } : Jvm.MethodName) prog_29_method_5_code (6 : Nat) (Option.some Jvm.ClassFile.FieldType.long), Jvm.Cond.code ({ cls := "java/lang/Math", name := "max", desc := "(JJ)J" } : Jvm.MethodName) jdk_29_method_66_code (4 : Nat) (Option.some Jvm.ClassFile.FieldType.long), Jvm.Cond.code ({ cls := "com/example/stowline/stowline/VolumeBoundValuePinLaw", name := "ceilTwo", desc := "(JJJ)J" } : Jvm.MethodName) method_4_code (6 : Nat) (Option.some Jvm.ClassFile.FieldType.long), Jvm.Cond.code ({ cls := "com/example/stowline/stowline/VolumeBound", name := "remove", desc := "([J)V" } : Jvm.MethodName) prog_29_method_4_code (3 : Nat) (Option.none : Option Jvm.ClassFile.FieldType)]
set_option maxRecDepth 65536 in
theorem codes_eq : words1.filter isCode = codes1 := rfl
theorem w_codes : ∀ c ∈ words1.filter isCode, c.before args0 about1 = true := by
  rw [codes_eq]
  intro c hc
  simp only [codes1, List.mem_cons, List.not_mem_nil, or_false] at hc
  rcases hc with rfl | rfl | rfl | rfl | rfl | rfl | rfl | rfl | rfl | rfl | rfl | rfl | rfl | rfl
  · exact w_c0
  · exact w_c1
  · exact w_c2
  · exact w_c3
  · exact w_c4
  · exact w_c5
  · exact w_c6
  · exact w_c7
  · exact w_c8
  · exact w_c9
  · exact w_c10
  · exact w_c11
  · exact w_c12
  · exact w_c13
set_option maxRecDepth 65536 in
theorem w_t1 : (words1.take 24).all (fun c => isCode c || c.before args0 about1) = true := by decide +kernel
set_option maxRecDepth 65536 in
theorem w_t2 : ((words1.drop 24).take 24).all (fun c => isCode c || c.before args0 about1) = true := by decide +kernel
set_option maxRecDepth 65536 in
theorem w_t3 : (((words1.drop 24).drop 24).take 24).all (fun c => isCode c || c.before args0 about1) = true := by decide +kernel
set_option maxRecDepth 65536 in
theorem w_t4 : (((words1.drop 24).drop 24).drop 24).all (fun c => isCode c || c.before args0 about1) = true := by decide +kernel
theorem w_tables : (allAtoms (Jvm.Cond.code x code maxLocals ret :: tables_1)).before args0 about1 = true := by
  rw [allAtoms_all]
  show words1.all (fun c => c.before args0 about1) = true
  refine all_split ?_ w_codes
  rw [← List.take_append_drop 24 words1, List.all_append, w_t1, ← List.take_append_drop 24 (words1.drop 24), List.all_append, w_t2, ← List.take_append_drop 24 ((words1.drop 24).drop 24), List.all_append, w_t3, w_t4]
  rfl
set_option maxRecDepth 65536 in
theorem w_case : (Jvm.Cond.and given_1 narrow_1).before args0 about1 = true := by decide +kernel
theorem w_applies : (headSpec (Jvm.Cond.code x code maxLocals ret :: tables_1) room_1).applies x e0.platform about1 = true :=
  (Spec.applies_iff w_frames).mpr ⟨w_running, w_runnable, w_alone, w_named, w_hears, w_ripe, w_room, w_tables⟩
theorem atStart : AtStart classFile x code maxLocals ret World_1 tables_1 room_1 Calls_1 rest_1 Pre_1 launch0 p0 e0 about1 theMethod args0 below0 :=
  ⟨lists_1, trivial, launch0.admits_env _ _ _, launch0.least_env, fairChoices_fair.cas, fairChoices_fair.clock, w_frames, w_args, w_heap, w_applies, trivial, trivial, w_case⟩
end start1
theorem witness_1 : WitnessClaimed_1 := ⟨start1.p0, start1.e0, start1.about1, start1.theMethod, start1.args0, start1.below0, start1.atStart⟩
end Jvm.Pilot.@@N@@
