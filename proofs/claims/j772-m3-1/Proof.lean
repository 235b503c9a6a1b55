import JvmDerived
import JvmDerived.Pilot.@@N@@Statement
import JvmDerived.Pilot.@@N@@Code
set_option linter.unusedVariables false
set_option linter.unusedSimpArgs false
@@BLOCK:NumsL.lean.txt@@
namespace Jvm.Pilot.@@N@@
open Jvm Jvm.ClassFile Sem Op Lib Jvm.Free Jvm.Stand Jvm.LawKit Jvm.RoadKit Bundle Jvm.Pilot.@@N@@.Jvm.D
theorem own_m {Z : State} {aw : Array Value} (hw : ∀ d ∈ tables_1, d.before aw Z = true) (i : Nat) {d : Jvm.Cond} (h : tables_1[i]? = some d) : d.before aw Z = true := hw d (List.mem_of_getElem? h)
theorem own_tnc (x : Int32) : x.toNatClampNeg = x.toInt.toNat := rfl
theorem own_lc (x y : Int64) : lcmpW x y = if x > y then 1 else if x = y then 0 else -1 := rfl
theorem own_lt (x y : Int64) : lcmpW x y < 0 ↔ x < y := by
  rw [own_lc]; split
  · rename_i h; exact ⟨fun q => absurd q (by decide), fun q => absurd h (Int64.lt_asymm q)⟩
  · split
    · rename_i h1 h2; subst h2; exact ⟨fun q => absurd q (by decide), fun q => absurd q Int64.lt_irrefl⟩
    · rename_i h1 h2; exact ⟨fun _ => (Int64.lt_or_lt_of_ne h2).resolve_right h1, fun _ => by decide⟩
theorem own_gt (x y : Int64) : 0 < lcmpW x y ↔ y < x := by
  rw [own_lc]; split
  · rename_i h; exact ⟨fun _ => h, fun _ => by decide⟩
  · split
    · rename_i h1 h2; exact ⟨fun q => absurd q (by decide), fun q => absurd q h1⟩
    · rename_i h1 h2; exact ⟨fun q => absurd q (by decide), fun q => absurd q h1⟩
theorem own_eq (x y : Int64) : lcmpW x y = 0 ↔ x = y := by
  rw [own_lc]; split
  · rename_i h; exact ⟨fun q => absurd q (by decide), fun q => absurd (q ▸ h) Int64.lt_irrefl⟩
  · split
    · rename_i h1 h2; exact ⟨fun _ => h2, fun _ => rfl⟩
    · rename_i h1 h2; exact ⟨fun q => absurd q (by decide), fun q => absurd q h2⟩
theorem d2_0 : decode jdk_29_method_66_code 0 = .ok (.lload_n 0, 1) := by decide +kernel
theorem d2_1 : decode jdk_29_method_66_code 1 = .ok (.lload_n 2, 1) := by decide +kernel
theorem d2_2 : decode jdk_29_method_66_code 2 = .ok (.lcmp, 1) := by decide +kernel
theorem d2_3 : decode jdk_29_method_66_code 3 = .ok (.ifCond .lt 7, 3) := by decide +kernel
theorem d2_10 : decode jdk_29_method_66_code 10 = .ok (.lload_n 2, 1) := by decide +kernel
theorem d2_6 : decode jdk_29_method_66_code 6 = .ok (.lload_n 0, 1) := by decide +kernel
theorem d2_7 : decode jdk_29_method_66_code 7 = .ok (.goto 4, 3) := by decide +kernel
theorem d2_11 : decode jdk_29_method_66_code 11 = .ok (.lreturn, 1) := by decide +kernel
def j2_0 (q0 : Int64) (q1 : Int64) : Int64 := (if q0 < q1 then q1 else q0)
theorem ef2 (m : MethodId) (x0 : Int64) (x1 : Int64) : entryFrame m #[(.long x0), (.long x1)] 4 = mkF m 0 #[.val (.long x0), .second, .val (.long x1), .second] [] := by first | (simp [entryFrame, mkF, argsToLocals, Value.category]; done) | rfl
abbrev rr2 : Room := { frames := 0, cells := 0, slots := 0, locals := 0 }
def Q2 (Z : State) (q0 : Int64) (q1 : Int64) (h0 : Heap) (n0 : Nat) (v : Option Value) (h : Heap) (L : List Loc) : Prop := v = some (.long (j2_0 q0 q1)) ∧ Fr n0 L ∧ h = h0
set_option maxRecDepth 65536 in
set_option maxHeartbeats 40000000 in
theorem rm2 (l : Launch) (Z : State) (aw : Array Value) (hw : ∀ d ∈ tables_1, d.before aw Z = true) (ws : List Jvm.Cond) (q0 : Int64) (q1 : Int64) (h0 : Heap) (n0 : Nat) (Z0 : n0 ≤ h0.size)  :
    MetFree l (⟨"java/lang/Math", "max", "(JJ)J"⟩ : MethodName) (head1 (Jvm.Cond.code (⟨"java/lang/Math", "max", "(JJ)J"⟩ : MethodName) jdk_29_method_66_code 4 (some .long) :: ws) rr2) (fun a U => a = #[(.long q0), (.long q1)] ∧ Z.Warmed39 U.vm ∧ U.heap = h0) (fun _ _ _ _ _ => True) (fun _ U o U' => ∃ v L, o = .returned v ∧ Q2 Z q0 q1 h0 n0 v U'.heap L ∧ FrameEnd U o U' L rr2.cells rr2.slots) := by
  refine MetFree.of_bodySF (Jvm.Free.JP.mathPlain rfl (by decide +kernel)) hisR ?_
  intro p e s m args below meth c s₁ Bd hml0 hP hK
  obtain ⟨rfl, hZ, hh⟩ := hP
  have hx := Bd.exec
  have hby := Bd.bytes
  have hml : c.maxLocals = 4 := hml0
  have hown : s.vm.findClass "java/lang/Math" = some m.cls := findClass_of_methodNamed Bd.named
  have hnm := (name_of_methodNamed Bd.named Bd.method).1
  have X0 : Stand p l e rr2 s m #[(.long q0), (.long q1)] below meth c s₁ [] 0 0 := Stand.of_body Bd
  have e0 : s₁.heap = h0 := by rw [← hh, Bd.state]; rfl
  have N0 := Fr.nil n0
  have pre0 : ∀ t, Steps p.tables e below (s₁.setTop (mkF m 0 #[.val (.long q0), .second, .val (.long q1), .second] [])) t → Steps p.tables e below (s₁.setTop (entryFrame m #[(.long q0), (.long q1)] 4)) t := fun t k => castTop (ef2 m q0 q1) k
  have pre1 := fun (t : State) (k : Steps p.tables e below (s₁.setTop (mkF m 3 #[.val (.long q0), .second, .val (.long q1), .second] [(.int (lcmpW q0 q1))])) t) => pre0 t (by
    show Steps p.tables e below (s₁.setTop (mkF m 0 #[.val (.long q0), .second, .val (.long q1), .second] [])) _
    refine XS.lloadN X0.here hx rfl (hb hby d2_0) rfl ?_
    show Steps p.tables e below (s₁.setTop (mkF m 1 #[.val (.long q0), .second, .val (.long q1), .second] [(.long q0)])) _
    refine XS.lloadN X0.here hx rfl (hb hby d2_1) rfl ?_
    show Steps p.tables e below (s₁.setTop (mkF m 2 #[.val (.long q0), .second, .val (.long q1), .second] [(.long q1), (.long q0)])) _
    refine XS.lcmp X0.here hx rfl (hb hby d2_2) rfl ?_
    exact k)
  have pre2 := fun (t : State) (k : Steps p.tables e below (s₁.setTop (mkF m 11 #[.val (.long q0), .second, .val (.long q1), .second] [(.long (j2_0 q0 q1))])) t) => pre1 t (by
    by_cases hc3 : q0 < q1
    · skip
      show Steps p.tables e below (s₁.setTop (mkF m 3 #[.val (.long q0), .second, .val (.long q1), .second] [(.int (lcmpW q0 q1))])) _
      refine XS.ifYes X0.here hx rfl (pc0 := 3) (pc' := 10) rfl (hb hby d2_3) rfl ((if0 _ _).trans (tlt ((own_lt q0 q1).mpr hc3)).1) (by decide) (by decide) ?_
      show Steps p.tables e below (s₁.setTop (mkF m 10 #[.val (.long q0), .second, .val (.long q1), .second] [])) _
      refine XS.lloadN X0.here hx rfl (hb hby d2_10) rfl ?_
      have hj4 : (j2_0 q0 q1) = q1 := by unfold j2_0; first | (rw [if_pos hc3]) | (simp only [if_pos hc3])
      rw [hj4] at k
      exact k
    · skip
      show Steps p.tables e below (s₁.setTop (mkF m 3 #[.val (.long q0), .second, .val (.long q1), .second] [(.int (lcmpW q0 q1))])) _
      refine XS.ifNo X0.here hx rfl (hb hby d2_3) rfl ((if0 _ _).trans (flt (mt (own_lt q0 q1).mp hc3)).1) ?_
      show Steps p.tables e below (s₁.setTop (mkF m 6 #[.val (.long q0), .second, .val (.long q1), .second] [])) _
      refine XS.lloadN X0.here hx rfl (hb hby d2_6) rfl ?_
      show Steps p.tables e below (s₁.setTop (mkF m 7 #[.val (.long q0), .second, .val (.long q1), .second] [(.long q0)])) _
      refine XS.goto X0.here hx rfl (pc0 := 7) (pc' := 11) rfl (hb hby d2_7) (by decide) (by decide) ?_
      have hj5 : (j2_0 q0 q1) = q0 := by unfold j2_0; first | (rw [if_neg hc3]) | (simp only [if_neg hc3])
      rw [hj5] at k
      exact k)
  obtain ⟨fs, hr, hrun, hended, hW, hsame⟩ := X0.leave (v := some (.long (j2_0 q0 q1))) (fun h => by rw [Bd.returns] at h; cases h)
  refine ⟨_, _, pre2 _ ?_, hrun, hended, _, _, rfl, ?_, ⟨_, rfl⟩, hW, hsame.mono (by decide) (by decide)⟩
  · skip
    show Steps p.tables e below (s₁.setTop (mkF m 11 #[.val (.long q0), .second, .val (.long q1), .second] [(.long (j2_0 q0 q1))])) _
    exact retOut X0 hx Bd.returns rfl (Or.inr (Or.inl ⟨rfl, rfl, _, rfl⟩)) (hb hby d2_11) hr
  · show Q2 Z q0 q1 h0 n0 _ s₁.heap _
    rw [e0]
    exact ⟨rfl, N0, rfl⟩
theorem d1_0 : decode prog_3_method_6_code 0 = .ok (.lconst 1, 1) := by decide +kernel
theorem d1_1 : decode prog_3_method_6_code 1 = .ok (.lload_n 0, 1) := by decide +kernel
theorem d1_2 : decode prog_3_method_6_code 2 = .ok (.ldc2_w 115, 3) := by decide +kernel
theorem d1_5 : decode prog_3_method_6_code 5 = .ok (.ladd, 1) := by decide +kernel
theorem d1_6 : decode prog_3_method_6_code 6 = .ok (.ldc2_w 117, 3) := by decide +kernel
theorem d1_9 : decode prog_3_method_6_code 9 = .ok (.ldiv, 1) := by decide +kernel
theorem pd_0 : parseMethodDescriptor "(JJ)J" = some ⟨[.long, .long], some .long⟩ := by decide +kernel
theorem d1_10 : decode prog_3_method_6_code 10 = .ok (.invokestatic 119, 3) := by decide +kernel
theorem d1_13 : decode prog_3_method_6_code 13 = .ok (.lreturn, 1) := by decide +kernel
theorem pn_1 : plainName "com/example/run_state_store/runstatestore/BenchWriters" = true := by first | (simp [plainName, overriddenIn]; done) | decide +kernel
theorem ef1 (m : MethodId) (x0 : Int64) : entryFrame m #[(.long x0)] 2 = mkF m 0 #[.val (.long x0), .second] [] := by first | (simp [entryFrame, mkF, argsToLocals, Value.category]; done) | rfl
abbrev rr1 : Room := { frames := 1, cells := 0, slots := 0, locals := 15 }
def Q1 (Z : State) (q0 : Int64) (h0 : Heap) (n0 : Nat) (v : Option Value) (h : Heap) (L : List Loc) : Prop := v = some (.long (j2_0 (1 : Int64) ((q0 + (999999 : Int64)) / (1000000 : Int64)))) ∧ Fr n0 L ∧ h = h0
set_option maxRecDepth 65536 in
set_option maxHeartbeats 40000000 in
theorem rm1 (l : Launch) (Z : State) (aw : Array Value) (hw : ∀ d ∈ tables_1, d.before aw Z = true) (ws : List Jvm.Cond) (q0 : Int64) (h0 : Heap) (n0 : Nat) (Z0 : n0 ≤ h0.size)  :
    MetFree l (⟨"com/example/run_state_store/runstatestore/BenchWriters", "millis", "(J)J"⟩ : MethodName) (head1 (Jvm.Cond.code (⟨"com/example/run_state_store/runstatestore/BenchWriters", "millis", "(J)J"⟩ : MethodName) prog_3_method_6_code 2 (some .long) :: ws) rr1) (fun a U => a = #[(.long q0)] ∧ Z.Warmed39 U.vm ∧ U.heap = h0) (fun _ _ _ _ _ => True) (fun _ U o U' => ∃ v L, o = .returned v ∧ Q1 Z q0 h0 n0 v U'.heap L ∧ FrameEnd U o U' L rr1.cells rr1.slots) := by
  refine MetFree.of_bodySF (plainFor_of_name pn_1) hisR ?_
  intro p e s m args below meth c s₁ Bd hml0 hP hK
  obtain ⟨rfl, hZ, hh⟩ := hP
  have hx := Bd.exec
  have hby := Bd.bytes
  have hml : c.maxLocals = 2 := hml0
  have hown : s.vm.findClass "com/example/run_state_store/runstatestore/BenchWriters" = some m.cls := findClass_of_methodNamed Bd.named
  have hnm := (name_of_methodNamed Bd.named Bd.method).1
  have X0 : Stand p l e rr1 s m #[(.long q0)] below meth c s₁ [] 0 0 := Stand.of_body Bd
  have e0 : s₁.heap = h0 := by rw [← hh, Bd.state]; rfl
  have N0 := Fr.nil n0
  have pre0 : ∀ t, Steps p.tables e below (s₁.setTop (mkF m 0 #[.val (.long q0), .second] [])) t → Steps p.tables e below (s₁.setTop (entryFrame m #[(.long q0)] 2)) t := fun t k => castTop (ef1 m q0) k
  obtain ⟨_, _, ⟨T6, L6, k6, n6⟩, -, X6, ⟨Lc6, hQ6, l6, y6, z6⟩, st6⟩ := Jvm.LawKit.callS X0 hx (y := (⟨"java/lang/Math", "max", "(JJ)J"⟩ : MethodName)) hown (mvT hZ (hw _ (List.mem_of_getElem? (i := 10) rfl))) (mvT hZ (hw _ (List.mem_of_getElem? (i := 11) rfl))) (mvT hZ (hw _ (List.mem_of_getElem? (i := 12) rfl))) (mvT hZ (hw _ (List.mem_of_getElem? (i := 13) rfl))) (by decide) (backOf (W := 0) (rm2 l Z aw hw [] ((1 : Int64)) (((q0 + (999999 : Int64)) / (1000000 : Int64))) h0 n0 Z0 ) hZ (hw _ (List.mem_of_getElem? (i := 13) rfl)) (hw _ (List.mem_of_getElem? (i := 12) rfl)) (by decide) (by decide)) (g := (mkF m 10 #[.val (.long q0), .second] [(.long ((q0 + (999999 : Int64)) / (1000000 : Int64))), (.long (1 : Int64))])) rfl (by rw [hml]; rfl) (argsL := [(.long (1 : Int64)), (.long ((q0 + (999999 : Int64)) / (1000000 : Int64)))]) (rest := []) (lenOf pd_0 rfl) rfl (by show 2 * 0 + _ ≤ _; exact Nat.le_of_eq rfl) (hb hby d1_10) (fun _ _ => ⟨rfl, e0, (by decide : 0 + 0 ≤ _), (by decide : 0 + 0 ≤ _)⟩)
  dsimp only [Pt.U, Pt.locs, Pt.cells, Pt.slots] at X6 l6 y6 z6 st6 hQ6
  subst l6 y6 z6
  obtain ⟨rfl, N6q, e6⟩ := hQ6
  have N6 := Fr.app N0 N6q
  obtain ⟨fs, hr, hrun, hended, hW, hsame⟩ := X6.leave (v := some (.long (j2_0 (1 : Int64) ((q0 + (999999 : Int64)) / (1000000 : Int64))))) (fun h => by rw [Bd.returns] at h; cases h)
  refine ⟨_, _, pre0 _ ?_, hrun, hended, _, _, rfl, ?_, ⟨_, rfl⟩, hW, hsame.mono (by decide) (by decide)⟩
  · skip
    show Steps p.tables e below (s₁.setTop (mkF m 0 #[.val (.long q0), .second] [])) _
    refine XS.lconst X0.here hx rfl (hb hby d1_0) ?_
    show Steps p.tables e below (s₁.setTop (mkF m 1 #[.val (.long q0), .second] [(.long (1 : Int64))])) _
    refine XS.lloadN X0.here hx rfl (hb hby d1_1) rfl ?_
    show Steps p.tables e below (s₁.setTop (mkF m 2 #[.val (.long q0), .second] [(.long q0), (.long (1 : Int64))])) _
    refine X0.ldc2Long hx hown (mvT hZ (hw _ (List.mem_of_getElem? (i := 8) rfl))) (g := (mkF m 2 #[.val (.long q0), .second] [(.long q0), (.long (1 : Int64))])) rfl (hb hby d1_2) _ ?_
    show Steps p.tables e below (s₁.setTop (mkF m 5 #[.val (.long q0), .second] [(.long (999999 : Int64)), (.long q0), (.long (1 : Int64))])) _
    refine XS.ladd X0.here hx rfl (hb hby d1_5) rfl ?_
    show Steps p.tables e below (s₁.setTop (mkF m 6 #[.val (.long q0), .second] [(.long (q0 + (999999 : Int64))), (.long (1 : Int64))])) _
    refine X0.ldc2Long hx hown (mvT hZ (hw _ (List.mem_of_getElem? (i := 9) rfl))) (g := (mkF m 6 #[.val (.long q0), .second] [(.long (q0 + (999999 : Int64))), (.long (1 : Int64))])) rfl (hb hby d1_6) _ ?_
    show Steps p.tables e below (s₁.setTop (mkF m 9 #[.val (.long q0), .second] [(.long (1000000 : Int64)), (.long (q0 + (999999 : Int64))), (.long (1 : Int64))])) _
    refine XS.ldiv X0.here hx rfl (hb hby d1_9) rfl (by decide) ?_
    show Steps p.tables e below (s₁.setTop (mkF m 10 #[.val (.long q0), .second] [(.long ((q0 + (999999 : Int64)) / (1000000 : Int64))), (.long (1 : Int64))])) _
    refine st6 _ ?_
    show Steps p.tables e below (T6.setTop (mkF m 13 #[.val (.long q0), .second] [(.long (j2_0 (1 : Int64) ((q0 + (999999 : Int64)) / (1000000 : Int64))))])) _
    exact retOut X6 hx Bd.returns rfl (Or.inr (Or.inl ⟨rfl, rfl, _, rfl⟩)) (hb hby d1_13) hr
  · show Q1 Z q0 h0 n0 _ T6.heap _
    rw [e6]
    exact ⟨rfl, N6, rfl⟩
theorem pd_2 : parseMethodDescriptor "(J)J" = some ⟨[.long], some .long⟩ := by decide +kernel
def j0_0 (q0 : Int64) (p1 : Int32) : Int64 := (if (p1 &&& (3 : Int32)) = (0 : Int32) then ((((p1.toUInt32 >>> ((2 : Int32) &&& 31).toUInt32).toInt32) % (3000001 : Int32)).toInt64) else (if (p1 &&& (3 : Int32)) = (1 : Int32) then ((9223372036853775808 : Int64) - ((((p1.toUInt32 >>> ((2 : Int32) &&& 31).toUInt32).toInt32) % (3000001 : Int32)).toInt64)) else ((q0 &&& (9223372036854775807 : Int64)) - (q0 &&& (9223372036854775807 : Int64)) / (9223372036853775809 : Int64) * (9223372036853775809 : Int64))))
def j0_1 (q0 : Int64) (p1 : Int32) : Int64 := (if ((j0_0 q0 p1) - (j0_0 q0 p1) / (1000000 : Int64) * (1000000 : Int64)) = (0 : Int64) then ((j0_0 q0 p1) / (1000000 : Int64)) else (((j0_0 q0 p1) / (1000000 : Int64)) + (1 : Int64)))
def j0_2 (q0 : Int64) (p1 : Int32) : Int64 := (if (j0_1 q0 p1) = (0 : Int64) then (1 : Int64) else (j0_1 q0 p1))
def j0_3 (q0 : Int64) (p1 : Int32) : Int32 := (if (j2_0 (1 : Int64) (((j0_0 q0 p1) + (999999 : Int64)) / (1000000 : Int64))) = (j0_2 q0 p1) then (1 : Int32) else (0 : Int32))
theorem pn_2 : plainName "com/example/run_state_store/runstatestore/BenchWritersMillisPinLaw" = true := by first | (simp [plainName, overriddenIn]; done) | decide +kernel
theorem ef0 (m : MethodId) (x0 : Int64) (x1 : Int32) : entryFrame m #[(.long x0), (.int x1)] maxLocals = mkF m 0 #[.val (.long x0), .second, .val (.int x1), .unset, .unset, .unset, .unset, .unset, .unset, .unset, .unset, .unset, .unset, .unset, .unset, .unset] [] := by first | (simp [entryFrame, mkF, argsToLocals, Value.category, maxLocals]; done) | rfl
def Q0 (Z : State) (q0 : Int64) (p1 : Int32) (h0 : Heap) (n0 : Nat) (v : Option Value) (h : Heap) (L : List Loc) : Prop := v = some (.int (nar .boolean (j0_3 q0 p1))) ∧ Fr n0 L
set_option maxRecDepth 65536 in
set_option maxHeartbeats 40000000 in
theorem rm0 (l : Launch) (Z : State) (aw : Array Value) (hw : ∀ d ∈ tables_1, d.before aw Z = true) (ws : List Jvm.Cond) (q0 : Int64) (p1 : Int32) (h0 : Heap) (n0 : Nat) (Z0 : n0 ≤ h0.size)  :
    MetFree l x (head1 (Jvm.Cond.code x code maxLocals ret :: ws) room_1) (fun a U => a = #[(.long q0), (.int p1)] ∧ Z.Warmed39 U.vm ∧ U.heap = h0) (fun _ _ _ _ _ => True) (fun _ U o U' => ∃ v L, o = .returned v ∧ Q0 Z q0 p1 h0 n0 v U'.heap L ∧ FrameEnd U o U' L room_1.cells room_1.slots) := by
  refine MetFree.of_bodySF (plainFor_of_name pn_2) hisR ?_
  intro p e s m args below meth c s₁ Bd hml0 hP hK
  obtain ⟨rfl, hZ, hh⟩ := hP
  have hx := Bd.exec
  have hby := Bd.bytes
  have hml : c.maxLocals = 16 := hml0
  have hown : s.vm.findClass "com/example/run_state_store/runstatestore/BenchWritersMillisPinLaw" = some m.cls := findClass_of_methodNamed Bd.named
  have hnm := (name_of_methodNamed Bd.named Bd.method).1
  have X0 : Stand p l e room_1 s m #[(.long q0), (.int p1)] below meth c s₁ [] 0 0 := Stand.of_body Bd
  have e0 : s₁.heap = h0 := by rw [← hh, Bd.state]; rfl
  have N0 := Fr.nil n0
  have pre0 : ∀ t, Steps p.tables e below (s₁.setTop (mkF m 0 #[.val (.long q0), .second, .val (.int p1), .unset, .unset, .unset, .unset, .unset, .unset, .unset, .unset, .unset, .unset, .unset, .unset, .unset] [])) t → Steps p.tables e below (s₁.setTop (entryFrame m #[(.long q0), (.int p1)] maxLocals)) t := fun t k => castTop (ef0 m q0 p1) k
  have pre9 := fun (t : State) (k : Steps p.tables e below (s₁.setTop (mkF m 20 #[.val (.long q0), .second, .val (.int p1), .val (.long (9223372036853775808 : Int64)), .second, .val (.long ((((p1.toUInt32 >>> ((2 : Int32) &&& 31).toUInt32).toInt32) % (3000001 : Int32)).toInt64)), .second, .val (.int (p1 &&& (3 : Int32))), .unset, .unset, .unset, .unset, .unset, .unset, .unset, .unset] [(.int (p1 &&& (3 : Int32)))])) t) => pre0 t (by
    show Steps p.tables e below (s₁.setTop (mkF m 0 #[.val (.long q0), .second, .val (.int p1), .unset, .unset, .unset, .unset, .unset, .unset, .unset, .unset, .unset, .unset, .unset, .unset, .unset] [])) _
    refine X0.ldc2Long hx hown (mvT hZ (hw _ (List.mem_of_getElem? (i := 0) rfl))) (g := (mkF m 0 #[.val (.long q0), .second, .val (.int p1), .unset, .unset, .unset, .unset, .unset, .unset, .unset, .unset, .unset, .unset, .unset, .unset, .unset] [])) rfl (hb hby at_0) _ ?_
    show Steps p.tables e below (s₁.setTop (mkF m 3 #[.val (.long q0), .second, .val (.int p1), .unset, .unset, .unset, .unset, .unset, .unset, .unset, .unset, .unset, .unset, .unset, .unset, .unset] [(.long (9223372036853775808 : Int64))])) _
    refine XS.lstoreN X0.here hx rfl (hb hby at_3) rfl (l' := #[.val (.long q0), .second, .val (.int p1), .val (.long (9223372036853775808 : Int64)), .second, .unset, .unset, .unset, .unset, .unset, .unset, .unset, .unset, .unset, .unset, .unset]) rfl ?_
    show Steps p.tables e below (s₁.setTop (mkF m 4 #[.val (.long q0), .second, .val (.int p1), .val (.long (9223372036853775808 : Int64)), .second, .unset, .unset, .unset, .unset, .unset, .unset, .unset, .unset, .unset, .unset, .unset] [])) _
    refine XS.iloadN X0.here hx rfl (hb hby at_4) rfl ?_
    show Steps p.tables e below (s₁.setTop (mkF m 5 #[.val (.long q0), .second, .val (.int p1), .val (.long (9223372036853775808 : Int64)), .second, .unset, .unset, .unset, .unset, .unset, .unset, .unset, .unset, .unset, .unset, .unset] [(.int p1)])) _
    refine XS.iconst X0.here hx rfl (hb hby at_5) ?_
    show Steps p.tables e below (s₁.setTop (mkF m 6 #[.val (.long q0), .second, .val (.int p1), .val (.long (9223372036853775808 : Int64)), .second, .unset, .unset, .unset, .unset, .unset, .unset, .unset, .unset, .unset, .unset, .unset] [(.int (2 : Int32)), (.int p1)])) _
    refine XS.iushr X0.here hx rfl (hb hby at_6) rfl ?_
    show Steps p.tables e below (s₁.setTop (mkF m 7 #[.val (.long q0), .second, .val (.int p1), .val (.long (9223372036853775808 : Int64)), .second, .unset, .unset, .unset, .unset, .unset, .unset, .unset, .unset, .unset, .unset, .unset] [(.int ((p1.toUInt32 >>> ((2 : Int32) &&& 31).toUInt32).toInt32))])) _
    refine X0.ldcInt hx hown (mvT hZ (hw _ (List.mem_of_getElem? (i := 1) rfl))) (g := (mkF m 7 #[.val (.long q0), .second, .val (.int p1), .val (.long (9223372036853775808 : Int64)), .second, .unset, .unset, .unset, .unset, .unset, .unset, .unset, .unset, .unset, .unset, .unset] [(.int ((p1.toUInt32 >>> ((2 : Int32) &&& 31).toUInt32).toInt32))])) rfl (hb hby at_7) _ ?_
    show Steps p.tables e below (s₁.setTop (mkF m 9 #[.val (.long q0), .second, .val (.int p1), .val (.long (9223372036853775808 : Int64)), .second, .unset, .unset, .unset, .unset, .unset, .unset, .unset, .unset, .unset, .unset, .unset] [(.int (3000001 : Int32)), (.int ((p1.toUInt32 >>> ((2 : Int32) &&& 31).toUInt32).toInt32))])) _
    refine iremM X0 hx rfl (hb hby at_9) rfl (by decide) ?_
    show Steps p.tables e below (s₁.setTop (mkF m 10 #[.val (.long q0), .second, .val (.int p1), .val (.long (9223372036853775808 : Int64)), .second, .unset, .unset, .unset, .unset, .unset, .unset, .unset, .unset, .unset, .unset, .unset] [(.int (((p1.toUInt32 >>> ((2 : Int32) &&& 31).toUInt32).toInt32) % (3000001 : Int32)))])) _
    refine XS.i2l X0.here hx rfl (hb hby at_10) rfl ?_
    show Steps p.tables e below (s₁.setTop (mkF m 11 #[.val (.long q0), .second, .val (.int p1), .val (.long (9223372036853775808 : Int64)), .second, .unset, .unset, .unset, .unset, .unset, .unset, .unset, .unset, .unset, .unset, .unset] [(.long ((((p1.toUInt32 >>> ((2 : Int32) &&& 31).toUInt32).toInt32) % (3000001 : Int32)).toInt64))])) _
    refine XS.lstore X0.here hx rfl (hb hby at_11) rfl (l' := #[.val (.long q0), .second, .val (.int p1), .val (.long (9223372036853775808 : Int64)), .second, .val (.long ((((p1.toUInt32 >>> ((2 : Int32) &&& 31).toUInt32).toInt32) % (3000001 : Int32)).toInt64)), .second, .unset, .unset, .unset, .unset, .unset, .unset, .unset, .unset, .unset]) rfl ?_
    show Steps p.tables e below (s₁.setTop (mkF m 13 #[.val (.long q0), .second, .val (.int p1), .val (.long (9223372036853775808 : Int64)), .second, .val (.long ((((p1.toUInt32 >>> ((2 : Int32) &&& 31).toUInt32).toInt32) % (3000001 : Int32)).toInt64)), .second, .unset, .unset, .unset, .unset, .unset, .unset, .unset, .unset, .unset] [])) _
    refine XS.iloadN X0.here hx rfl (hb hby at_13) rfl ?_
    show Steps p.tables e below (s₁.setTop (mkF m 14 #[.val (.long q0), .second, .val (.int p1), .val (.long (9223372036853775808 : Int64)), .second, .val (.long ((((p1.toUInt32 >>> ((2 : Int32) &&& 31).toUInt32).toInt32) % (3000001 : Int32)).toInt64)), .second, .unset, .unset, .unset, .unset, .unset, .unset, .unset, .unset, .unset] [(.int p1)])) _
    refine XS.iconst X0.here hx rfl (hb hby at_14) ?_
    show Steps p.tables e below (s₁.setTop (mkF m 15 #[.val (.long q0), .second, .val (.int p1), .val (.long (9223372036853775808 : Int64)), .second, .val (.long ((((p1.toUInt32 >>> ((2 : Int32) &&& 31).toUInt32).toInt32) % (3000001 : Int32)).toInt64)), .second, .unset, .unset, .unset, .unset, .unset, .unset, .unset, .unset, .unset] [(.int (3 : Int32)), (.int p1)])) _
    refine XS.iand X0.here hx rfl (hb hby at_15) rfl ?_
    show Steps p.tables e below (s₁.setTop (mkF m 16 #[.val (.long q0), .second, .val (.int p1), .val (.long (9223372036853775808 : Int64)), .second, .val (.long ((((p1.toUInt32 >>> ((2 : Int32) &&& 31).toUInt32).toInt32) % (3000001 : Int32)).toInt64)), .second, .unset, .unset, .unset, .unset, .unset, .unset, .unset, .unset, .unset] [(.int (p1 &&& (3 : Int32)))])) _
    refine XS.istore X0.here hx rfl (hb hby at_16) rfl (l' := #[.val (.long q0), .second, .val (.int p1), .val (.long (9223372036853775808 : Int64)), .second, .val (.long ((((p1.toUInt32 >>> ((2 : Int32) &&& 31).toUInt32).toInt32) % (3000001 : Int32)).toInt64)), .second, .val (.int (p1 &&& (3 : Int32))), .unset, .unset, .unset, .unset, .unset, .unset, .unset, .unset]) rfl ?_
    show Steps p.tables e below (s₁.setTop (mkF m 18 #[.val (.long q0), .second, .val (.int p1), .val (.long (9223372036853775808 : Int64)), .second, .val (.long ((((p1.toUInt32 >>> ((2 : Int32) &&& 31).toUInt32).toInt32) % (3000001 : Int32)).toInt64)), .second, .val (.int (p1 &&& (3 : Int32))), .unset, .unset, .unset, .unset, .unset, .unset, .unset, .unset] [])) _
    refine XS.iload X0.here hx rfl (hb hby at_18) rfl ?_
    exact k)
  have pre10 := fun (t : State) (k : Steps p.tables e below (s₁.setTop (mkF m 56 #[.val (.long q0), .second, .val (.int p1), .val (.long (9223372036853775808 : Int64)), .second, .val (.long ((((p1.toUInt32 >>> ((2 : Int32) &&& 31).toUInt32).toInt32) % (3000001 : Int32)).toInt64)), .second, .val (.int (p1 &&& (3 : Int32))), .val (.long (j0_0 q0 p1)), .second, .unset, .unset, .unset, .unset, .unset, .unset] [])) t) => pre9 t (by
    by_cases hc11 : (p1 &&& (3 : Int32)) = (0 : Int32)
    · skip
      show Steps p.tables e below (s₁.setTop (mkF m 20 #[.val (.long q0), .second, .val (.int p1), .val (.long (9223372036853775808 : Int64)), .second, .val (.long ((((p1.toUInt32 >>> ((2 : Int32) &&& 31).toUInt32).toInt32) % (3000001 : Int32)).toInt64)), .second, .val (.int (p1 &&& (3 : Int32))), .unset, .unset, .unset, .unset, .unset, .unset, .unset, .unset] [(.int (p1 &&& (3 : Int32)))])) _
      refine XS.ifNo X0.here hx rfl (hb hby at_20) rfl ((if0 _ _).trans (teq hc11).2) ?_
      show Steps p.tables e below (s₁.setTop (mkF m 23 #[.val (.long q0), .second, .val (.int p1), .val (.long (9223372036853775808 : Int64)), .second, .val (.long ((((p1.toUInt32 >>> ((2 : Int32) &&& 31).toUInt32).toInt32) % (3000001 : Int32)).toInt64)), .second, .val (.int (p1 &&& (3 : Int32))), .unset, .unset, .unset, .unset, .unset, .unset, .unset, .unset] [])) _
      refine XS.lload X0.here hx rfl (hb hby at_23) rfl ?_
      show Steps p.tables e below (s₁.setTop (mkF m 25 #[.val (.long q0), .second, .val (.int p1), .val (.long (9223372036853775808 : Int64)), .second, .val (.long ((((p1.toUInt32 >>> ((2 : Int32) &&& 31).toUInt32).toInt32) % (3000001 : Int32)).toInt64)), .second, .val (.int (p1 &&& (3 : Int32))), .unset, .unset, .unset, .unset, .unset, .unset, .unset, .unset] [(.long ((((p1.toUInt32 >>> ((2 : Int32) &&& 31).toUInt32).toInt32) % (3000001 : Int32)).toInt64))])) _
      refine XS.lstore X0.here hx rfl (hb hby at_25) rfl (l' := #[.val (.long q0), .second, .val (.int p1), .val (.long (9223372036853775808 : Int64)), .second, .val (.long ((((p1.toUInt32 >>> ((2 : Int32) &&& 31).toUInt32).toInt32) % (3000001 : Int32)).toInt64)), .second, .val (.int (p1 &&& (3 : Int32))), .val (.long ((((p1.toUInt32 >>> ((2 : Int32) &&& 31).toUInt32).toInt32) % (3000001 : Int32)).toInt64)), .second, .unset, .unset, .unset, .unset, .unset, .unset]) rfl ?_
      show Steps p.tables e below (s₁.setTop (mkF m 27 #[.val (.long q0), .second, .val (.int p1), .val (.long (9223372036853775808 : Int64)), .second, .val (.long ((((p1.toUInt32 >>> ((2 : Int32) &&& 31).toUInt32).toInt32) % (3000001 : Int32)).toInt64)), .second, .val (.int (p1 &&& (3 : Int32))), .val (.long ((((p1.toUInt32 >>> ((2 : Int32) &&& 31).toUInt32).toInt32) % (3000001 : Int32)).toInt64)), .second, .unset, .unset, .unset, .unset, .unset, .unset] [])) _
      refine XS.goto X0.here hx rfl (pc0 := 27) (pc' := 56) rfl (hb hby at_27) (by decide) (by decide) ?_
      have hj12 : (j0_0 q0 p1) = ((((p1.toUInt32 >>> ((2 : Int32) &&& 31).toUInt32).toInt32) % (3000001 : Int32)).toInt64) := by unfold j0_0; first | (rw [if_pos hc11]) | (simp only [if_pos hc11])
      rw [hj12] at k
      exact k
    · skip
      show Steps p.tables e below (s₁.setTop (mkF m 20 #[.val (.long q0), .second, .val (.int p1), .val (.long (9223372036853775808 : Int64)), .second, .val (.long ((((p1.toUInt32 >>> ((2 : Int32) &&& 31).toUInt32).toInt32) % (3000001 : Int32)).toInt64)), .second, .val (.int (p1 &&& (3 : Int32))), .unset, .unset, .unset, .unset, .unset, .unset, .unset, .unset] [(.int (p1 &&& (3 : Int32)))])) _
      refine XS.ifYes X0.here hx rfl (pc0 := 20) (pc' := 30) rfl (hb hby at_20) rfl ((if0 _ _).trans (feq hc11).2) (by decide) (by decide) ?_
      show Steps p.tables e below (s₁.setTop (mkF m 30 #[.val (.long q0), .second, .val (.int p1), .val (.long (9223372036853775808 : Int64)), .second, .val (.long ((((p1.toUInt32 >>> ((2 : Int32) &&& 31).toUInt32).toInt32) % (3000001 : Int32)).toInt64)), .second, .val (.int (p1 &&& (3 : Int32))), .unset, .unset, .unset, .unset, .unset, .unset, .unset, .unset] [])) _
      refine XS.iload X0.here hx rfl (hb hby at_30) rfl ?_
      show Steps p.tables e below (s₁.setTop (mkF m 32 #[.val (.long q0), .second, .val (.int p1), .val (.long (9223372036853775808 : Int64)), .second, .val (.long ((((p1.toUInt32 >>> ((2 : Int32) &&& 31).toUInt32).toInt32) % (3000001 : Int32)).toInt64)), .second, .val (.int (p1 &&& (3 : Int32))), .unset, .unset, .unset, .unset, .unset, .unset, .unset, .unset] [(.int (p1 &&& (3 : Int32)))])) _
      refine XS.iconst X0.here hx rfl (hb hby at_32) ?_
      by_cases hc13 : (p1 &&& (3 : Int32)) = (1 : Int32)
      · skip
        show Steps p.tables e below (s₁.setTop (mkF m 33 #[.val (.long q0), .second, .val (.int p1), .val (.long (9223372036853775808 : Int64)), .second, .val (.long ((((p1.toUInt32 >>> ((2 : Int32) &&& 31).toUInt32).toInt32) % (3000001 : Int32)).toInt64)), .second, .val (.int (p1 &&& (3 : Int32))), .unset, .unset, .unset, .unset, .unset, .unset, .unset, .unset] [(.int (1 : Int32)), (.int (p1 &&& (3 : Int32)))])) _
        refine XS.icmpNo X0.here hx rfl (hb hby at_33) rfl (teq hc13).2 ?_
        show Steps p.tables e below (s₁.setTop (mkF m 36 #[.val (.long q0), .second, .val (.int p1), .val (.long (9223372036853775808 : Int64)), .second, .val (.long ((((p1.toUInt32 >>> ((2 : Int32) &&& 31).toUInt32).toInt32) % (3000001 : Int32)).toInt64)), .second, .val (.int (p1 &&& (3 : Int32))), .unset, .unset, .unset, .unset, .unset, .unset, .unset, .unset] [])) _
        refine XS.lloadN X0.here hx rfl (hb hby at_36) rfl ?_
        show Steps p.tables e below (s₁.setTop (mkF m 37 #[.val (.long q0), .second, .val (.int p1), .val (.long (9223372036853775808 : Int64)), .second, .val (.long ((((p1.toUInt32 >>> ((2 : Int32) &&& 31).toUInt32).toInt32) % (3000001 : Int32)).toInt64)), .second, .val (.int (p1 &&& (3 : Int32))), .unset, .unset, .unset, .unset, .unset, .unset, .unset, .unset] [(.long (9223372036853775808 : Int64))])) _
        refine XS.lload X0.here hx rfl (hb hby at_37) rfl ?_
        show Steps p.tables e below (s₁.setTop (mkF m 39 #[.val (.long q0), .second, .val (.int p1), .val (.long (9223372036853775808 : Int64)), .second, .val (.long ((((p1.toUInt32 >>> ((2 : Int32) &&& 31).toUInt32).toInt32) % (3000001 : Int32)).toInt64)), .second, .val (.int (p1 &&& (3 : Int32))), .unset, .unset, .unset, .unset, .unset, .unset, .unset, .unset] [(.long ((((p1.toUInt32 >>> ((2 : Int32) &&& 31).toUInt32).toInt32) % (3000001 : Int32)).toInt64)), (.long (9223372036853775808 : Int64))])) _
        refine XS.lsub X0.here hx rfl (hb hby at_39) rfl ?_
        show Steps p.tables e below (s₁.setTop (mkF m 40 #[.val (.long q0), .second, .val (.int p1), .val (.long (9223372036853775808 : Int64)), .second, .val (.long ((((p1.toUInt32 >>> ((2 : Int32) &&& 31).toUInt32).toInt32) % (3000001 : Int32)).toInt64)), .second, .val (.int (p1 &&& (3 : Int32))), .unset, .unset, .unset, .unset, .unset, .unset, .unset, .unset] [(.long ((9223372036853775808 : Int64) - ((((p1.toUInt32 >>> ((2 : Int32) &&& 31).toUInt32).toInt32) % (3000001 : Int32)).toInt64)))])) _
        refine XS.lstore X0.here hx rfl (hb hby at_40) rfl (l' := #[.val (.long q0), .second, .val (.int p1), .val (.long (9223372036853775808 : Int64)), .second, .val (.long ((((p1.toUInt32 >>> ((2 : Int32) &&& 31).toUInt32).toInt32) % (3000001 : Int32)).toInt64)), .second, .val (.int (p1 &&& (3 : Int32))), .val (.long ((9223372036853775808 : Int64) - ((((p1.toUInt32 >>> ((2 : Int32) &&& 31).toUInt32).toInt32) % (3000001 : Int32)).toInt64))), .second, .unset, .unset, .unset, .unset, .unset, .unset]) rfl ?_
        show Steps p.tables e below (s₁.setTop (mkF m 42 #[.val (.long q0), .second, .val (.int p1), .val (.long (9223372036853775808 : Int64)), .second, .val (.long ((((p1.toUInt32 >>> ((2 : Int32) &&& 31).toUInt32).toInt32) % (3000001 : Int32)).toInt64)), .second, .val (.int (p1 &&& (3 : Int32))), .val (.long ((9223372036853775808 : Int64) - ((((p1.toUInt32 >>> ((2 : Int32) &&& 31).toUInt32).toInt32) % (3000001 : Int32)).toInt64))), .second, .unset, .unset, .unset, .unset, .unset, .unset] [])) _
        refine XS.goto X0.here hx rfl (pc0 := 42) (pc' := 56) rfl (hb hby at_42) (by decide) (by decide) ?_
        have hj14 : (j0_0 q0 p1) = ((9223372036853775808 : Int64) - ((((p1.toUInt32 >>> ((2 : Int32) &&& 31).toUInt32).toInt32) % (3000001 : Int32)).toInt64)) := by unfold j0_0; first | (rw [if_neg hc11, if_pos hc13]) | (simp only [if_neg hc11, if_pos hc13])
        rw [hj14] at k
        exact k
      · skip
        show Steps p.tables e below (s₁.setTop (mkF m 33 #[.val (.long q0), .second, .val (.int p1), .val (.long (9223372036853775808 : Int64)), .second, .val (.long ((((p1.toUInt32 >>> ((2 : Int32) &&& 31).toUInt32).toInt32) % (3000001 : Int32)).toInt64)), .second, .val (.int (p1 &&& (3 : Int32))), .unset, .unset, .unset, .unset, .unset, .unset, .unset, .unset] [(.int (1 : Int32)), (.int (p1 &&& (3 : Int32)))])) _
        refine XS.icmpYes X0.here hx rfl (pc0 := 33) (pc' := 45) rfl (hb hby at_33) rfl (feq hc13).2 (by decide) (by decide) ?_
        show Steps p.tables e below (s₁.setTop (mkF m 45 #[.val (.long q0), .second, .val (.int p1), .val (.long (9223372036853775808 : Int64)), .second, .val (.long ((((p1.toUInt32 >>> ((2 : Int32) &&& 31).toUInt32).toInt32) % (3000001 : Int32)).toInt64)), .second, .val (.int (p1 &&& (3 : Int32))), .unset, .unset, .unset, .unset, .unset, .unset, .unset, .unset] [])) _
        refine XS.lloadN X0.here hx rfl (hb hby at_45) rfl ?_
        show Steps p.tables e below (s₁.setTop (mkF m 46 #[.val (.long q0), .second, .val (.int p1), .val (.long (9223372036853775808 : Int64)), .second, .val (.long ((((p1.toUInt32 >>> ((2 : Int32) &&& 31).toUInt32).toInt32) % (3000001 : Int32)).toInt64)), .second, .val (.int (p1 &&& (3 : Int32))), .unset, .unset, .unset, .unset, .unset, .unset, .unset, .unset] [(.long q0)])) _
        refine X0.ldc2Long hx hown (mvT hZ (hw _ (List.mem_of_getElem? (i := 2) rfl))) (g := (mkF m 46 #[.val (.long q0), .second, .val (.int p1), .val (.long (9223372036853775808 : Int64)), .second, .val (.long ((((p1.toUInt32 >>> ((2 : Int32) &&& 31).toUInt32).toInt32) % (3000001 : Int32)).toInt64)), .second, .val (.int (p1 &&& (3 : Int32))), .unset, .unset, .unset, .unset, .unset, .unset, .unset, .unset] [(.long q0)])) rfl (hb hby at_46) _ ?_
        show Steps p.tables e below (s₁.setTop (mkF m 49 #[.val (.long q0), .second, .val (.int p1), .val (.long (9223372036853775808 : Int64)), .second, .val (.long ((((p1.toUInt32 >>> ((2 : Int32) &&& 31).toUInt32).toInt32) % (3000001 : Int32)).toInt64)), .second, .val (.int (p1 &&& (3 : Int32))), .unset, .unset, .unset, .unset, .unset, .unset, .unset, .unset] [(.long (9223372036854775807 : Int64)), (.long q0)])) _
        refine XS.land X0.here hx rfl (hb hby at_49) rfl ?_
        show Steps p.tables e below (s₁.setTop (mkF m 50 #[.val (.long q0), .second, .val (.int p1), .val (.long (9223372036853775808 : Int64)), .second, .val (.long ((((p1.toUInt32 >>> ((2 : Int32) &&& 31).toUInt32).toInt32) % (3000001 : Int32)).toInt64)), .second, .val (.int (p1 &&& (3 : Int32))), .unset, .unset, .unset, .unset, .unset, .unset, .unset, .unset] [(.long (q0 &&& (9223372036854775807 : Int64)))])) _
        refine XS.lloadN X0.here hx rfl (hb hby at_50) rfl ?_
        show Steps p.tables e below (s₁.setTop (mkF m 51 #[.val (.long q0), .second, .val (.int p1), .val (.long (9223372036853775808 : Int64)), .second, .val (.long ((((p1.toUInt32 >>> ((2 : Int32) &&& 31).toUInt32).toInt32) % (3000001 : Int32)).toInt64)), .second, .val (.int (p1 &&& (3 : Int32))), .unset, .unset, .unset, .unset, .unset, .unset, .unset, .unset] [(.long (9223372036853775808 : Int64)), (.long (q0 &&& (9223372036854775807 : Int64)))])) _
        refine XS.lconst X0.here hx rfl (hb hby at_51) ?_
        show Steps p.tables e below (s₁.setTop (mkF m 52 #[.val (.long q0), .second, .val (.int p1), .val (.long (9223372036853775808 : Int64)), .second, .val (.long ((((p1.toUInt32 >>> ((2 : Int32) &&& 31).toUInt32).toInt32) % (3000001 : Int32)).toInt64)), .second, .val (.int (p1 &&& (3 : Int32))), .unset, .unset, .unset, .unset, .unset, .unset, .unset, .unset] [(.long (1 : Int64)), (.long (9223372036853775808 : Int64)), (.long (q0 &&& (9223372036854775807 : Int64)))])) _
        refine XS.ladd X0.here hx rfl (hb hby at_52) rfl ?_
        show Steps p.tables e below (s₁.setTop (mkF m 53 #[.val (.long q0), .second, .val (.int p1), .val (.long (9223372036853775808 : Int64)), .second, .val (.long ((((p1.toUInt32 >>> ((2 : Int32) &&& 31).toUInt32).toInt32) % (3000001 : Int32)).toInt64)), .second, .val (.int (p1 &&& (3 : Int32))), .unset, .unset, .unset, .unset, .unset, .unset, .unset, .unset] [(.long (9223372036853775809 : Int64)), (.long (q0 &&& (9223372036854775807 : Int64)))])) _
        refine XS.lrem X0.here hx rfl (hb hby at_53) rfl (by decide) ?_
        show Steps p.tables e below (s₁.setTop (mkF m 54 #[.val (.long q0), .second, .val (.int p1), .val (.long (9223372036853775808 : Int64)), .second, .val (.long ((((p1.toUInt32 >>> ((2 : Int32) &&& 31).toUInt32).toInt32) % (3000001 : Int32)).toInt64)), .second, .val (.int (p1 &&& (3 : Int32))), .unset, .unset, .unset, .unset, .unset, .unset, .unset, .unset] [(.long ((q0 &&& (9223372036854775807 : Int64)) - (q0 &&& (9223372036854775807 : Int64)) / (9223372036853775809 : Int64) * (9223372036853775809 : Int64)))])) _
        refine XS.lstore X0.here hx rfl (hb hby at_54) rfl (l' := #[.val (.long q0), .second, .val (.int p1), .val (.long (9223372036853775808 : Int64)), .second, .val (.long ((((p1.toUInt32 >>> ((2 : Int32) &&& 31).toUInt32).toInt32) % (3000001 : Int32)).toInt64)), .second, .val (.int (p1 &&& (3 : Int32))), .val (.long ((q0 &&& (9223372036854775807 : Int64)) - (q0 &&& (9223372036854775807 : Int64)) / (9223372036853775809 : Int64) * (9223372036853775809 : Int64))), .second, .unset, .unset, .unset, .unset, .unset, .unset]) rfl ?_
        have hj15 : (j0_0 q0 p1) = ((q0 &&& (9223372036854775807 : Int64)) - (q0 &&& (9223372036854775807 : Int64)) / (9223372036853775809 : Int64) * (9223372036853775809 : Int64)) := by unfold j0_0; first | (rw [if_neg hc11, if_neg hc13]) | (simp only [if_neg hc11, if_neg hc13])
        rw [hj15] at k
        exact k)
  have pre16 := fun (t : State) (k : Steps p.tables e below (s₁.setTop (mkF m 76 #[.val (.long q0), .second, .val (.int p1), .val (.long (9223372036853775808 : Int64)), .second, .val (.long ((((p1.toUInt32 >>> ((2 : Int32) &&& 31).toUInt32).toInt32) % (3000001 : Int32)).toInt64)), .second, .val (.int (p1 &&& (3 : Int32))), .val (.long (j0_0 q0 p1)), .second, .val (.long ((j0_0 q0 p1) / (1000000 : Int64))), .second, .val (.long ((j0_0 q0 p1) - (j0_0 q0 p1) / (1000000 : Int64) * (1000000 : Int64))), .second, .unset, .unset] [(.int (lcmpW ((j0_0 q0 p1) - (j0_0 q0 p1) / (1000000 : Int64) * (1000000 : Int64)) (0 : Int64)))])) t) => pre10 t (by
    show Steps p.tables e below (s₁.setTop (mkF m 56 #[.val (.long q0), .second, .val (.int p1), .val (.long (9223372036853775808 : Int64)), .second, .val (.long ((((p1.toUInt32 >>> ((2 : Int32) &&& 31).toUInt32).toInt32) % (3000001 : Int32)).toInt64)), .second, .val (.int (p1 &&& (3 : Int32))), .val (.long (j0_0 q0 p1)), .second, .unset, .unset, .unset, .unset, .unset, .unset] [])) _
    refine XS.lload X0.here hx rfl (hb hby at_56) rfl ?_
    show Steps p.tables e below (s₁.setTop (mkF m 58 #[.val (.long q0), .second, .val (.int p1), .val (.long (9223372036853775808 : Int64)), .second, .val (.long ((((p1.toUInt32 >>> ((2 : Int32) &&& 31).toUInt32).toInt32) % (3000001 : Int32)).toInt64)), .second, .val (.int (p1 &&& (3 : Int32))), .val (.long (j0_0 q0 p1)), .second, .unset, .unset, .unset, .unset, .unset, .unset] [(.long (j0_0 q0 p1))])) _
    refine X0.ldc2Long hx hown (mvT hZ (hw _ (List.mem_of_getElem? (i := 3) rfl))) (g := (mkF m 58 #[.val (.long q0), .second, .val (.int p1), .val (.long (9223372036853775808 : Int64)), .second, .val (.long ((((p1.toUInt32 >>> ((2 : Int32) &&& 31).toUInt32).toInt32) % (3000001 : Int32)).toInt64)), .second, .val (.int (p1 &&& (3 : Int32))), .val (.long (j0_0 q0 p1)), .second, .unset, .unset, .unset, .unset, .unset, .unset] [(.long (j0_0 q0 p1))])) rfl (hb hby at_58) _ ?_
    show Steps p.tables e below (s₁.setTop (mkF m 61 #[.val (.long q0), .second, .val (.int p1), .val (.long (9223372036853775808 : Int64)), .second, .val (.long ((((p1.toUInt32 >>> ((2 : Int32) &&& 31).toUInt32).toInt32) % (3000001 : Int32)).toInt64)), .second, .val (.int (p1 &&& (3 : Int32))), .val (.long (j0_0 q0 p1)), .second, .unset, .unset, .unset, .unset, .unset, .unset] [(.long (1000000 : Int64)), (.long (j0_0 q0 p1))])) _
    refine XS.ldiv X0.here hx rfl (hb hby at_61) rfl (by decide) ?_
    show Steps p.tables e below (s₁.setTop (mkF m 62 #[.val (.long q0), .second, .val (.int p1), .val (.long (9223372036853775808 : Int64)), .second, .val (.long ((((p1.toUInt32 >>> ((2 : Int32) &&& 31).toUInt32).toInt32) % (3000001 : Int32)).toInt64)), .second, .val (.int (p1 &&& (3 : Int32))), .val (.long (j0_0 q0 p1)), .second, .unset, .unset, .unset, .unset, .unset, .unset] [(.long ((j0_0 q0 p1) / (1000000 : Int64)))])) _
    refine XS.lstore X0.here hx rfl (hb hby at_62) rfl (l' := #[.val (.long q0), .second, .val (.int p1), .val (.long (9223372036853775808 : Int64)), .second, .val (.long ((((p1.toUInt32 >>> ((2 : Int32) &&& 31).toUInt32).toInt32) % (3000001 : Int32)).toInt64)), .second, .val (.int (p1 &&& (3 : Int32))), .val (.long (j0_0 q0 p1)), .second, .val (.long ((j0_0 q0 p1) / (1000000 : Int64))), .second, .unset, .unset, .unset, .unset]) rfl ?_
    show Steps p.tables e below (s₁.setTop (mkF m 64 #[.val (.long q0), .second, .val (.int p1), .val (.long (9223372036853775808 : Int64)), .second, .val (.long ((((p1.toUInt32 >>> ((2 : Int32) &&& 31).toUInt32).toInt32) % (3000001 : Int32)).toInt64)), .second, .val (.int (p1 &&& (3 : Int32))), .val (.long (j0_0 q0 p1)), .second, .val (.long ((j0_0 q0 p1) / (1000000 : Int64))), .second, .unset, .unset, .unset, .unset] [])) _
    refine XS.lload X0.here hx rfl (hb hby at_64) rfl ?_
    show Steps p.tables e below (s₁.setTop (mkF m 66 #[.val (.long q0), .second, .val (.int p1), .val (.long (9223372036853775808 : Int64)), .second, .val (.long ((((p1.toUInt32 >>> ((2 : Int32) &&& 31).toUInt32).toInt32) % (3000001 : Int32)).toInt64)), .second, .val (.int (p1 &&& (3 : Int32))), .val (.long (j0_0 q0 p1)), .second, .val (.long ((j0_0 q0 p1) / (1000000 : Int64))), .second, .unset, .unset, .unset, .unset] [(.long (j0_0 q0 p1))])) _
    refine X0.ldc2Long hx hown (mvT hZ (hw _ (List.mem_of_getElem? (i := 3) rfl))) (g := (mkF m 66 #[.val (.long q0), .second, .val (.int p1), .val (.long (9223372036853775808 : Int64)), .second, .val (.long ((((p1.toUInt32 >>> ((2 : Int32) &&& 31).toUInt32).toInt32) % (3000001 : Int32)).toInt64)), .second, .val (.int (p1 &&& (3 : Int32))), .val (.long (j0_0 q0 p1)), .second, .val (.long ((j0_0 q0 p1) / (1000000 : Int64))), .second, .unset, .unset, .unset, .unset] [(.long (j0_0 q0 p1))])) rfl (hb hby at_66) _ ?_
    show Steps p.tables e below (s₁.setTop (mkF m 69 #[.val (.long q0), .second, .val (.int p1), .val (.long (9223372036853775808 : Int64)), .second, .val (.long ((((p1.toUInt32 >>> ((2 : Int32) &&& 31).toUInt32).toInt32) % (3000001 : Int32)).toInt64)), .second, .val (.int (p1 &&& (3 : Int32))), .val (.long (j0_0 q0 p1)), .second, .val (.long ((j0_0 q0 p1) / (1000000 : Int64))), .second, .unset, .unset, .unset, .unset] [(.long (1000000 : Int64)), (.long (j0_0 q0 p1))])) _
    refine XS.lrem X0.here hx rfl (hb hby at_69) rfl (by decide) ?_
    show Steps p.tables e below (s₁.setTop (mkF m 70 #[.val (.long q0), .second, .val (.int p1), .val (.long (9223372036853775808 : Int64)), .second, .val (.long ((((p1.toUInt32 >>> ((2 : Int32) &&& 31).toUInt32).toInt32) % (3000001 : Int32)).toInt64)), .second, .val (.int (p1 &&& (3 : Int32))), .val (.long (j0_0 q0 p1)), .second, .val (.long ((j0_0 q0 p1) / (1000000 : Int64))), .second, .unset, .unset, .unset, .unset] [(.long ((j0_0 q0 p1) - (j0_0 q0 p1) / (1000000 : Int64) * (1000000 : Int64)))])) _
    refine XS.lstore X0.here hx rfl (hb hby at_70) rfl (l' := #[.val (.long q0), .second, .val (.int p1), .val (.long (9223372036853775808 : Int64)), .second, .val (.long ((((p1.toUInt32 >>> ((2 : Int32) &&& 31).toUInt32).toInt32) % (3000001 : Int32)).toInt64)), .second, .val (.int (p1 &&& (3 : Int32))), .val (.long (j0_0 q0 p1)), .second, .val (.long ((j0_0 q0 p1) / (1000000 : Int64))), .second, .val (.long ((j0_0 q0 p1) - (j0_0 q0 p1) / (1000000 : Int64) * (1000000 : Int64))), .second, .unset, .unset]) rfl ?_
    show Steps p.tables e below (s₁.setTop (mkF m 72 #[.val (.long q0), .second, .val (.int p1), .val (.long (9223372036853775808 : Int64)), .second, .val (.long ((((p1.toUInt32 >>> ((2 : Int32) &&& 31).toUInt32).toInt32) % (3000001 : Int32)).toInt64)), .second, .val (.int (p1 &&& (3 : Int32))), .val (.long (j0_0 q0 p1)), .second, .val (.long ((j0_0 q0 p1) / (1000000 : Int64))), .second, .val (.long ((j0_0 q0 p1) - (j0_0 q0 p1) / (1000000 : Int64) * (1000000 : Int64))), .second, .unset, .unset] [])) _
    refine XS.lload X0.here hx rfl (hb hby at_72) rfl ?_
    show Steps p.tables e below (s₁.setTop (mkF m 74 #[.val (.long q0), .second, .val (.int p1), .val (.long (9223372036853775808 : Int64)), .second, .val (.long ((((p1.toUInt32 >>> ((2 : Int32) &&& 31).toUInt32).toInt32) % (3000001 : Int32)).toInt64)), .second, .val (.int (p1 &&& (3 : Int32))), .val (.long (j0_0 q0 p1)), .second, .val (.long ((j0_0 q0 p1) / (1000000 : Int64))), .second, .val (.long ((j0_0 q0 p1) - (j0_0 q0 p1) / (1000000 : Int64) * (1000000 : Int64))), .second, .unset, .unset] [(.long ((j0_0 q0 p1) - (j0_0 q0 p1) / (1000000 : Int64) * (1000000 : Int64)))])) _
    refine XS.lconst X0.here hx rfl (hb hby at_74) ?_
    show Steps p.tables e below (s₁.setTop (mkF m 75 #[.val (.long q0), .second, .val (.int p1), .val (.long (9223372036853775808 : Int64)), .second, .val (.long ((((p1.toUInt32 >>> ((2 : Int32) &&& 31).toUInt32).toInt32) % (3000001 : Int32)).toInt64)), .second, .val (.int (p1 &&& (3 : Int32))), .val (.long (j0_0 q0 p1)), .second, .val (.long ((j0_0 q0 p1) / (1000000 : Int64))), .second, .val (.long ((j0_0 q0 p1) - (j0_0 q0 p1) / (1000000 : Int64) * (1000000 : Int64))), .second, .unset, .unset] [(.long (0 : Int64)), (.long ((j0_0 q0 p1) - (j0_0 q0 p1) / (1000000 : Int64) * (1000000 : Int64)))])) _
    refine XS.lcmp X0.here hx rfl (hb hby at_75) rfl ?_
    exact k)
  have pre17 := fun (t : State) (k : Steps p.tables e below (s₁.setTop (mkF m 88 #[.val (.long q0), .second, .val (.int p1), .val (.long (9223372036853775808 : Int64)), .second, .val (.long ((((p1.toUInt32 >>> ((2 : Int32) &&& 31).toUInt32).toInt32) % (3000001 : Int32)).toInt64)), .second, .val (.int (p1 &&& (3 : Int32))), .val (.long (j0_0 q0 p1)), .second, .val (.long ((j0_0 q0 p1) / (1000000 : Int64))), .second, .val (.long ((j0_0 q0 p1) - (j0_0 q0 p1) / (1000000 : Int64) * (1000000 : Int64))), .second, .unset, .unset] [(.long (j0_1 q0 p1))])) t) => pre16 t (by
    by_cases hc18 : ((j0_0 q0 p1) - (j0_0 q0 p1) / (1000000 : Int64) * (1000000 : Int64)) = (0 : Int64)
    · skip
      show Steps p.tables e below (s₁.setTop (mkF m 76 #[.val (.long q0), .second, .val (.int p1), .val (.long (9223372036853775808 : Int64)), .second, .val (.long ((((p1.toUInt32 >>> ((2 : Int32) &&& 31).toUInt32).toInt32) % (3000001 : Int32)).toInt64)), .second, .val (.int (p1 &&& (3 : Int32))), .val (.long (j0_0 q0 p1)), .second, .val (.long ((j0_0 q0 p1) / (1000000 : Int64))), .second, .val (.long ((j0_0 q0 p1) - (j0_0 q0 p1) / (1000000 : Int64) * (1000000 : Int64))), .second, .unset, .unset] [(.int (lcmpW ((j0_0 q0 p1) - (j0_0 q0 p1) / (1000000 : Int64) * (1000000 : Int64)) (0 : Int64)))])) _
      refine XS.ifNo X0.here hx rfl (hb hby at_76) rfl ((if0 _ _).trans (teq ((own_eq ((j0_0 q0 p1) - (j0_0 q0 p1) / (1000000 : Int64) * (1000000 : Int64)) (0 : Int64)).mpr hc18)).2) ?_
      show Steps p.tables e below (s₁.setTop (mkF m 79 #[.val (.long q0), .second, .val (.int p1), .val (.long (9223372036853775808 : Int64)), .second, .val (.long ((((p1.toUInt32 >>> ((2 : Int32) &&& 31).toUInt32).toInt32) % (3000001 : Int32)).toInt64)), .second, .val (.int (p1 &&& (3 : Int32))), .val (.long (j0_0 q0 p1)), .second, .val (.long ((j0_0 q0 p1) / (1000000 : Int64))), .second, .val (.long ((j0_0 q0 p1) - (j0_0 q0 p1) / (1000000 : Int64) * (1000000 : Int64))), .second, .unset, .unset] [])) _
      refine XS.lload X0.here hx rfl (hb hby at_79) rfl ?_
      show Steps p.tables e below (s₁.setTop (mkF m 81 #[.val (.long q0), .second, .val (.int p1), .val (.long (9223372036853775808 : Int64)), .second, .val (.long ((((p1.toUInt32 >>> ((2 : Int32) &&& 31).toUInt32).toInt32) % (3000001 : Int32)).toInt64)), .second, .val (.int (p1 &&& (3 : Int32))), .val (.long (j0_0 q0 p1)), .second, .val (.long ((j0_0 q0 p1) / (1000000 : Int64))), .second, .val (.long ((j0_0 q0 p1) - (j0_0 q0 p1) / (1000000 : Int64) * (1000000 : Int64))), .second, .unset, .unset] [(.long ((j0_0 q0 p1) / (1000000 : Int64)))])) _
      refine XS.goto X0.here hx rfl (pc0 := 81) (pc' := 88) rfl (hb hby at_81) (by decide) (by decide) ?_
      have hj19 : (j0_1 q0 p1) = ((j0_0 q0 p1) / (1000000 : Int64)) := by unfold j0_1; first | (rw [if_pos hc18]) | (simp only [if_pos hc18])
      rw [hj19] at k
      exact k
    · skip
      show Steps p.tables e below (s₁.setTop (mkF m 76 #[.val (.long q0), .second, .val (.int p1), .val (.long (9223372036853775808 : Int64)), .second, .val (.long ((((p1.toUInt32 >>> ((2 : Int32) &&& 31).toUInt32).toInt32) % (3000001 : Int32)).toInt64)), .second, .val (.int (p1 &&& (3 : Int32))), .val (.long (j0_0 q0 p1)), .second, .val (.long ((j0_0 q0 p1) / (1000000 : Int64))), .second, .val (.long ((j0_0 q0 p1) - (j0_0 q0 p1) / (1000000 : Int64) * (1000000 : Int64))), .second, .unset, .unset] [(.int (lcmpW ((j0_0 q0 p1) - (j0_0 q0 p1) / (1000000 : Int64) * (1000000 : Int64)) (0 : Int64)))])) _
      refine XS.ifYes X0.here hx rfl (pc0 := 76) (pc' := 84) rfl (hb hby at_76) rfl ((if0 _ _).trans (feq (mt (own_eq ((j0_0 q0 p1) - (j0_0 q0 p1) / (1000000 : Int64) * (1000000 : Int64)) (0 : Int64)).mp hc18)).2) (by decide) (by decide) ?_
      show Steps p.tables e below (s₁.setTop (mkF m 84 #[.val (.long q0), .second, .val (.int p1), .val (.long (9223372036853775808 : Int64)), .second, .val (.long ((((p1.toUInt32 >>> ((2 : Int32) &&& 31).toUInt32).toInt32) % (3000001 : Int32)).toInt64)), .second, .val (.int (p1 &&& (3 : Int32))), .val (.long (j0_0 q0 p1)), .second, .val (.long ((j0_0 q0 p1) / (1000000 : Int64))), .second, .val (.long ((j0_0 q0 p1) - (j0_0 q0 p1) / (1000000 : Int64) * (1000000 : Int64))), .second, .unset, .unset] [])) _
      refine XS.lload X0.here hx rfl (hb hby at_84) rfl ?_
      show Steps p.tables e below (s₁.setTop (mkF m 86 #[.val (.long q0), .second, .val (.int p1), .val (.long (9223372036853775808 : Int64)), .second, .val (.long ((((p1.toUInt32 >>> ((2 : Int32) &&& 31).toUInt32).toInt32) % (3000001 : Int32)).toInt64)), .second, .val (.int (p1 &&& (3 : Int32))), .val (.long (j0_0 q0 p1)), .second, .val (.long ((j0_0 q0 p1) / (1000000 : Int64))), .second, .val (.long ((j0_0 q0 p1) - (j0_0 q0 p1) / (1000000 : Int64) * (1000000 : Int64))), .second, .unset, .unset] [(.long ((j0_0 q0 p1) / (1000000 : Int64)))])) _
      refine XS.lconst X0.here hx rfl (hb hby at_86) ?_
      show Steps p.tables e below (s₁.setTop (mkF m 87 #[.val (.long q0), .second, .val (.int p1), .val (.long (9223372036853775808 : Int64)), .second, .val (.long ((((p1.toUInt32 >>> ((2 : Int32) &&& 31).toUInt32).toInt32) % (3000001 : Int32)).toInt64)), .second, .val (.int (p1 &&& (3 : Int32))), .val (.long (j0_0 q0 p1)), .second, .val (.long ((j0_0 q0 p1) / (1000000 : Int64))), .second, .val (.long ((j0_0 q0 p1) - (j0_0 q0 p1) / (1000000 : Int64) * (1000000 : Int64))), .second, .unset, .unset] [(.long (1 : Int64)), (.long ((j0_0 q0 p1) / (1000000 : Int64)))])) _
      refine XS.ladd X0.here hx rfl (hb hby at_87) rfl ?_
      have hj20 : (j0_1 q0 p1) = (((j0_0 q0 p1) / (1000000 : Int64)) + (1 : Int64)) := by unfold j0_1; first | (rw [if_neg hc18]) | (simp only [if_neg hc18])
      rw [hj20] at k
      exact k)
  have pre21 := fun (t : State) (k : Steps p.tables e below (s₁.setTop (mkF m 94 #[.val (.long q0), .second, .val (.int p1), .val (.long (9223372036853775808 : Int64)), .second, .val (.long ((((p1.toUInt32 >>> ((2 : Int32) &&& 31).toUInt32).toInt32) % (3000001 : Int32)).toInt64)), .second, .val (.int (p1 &&& (3 : Int32))), .val (.long (j0_0 q0 p1)), .second, .val (.long ((j0_0 q0 p1) / (1000000 : Int64))), .second, .val (.long ((j0_0 q0 p1) - (j0_0 q0 p1) / (1000000 : Int64) * (1000000 : Int64))), .second, .val (.long (j0_1 q0 p1)), .second] [(.int (lcmpW (j0_1 q0 p1) (0 : Int64)))])) t) => pre17 t (by
    show Steps p.tables e below (s₁.setTop (mkF m 88 #[.val (.long q0), .second, .val (.int p1), .val (.long (9223372036853775808 : Int64)), .second, .val (.long ((((p1.toUInt32 >>> ((2 : Int32) &&& 31).toUInt32).toInt32) % (3000001 : Int32)).toInt64)), .second, .val (.int (p1 &&& (3 : Int32))), .val (.long (j0_0 q0 p1)), .second, .val (.long ((j0_0 q0 p1) / (1000000 : Int64))), .second, .val (.long ((j0_0 q0 p1) - (j0_0 q0 p1) / (1000000 : Int64) * (1000000 : Int64))), .second, .unset, .unset] [(.long (j0_1 q0 p1))])) _
    refine XS.lstore X0.here hx rfl (hb hby at_88) rfl (l' := #[.val (.long q0), .second, .val (.int p1), .val (.long (9223372036853775808 : Int64)), .second, .val (.long ((((p1.toUInt32 >>> ((2 : Int32) &&& 31).toUInt32).toInt32) % (3000001 : Int32)).toInt64)), .second, .val (.int (p1 &&& (3 : Int32))), .val (.long (j0_0 q0 p1)), .second, .val (.long ((j0_0 q0 p1) / (1000000 : Int64))), .second, .val (.long ((j0_0 q0 p1) - (j0_0 q0 p1) / (1000000 : Int64) * (1000000 : Int64))), .second, .val (.long (j0_1 q0 p1)), .second]) rfl ?_
    show Steps p.tables e below (s₁.setTop (mkF m 90 #[.val (.long q0), .second, .val (.int p1), .val (.long (9223372036853775808 : Int64)), .second, .val (.long ((((p1.toUInt32 >>> ((2 : Int32) &&& 31).toUInt32).toInt32) % (3000001 : Int32)).toInt64)), .second, .val (.int (p1 &&& (3 : Int32))), .val (.long (j0_0 q0 p1)), .second, .val (.long ((j0_0 q0 p1) / (1000000 : Int64))), .second, .val (.long ((j0_0 q0 p1) - (j0_0 q0 p1) / (1000000 : Int64) * (1000000 : Int64))), .second, .val (.long (j0_1 q0 p1)), .second] [])) _
    refine XS.lload X0.here hx rfl (hb hby at_90) rfl ?_
    show Steps p.tables e below (s₁.setTop (mkF m 92 #[.val (.long q0), .second, .val (.int p1), .val (.long (9223372036853775808 : Int64)), .second, .val (.long ((((p1.toUInt32 >>> ((2 : Int32) &&& 31).toUInt32).toInt32) % (3000001 : Int32)).toInt64)), .second, .val (.int (p1 &&& (3 : Int32))), .val (.long (j0_0 q0 p1)), .second, .val (.long ((j0_0 q0 p1) / (1000000 : Int64))), .second, .val (.long ((j0_0 q0 p1) - (j0_0 q0 p1) / (1000000 : Int64) * (1000000 : Int64))), .second, .val (.long (j0_1 q0 p1)), .second] [(.long (j0_1 q0 p1))])) _
    refine XS.lconst X0.here hx rfl (hb hby at_92) ?_
    show Steps p.tables e below (s₁.setTop (mkF m 93 #[.val (.long q0), .second, .val (.int p1), .val (.long (9223372036853775808 : Int64)), .second, .val (.long ((((p1.toUInt32 >>> ((2 : Int32) &&& 31).toUInt32).toInt32) % (3000001 : Int32)).toInt64)), .second, .val (.int (p1 &&& (3 : Int32))), .val (.long (j0_0 q0 p1)), .second, .val (.long ((j0_0 q0 p1) / (1000000 : Int64))), .second, .val (.long ((j0_0 q0 p1) - (j0_0 q0 p1) / (1000000 : Int64) * (1000000 : Int64))), .second, .val (.long (j0_1 q0 p1)), .second] [(.long (0 : Int64)), (.long (j0_1 q0 p1))])) _
    refine XS.lcmp X0.here hx rfl (hb hby at_93) rfl ?_
    exact k)
  have pre22 := fun (t : State) (k : Steps p.tables e below (s₁.setTop (mkF m 100 #[.val (.long q0), .second, .val (.int p1), .val (.long (9223372036853775808 : Int64)), .second, .val (.long ((((p1.toUInt32 >>> ((2 : Int32) &&& 31).toUInt32).toInt32) % (3000001 : Int32)).toInt64)), .second, .val (.int (p1 &&& (3 : Int32))), .val (.long (j0_0 q0 p1)), .second, .val (.long ((j0_0 q0 p1) / (1000000 : Int64))), .second, .val (.long ((j0_0 q0 p1) - (j0_0 q0 p1) / (1000000 : Int64) * (1000000 : Int64))), .second, .val (.long (j0_2 q0 p1)), .second] [])) t) => pre21 t (by
    by_cases hc23 : (j0_1 q0 p1) = (0 : Int64)
    · skip
      show Steps p.tables e below (s₁.setTop (mkF m 94 #[.val (.long q0), .second, .val (.int p1), .val (.long (9223372036853775808 : Int64)), .second, .val (.long ((((p1.toUInt32 >>> ((2 : Int32) &&& 31).toUInt32).toInt32) % (3000001 : Int32)).toInt64)), .second, .val (.int (p1 &&& (3 : Int32))), .val (.long (j0_0 q0 p1)), .second, .val (.long ((j0_0 q0 p1) / (1000000 : Int64))), .second, .val (.long ((j0_0 q0 p1) - (j0_0 q0 p1) / (1000000 : Int64) * (1000000 : Int64))), .second, .val (.long (j0_1 q0 p1)), .second] [(.int (lcmpW (j0_1 q0 p1) (0 : Int64)))])) _
      refine XS.ifNo X0.here hx rfl (hb hby at_94) rfl ((if0 _ _).trans (teq ((own_eq (j0_1 q0 p1) (0 : Int64)).mpr hc23)).2) ?_
      show Steps p.tables e below (s₁.setTop (mkF m 97 #[.val (.long q0), .second, .val (.int p1), .val (.long (9223372036853775808 : Int64)), .second, .val (.long ((((p1.toUInt32 >>> ((2 : Int32) &&& 31).toUInt32).toInt32) % (3000001 : Int32)).toInt64)), .second, .val (.int (p1 &&& (3 : Int32))), .val (.long (j0_0 q0 p1)), .second, .val (.long ((j0_0 q0 p1) / (1000000 : Int64))), .second, .val (.long ((j0_0 q0 p1) - (j0_0 q0 p1) / (1000000 : Int64) * (1000000 : Int64))), .second, .val (.long (j0_1 q0 p1)), .second] [])) _
      refine XS.lconst X0.here hx rfl (hb hby at_97) ?_
      show Steps p.tables e below (s₁.setTop (mkF m 98 #[.val (.long q0), .second, .val (.int p1), .val (.long (9223372036853775808 : Int64)), .second, .val (.long ((((p1.toUInt32 >>> ((2 : Int32) &&& 31).toUInt32).toInt32) % (3000001 : Int32)).toInt64)), .second, .val (.int (p1 &&& (3 : Int32))), .val (.long (j0_0 q0 p1)), .second, .val (.long ((j0_0 q0 p1) / (1000000 : Int64))), .second, .val (.long ((j0_0 q0 p1) - (j0_0 q0 p1) / (1000000 : Int64) * (1000000 : Int64))), .second, .val (.long (j0_1 q0 p1)), .second] [(.long (1 : Int64))])) _
      refine XS.lstore X0.here hx rfl (hb hby at_98) rfl (l' := #[.val (.long q0), .second, .val (.int p1), .val (.long (9223372036853775808 : Int64)), .second, .val (.long ((((p1.toUInt32 >>> ((2 : Int32) &&& 31).toUInt32).toInt32) % (3000001 : Int32)).toInt64)), .second, .val (.int (p1 &&& (3 : Int32))), .val (.long (j0_0 q0 p1)), .second, .val (.long ((j0_0 q0 p1) / (1000000 : Int64))), .second, .val (.long ((j0_0 q0 p1) - (j0_0 q0 p1) / (1000000 : Int64) * (1000000 : Int64))), .second, .val (.long (1 : Int64)), .second]) rfl ?_
      have hj24 : (j0_2 q0 p1) = (1 : Int64) := by unfold j0_2; first | (rw [if_pos hc23]) | (simp only [if_pos hc23])
      rw [hj24] at k
      exact k
    · skip
      show Steps p.tables e below (s₁.setTop (mkF m 94 #[.val (.long q0), .second, .val (.int p1), .val (.long (9223372036853775808 : Int64)), .second, .val (.long ((((p1.toUInt32 >>> ((2 : Int32) &&& 31).toUInt32).toInt32) % (3000001 : Int32)).toInt64)), .second, .val (.int (p1 &&& (3 : Int32))), .val (.long (j0_0 q0 p1)), .second, .val (.long ((j0_0 q0 p1) / (1000000 : Int64))), .second, .val (.long ((j0_0 q0 p1) - (j0_0 q0 p1) / (1000000 : Int64) * (1000000 : Int64))), .second, .val (.long (j0_1 q0 p1)), .second] [(.int (lcmpW (j0_1 q0 p1) (0 : Int64)))])) _
      refine XS.ifYes X0.here hx rfl (pc0 := 94) (pc' := 100) rfl (hb hby at_94) rfl ((if0 _ _).trans (feq (mt (own_eq (j0_1 q0 p1) (0 : Int64)).mp hc23)).2) (by decide) (by decide) ?_
      have hj25 : (j0_2 q0 p1) = (j0_1 q0 p1) := by unfold j0_2; first | (rw [if_neg hc23]) | (simp only [if_neg hc23])
      rw [hj25] at k
      exact k)
  obtain ⟨_, _, ⟨T26, L26, k26, n26⟩, -, X26, ⟨Lc26, hQ26, l26, y26, z26⟩, st26⟩ := Jvm.LawKit.callS X0 hx (y := (⟨"com/example/run_state_store/runstatestore/BenchWriters", "millis", "(J)J"⟩ : MethodName)) hown (mvT hZ (hw _ (List.mem_of_getElem? (i := 4) rfl))) (mvT hZ (hw _ (List.mem_of_getElem? (i := 5) rfl))) (mvT hZ (hw _ (List.mem_of_getElem? (i := 6) rfl))) (mvT hZ (hw _ (List.mem_of_getElem? (i := 7) rfl))) (by decide) (backOf (W := 0) (rm1 l Z aw hw [] ((j0_0 q0 p1)) h0 n0 Z0 ) hZ (hw _ (List.mem_of_getElem? (i := 7) rfl)) (hw _ (List.mem_of_getElem? (i := 6) rfl)) (by decide) (by decide)) (g := (mkF m 102 #[.val (.long q0), .second, .val (.int p1), .val (.long (9223372036853775808 : Int64)), .second, .val (.long ((((p1.toUInt32 >>> ((2 : Int32) &&& 31).toUInt32).toInt32) % (3000001 : Int32)).toInt64)), .second, .val (.int (p1 &&& (3 : Int32))), .val (.long (j0_0 q0 p1)), .second, .val (.long ((j0_0 q0 p1) / (1000000 : Int64))), .second, .val (.long ((j0_0 q0 p1) - (j0_0 q0 p1) / (1000000 : Int64) * (1000000 : Int64))), .second, .val (.long (j0_2 q0 p1)), .second] [(.long (j0_0 q0 p1))])) rfl (by rw [hml]; rfl) (argsL := [(.long (j0_0 q0 p1))]) (rest := []) (lenOf pd_2 rfl) rfl (by show 2 * 0 + _ ≤ _; exact Nat.le_of_eq rfl) (hb hby at_102) (fun _ _ => ⟨rfl, e0, (by decide : 0 + 0 ≤ _), (by decide : 0 + 0 ≤ _)⟩)
  dsimp only [Pt.U, Pt.locs, Pt.cells, Pt.slots] at X26 l26 y26 z26 st26 hQ26
  subst l26 y26 z26
  obtain ⟨rfl, N26q, e26⟩ := hQ26
  have N26 := Fr.app N0 N26q
  have pre27 := fun (t : State) (k : Steps p.tables e below (T26.setTop (mkF m 108 #[.val (.long q0), .second, .val (.int p1), .val (.long (9223372036853775808 : Int64)), .second, .val (.long ((((p1.toUInt32 >>> ((2 : Int32) &&& 31).toUInt32).toInt32) % (3000001 : Int32)).toInt64)), .second, .val (.int (p1 &&& (3 : Int32))), .val (.long (j0_0 q0 p1)), .second, .val (.long ((j0_0 q0 p1) / (1000000 : Int64))), .second, .val (.long ((j0_0 q0 p1) - (j0_0 q0 p1) / (1000000 : Int64) * (1000000 : Int64))), .second, .val (.long (j0_2 q0 p1)), .second] [(.int (lcmpW (j2_0 (1 : Int64) (((j0_0 q0 p1) + (999999 : Int64)) / (1000000 : Int64))) (j0_2 q0 p1)))])) t) => pre22 t (by
    show Steps p.tables e below (s₁.setTop (mkF m 100 #[.val (.long q0), .second, .val (.int p1), .val (.long (9223372036853775808 : Int64)), .second, .val (.long ((((p1.toUInt32 >>> ((2 : Int32) &&& 31).toUInt32).toInt32) % (3000001 : Int32)).toInt64)), .second, .val (.int (p1 &&& (3 : Int32))), .val (.long (j0_0 q0 p1)), .second, .val (.long ((j0_0 q0 p1) / (1000000 : Int64))), .second, .val (.long ((j0_0 q0 p1) - (j0_0 q0 p1) / (1000000 : Int64) * (1000000 : Int64))), .second, .val (.long (j0_2 q0 p1)), .second] [])) _
    refine XS.lload X0.here hx rfl (hb hby at_100) rfl ?_
    show Steps p.tables e below (s₁.setTop (mkF m 102 #[.val (.long q0), .second, .val (.int p1), .val (.long (9223372036853775808 : Int64)), .second, .val (.long ((((p1.toUInt32 >>> ((2 : Int32) &&& 31).toUInt32).toInt32) % (3000001 : Int32)).toInt64)), .second, .val (.int (p1 &&& (3 : Int32))), .val (.long (j0_0 q0 p1)), .second, .val (.long ((j0_0 q0 p1) / (1000000 : Int64))), .second, .val (.long ((j0_0 q0 p1) - (j0_0 q0 p1) / (1000000 : Int64) * (1000000 : Int64))), .second, .val (.long (j0_2 q0 p1)), .second] [(.long (j0_0 q0 p1))])) _
    refine st26 _ ?_
    show Steps p.tables e below (T26.setTop (mkF m 105 #[.val (.long q0), .second, .val (.int p1), .val (.long (9223372036853775808 : Int64)), .second, .val (.long ((((p1.toUInt32 >>> ((2 : Int32) &&& 31).toUInt32).toInt32) % (3000001 : Int32)).toInt64)), .second, .val (.int (p1 &&& (3 : Int32))), .val (.long (j0_0 q0 p1)), .second, .val (.long ((j0_0 q0 p1) / (1000000 : Int64))), .second, .val (.long ((j0_0 q0 p1) - (j0_0 q0 p1) / (1000000 : Int64) * (1000000 : Int64))), .second, .val (.long (j0_2 q0 p1)), .second] [(.long (j2_0 (1 : Int64) (((j0_0 q0 p1) + (999999 : Int64)) / (1000000 : Int64))))])) _
    refine XS.lload X26.here hx rfl (hb hby at_105) rfl ?_
    show Steps p.tables e below (T26.setTop (mkF m 107 #[.val (.long q0), .second, .val (.int p1), .val (.long (9223372036853775808 : Int64)), .second, .val (.long ((((p1.toUInt32 >>> ((2 : Int32) &&& 31).toUInt32).toInt32) % (3000001 : Int32)).toInt64)), .second, .val (.int (p1 &&& (3 : Int32))), .val (.long (j0_0 q0 p1)), .second, .val (.long ((j0_0 q0 p1) / (1000000 : Int64))), .second, .val (.long ((j0_0 q0 p1) - (j0_0 q0 p1) / (1000000 : Int64) * (1000000 : Int64))), .second, .val (.long (j0_2 q0 p1)), .second] [(.long (j0_2 q0 p1)), (.long (j2_0 (1 : Int64) (((j0_0 q0 p1) + (999999 : Int64)) / (1000000 : Int64))))])) _
    refine XS.lcmp X26.here hx rfl (hb hby at_107) rfl ?_
    exact k)
  have pre28 := fun (t : State) (k : Steps p.tables e below (T26.setTop (mkF m 116 #[.val (.long q0), .second, .val (.int p1), .val (.long (9223372036853775808 : Int64)), .second, .val (.long ((((p1.toUInt32 >>> ((2 : Int32) &&& 31).toUInt32).toInt32) % (3000001 : Int32)).toInt64)), .second, .val (.int (p1 &&& (3 : Int32))), .val (.long (j0_0 q0 p1)), .second, .val (.long ((j0_0 q0 p1) / (1000000 : Int64))), .second, .val (.long ((j0_0 q0 p1) - (j0_0 q0 p1) / (1000000 : Int64) * (1000000 : Int64))), .second, .val (.long (j0_2 q0 p1)), .second] [(.int (j0_3 q0 p1))])) t) => pre27 t (by
    by_cases hc29 : (j2_0 (1 : Int64) (((j0_0 q0 p1) + (999999 : Int64)) / (1000000 : Int64))) = (j0_2 q0 p1)
    · skip
      show Steps p.tables e below (T26.setTop (mkF m 108 #[.val (.long q0), .second, .val (.int p1), .val (.long (9223372036853775808 : Int64)), .second, .val (.long ((((p1.toUInt32 >>> ((2 : Int32) &&& 31).toUInt32).toInt32) % (3000001 : Int32)).toInt64)), .second, .val (.int (p1 &&& (3 : Int32))), .val (.long (j0_0 q0 p1)), .second, .val (.long ((j0_0 q0 p1) / (1000000 : Int64))), .second, .val (.long ((j0_0 q0 p1) - (j0_0 q0 p1) / (1000000 : Int64) * (1000000 : Int64))), .second, .val (.long (j0_2 q0 p1)), .second] [(.int (lcmpW (j2_0 (1 : Int64) (((j0_0 q0 p1) + (999999 : Int64)) / (1000000 : Int64))) (j0_2 q0 p1)))])) _
      refine XS.ifNo X26.here hx rfl (hb hby at_108) rfl ((if0 _ _).trans (teq ((own_eq (j2_0 (1 : Int64) (((j0_0 q0 p1) + (999999 : Int64)) / (1000000 : Int64))) (j0_2 q0 p1)).mpr hc29)).2) ?_
      show Steps p.tables e below (T26.setTop (mkF m 111 #[.val (.long q0), .second, .val (.int p1), .val (.long (9223372036853775808 : Int64)), .second, .val (.long ((((p1.toUInt32 >>> ((2 : Int32) &&& 31).toUInt32).toInt32) % (3000001 : Int32)).toInt64)), .second, .val (.int (p1 &&& (3 : Int32))), .val (.long (j0_0 q0 p1)), .second, .val (.long ((j0_0 q0 p1) / (1000000 : Int64))), .second, .val (.long ((j0_0 q0 p1) - (j0_0 q0 p1) / (1000000 : Int64) * (1000000 : Int64))), .second, .val (.long (j0_2 q0 p1)), .second] [])) _
      refine XS.iconst X26.here hx rfl (hb hby at_111) ?_
      show Steps p.tables e below (T26.setTop (mkF m 112 #[.val (.long q0), .second, .val (.int p1), .val (.long (9223372036853775808 : Int64)), .second, .val (.long ((((p1.toUInt32 >>> ((2 : Int32) &&& 31).toUInt32).toInt32) % (3000001 : Int32)).toInt64)), .second, .val (.int (p1 &&& (3 : Int32))), .val (.long (j0_0 q0 p1)), .second, .val (.long ((j0_0 q0 p1) / (1000000 : Int64))), .second, .val (.long ((j0_0 q0 p1) - (j0_0 q0 p1) / (1000000 : Int64) * (1000000 : Int64))), .second, .val (.long (j0_2 q0 p1)), .second] [(.int (1 : Int32))])) _
      refine XS.goto X26.here hx rfl (pc0 := 112) (pc' := 116) rfl (hb hby at_112) (by decide) (by decide) ?_
      have hj30 : (j0_3 q0 p1) = (1 : Int32) := by unfold j0_3; first | (rw [if_pos hc29]) | (simp only [if_pos hc29])
      rw [hj30] at k
      exact k
    · skip
      show Steps p.tables e below (T26.setTop (mkF m 108 #[.val (.long q0), .second, .val (.int p1), .val (.long (9223372036853775808 : Int64)), .second, .val (.long ((((p1.toUInt32 >>> ((2 : Int32) &&& 31).toUInt32).toInt32) % (3000001 : Int32)).toInt64)), .second, .val (.int (p1 &&& (3 : Int32))), .val (.long (j0_0 q0 p1)), .second, .val (.long ((j0_0 q0 p1) / (1000000 : Int64))), .second, .val (.long ((j0_0 q0 p1) - (j0_0 q0 p1) / (1000000 : Int64) * (1000000 : Int64))), .second, .val (.long (j0_2 q0 p1)), .second] [(.int (lcmpW (j2_0 (1 : Int64) (((j0_0 q0 p1) + (999999 : Int64)) / (1000000 : Int64))) (j0_2 q0 p1)))])) _
      refine XS.ifYes X26.here hx rfl (pc0 := 108) (pc' := 115) rfl (hb hby at_108) rfl ((if0 _ _).trans (feq (mt (own_eq (j2_0 (1 : Int64) (((j0_0 q0 p1) + (999999 : Int64)) / (1000000 : Int64))) (j0_2 q0 p1)).mp hc29)).2) (by decide) (by decide) ?_
      show Steps p.tables e below (T26.setTop (mkF m 115 #[.val (.long q0), .second, .val (.int p1), .val (.long (9223372036853775808 : Int64)), .second, .val (.long ((((p1.toUInt32 >>> ((2 : Int32) &&& 31).toUInt32).toInt32) % (3000001 : Int32)).toInt64)), .second, .val (.int (p1 &&& (3 : Int32))), .val (.long (j0_0 q0 p1)), .second, .val (.long ((j0_0 q0 p1) / (1000000 : Int64))), .second, .val (.long ((j0_0 q0 p1) - (j0_0 q0 p1) / (1000000 : Int64) * (1000000 : Int64))), .second, .val (.long (j0_2 q0 p1)), .second] [])) _
      refine XS.iconst X26.here hx rfl (hb hby at_115) ?_
      have hj31 : (j0_3 q0 p1) = (0 : Int32) := by unfold j0_3; first | (rw [if_neg hc29]) | (simp only [if_neg hc29])
      rw [hj31] at k
      exact k)
  obtain ⟨fs, hr, hrun, hended, hW, hsame⟩ := X26.leave (v := some (.int (nar .boolean (j0_3 q0 p1)))) (fun h => by rw [Bd.returns] at h; cases h)
  refine ⟨_, _, pre28 _ ?_, hrun, hended, _, _, rfl, ?_, ⟨_, rfl⟩, hW, hsame.mono (by decide) (by decide)⟩
  · skip
    show Steps p.tables e below (T26.setTop (mkF m 116 #[.val (.long q0), .second, .val (.int p1), .val (.long (9223372036853775808 : Int64)), .second, .val (.long ((((p1.toUInt32 >>> ((2 : Int32) &&& 31).toUInt32).toInt32) % (3000001 : Int32)).toInt64)), .second, .val (.int (p1 &&& (3 : Int32))), .val (.long (j0_0 q0 p1)), .second, .val (.long ((j0_0 q0 p1) / (1000000 : Int64))), .second, .val (.long ((j0_0 q0 p1) - (j0_0 q0 p1) / (1000000 : Int64) * (1000000 : Int64))), .second, .val (.long (j0_2 q0 p1)), .second] [(.int (j0_3 q0 p1))])) _
    exact retN X26 hx (t := .boolean) Bd.returns (by simp) (hb hby at_116) hr
  · show Q0 Z q0 p1 h0 n0 _ T26.heap _
    rw [e26]
    exact ⟨rfl, N26⟩
theorem own_ush (p : Int32) : 0 ≤ ((p.toUInt32 >>> ((2 : Int32) &&& 31).toUInt32).toInt32).toInt := by
  have e : ((p.toUInt32 >>> ((2 : Int32) &&& 31).toUInt32).toInt32).toInt = ((p.toUInt32 >>> ((2 : Int32) &&& 31).toUInt32).toBitVec).toInt := rfl
  rw [e, BitVec.toInt_eq_toNat_cond]
  have h : ((p.toUInt32 >>> ((2 : Int32) &&& 31).toUInt32).toBitVec).toNat = p.toUInt32.toBitVec.toNat / 4 := by
    rw [show ((2 : Int32) &&& 31).toUInt32 = 2 from by decide]
    simp [Nat.shiftRight_eq_div_pow]
  have := p.toUInt32.toBitVec.isLt
  rw [h]; split <;> omega
theorem own_n (q : Int64) (p : Int32) : 0 ≤ (j0_0 q p).toInt ∧ (j0_0 q p).toInt ≤ 9223372036853775808 := by
  have hs := own_ush p
  have e1 : (((p.toUInt32 >>> ((2 : Int32) &&& 31).toUInt32).toInt32) % (3000001 : Int32)).toInt = ((p.toUInt32 >>> ((2 : Int32) &&& 31).toUInt32).toInt32).toInt % 3000001 := Jvm.Kit.i32_rem_nonneg hs
  have e2 := Jvm.Kit.i64_of_i32 (((p.toUInt32 >>> ((2 : Int32) &&& 31).toUInt32).toInt32) % (3000001 : Int32))
  rw [e1] at e2
  unfold j0_0
  split
  · omega
  · split
    · rw [Jvm.Kit.i64_sub] <;> rw [e2] <;> (try rw [show (9223372036853775808 : Int64).toInt = 9223372036853775808 from rfl]) <;> omega
    · have e3 : (q &&& (9223372036854775807 : Int64)).toInt = q.toInt % 2 ^ 63 := Jvm.Kit.i64_mask q 9223372036854775807 (k := 63) (by decide) (by decide)
      rw [Jvm.Kit.i64_rem_nonneg (by omega), e3, show (9223372036853775809 : Int64).toInt = 9223372036853775809 from rfl]
      omega
theorem own_core (n : Int64) (h0 : 0 ≤ n.toInt) (h1 : n.toInt ≤ 9223372036853775808) (r : Int64) (hr : r = (if (n - n / (1000000 : Int64) * (1000000 : Int64)) = (0 : Int64) then (n / (1000000 : Int64)) else ((n / (1000000 : Int64)) + (1 : Int64)))) :
    j2_0 (1 : Int64) ((n + (999999 : Int64)) / (1000000 : Int64)) = if r = (0 : Int64) then (1 : Int64) else r := by
  have e1 : (n + (999999 : Int64)).toInt = n.toInt + 999999 := Jvm.Kit.i64_add (by rw [show (999999 : Int64).toInt = 999999 from rfl]; omega) (by rw [show (999999 : Int64).toInt = 999999 from rfl]; omega)
  have k : (1000000 : Int64).toInt = 1000000 := rfl
  have e2 : ((n + (999999 : Int64)) / (1000000 : Int64)).toInt = (n.toInt + 999999) / 1000000 := by
    rw [Jvm.Kit.i64_div (by rw [k]; omega), e1, k, Int.tdiv_eq_ediv_of_nonneg (by omega)]
  have e3 : (n / (1000000 : Int64)).toInt = n.toInt / 1000000 := by
    rw [Jvm.Kit.i64_div (by rw [k]; omega), k, Int.tdiv_eq_ediv_of_nonneg (by omega)]
  have e4 : (n - n / (1000000 : Int64) * (1000000 : Int64)).toInt = n.toInt % 1000000 := Jvm.Kit.i64_rem_nonneg h0
  have e5 : (n / (1000000 : Int64) + 1).toInt = n.toInt / 1000000 + 1 := by
    rw [Jvm.Kit.i64_add (by rw [e3]; show _ ≤ _ + (1:Int); omega) (by rw [e3]; show _ + (1:Int) < _; omega), e3]; rfl
  have o : (1 : Int64).toInt = 1 := rfl
  have z : (0 : Int64).toInt = 0 := rfl
  unfold j2_0
  subst hr
  simp only [Int64.lt_iff_toInt_lt, ← Int64.toInt_inj, e1, e2, e3, e4, o, z]
  repeat' split
  all_goals simp only [← Int64.toInt_inj, e1, e2, e3, e4, e5, o, z] at *
  all_goals omega
theorem law_one (q0 : Int64) (p1 : Int32) : (nar .boolean (j0_3 q0 p1)) = 1 := by
  unfold j0_3 j0_2
  obtain ⟨h0, h1⟩ := own_n q0 p1
  rw [if_pos (own_core (j0_0 q0 p1) h0 h1 (j0_1 q0 p1) rfl)]
  rfl
set_option maxRecDepth 65536 in
set_option maxHeartbeats 40000000 in
theorem comes_1 {Post : Tables → Env → Array Value → State → Outcome → State → Prop} (hpost : ∀ tb e args s v u, (limb_1_1.after args s (.returned v) u = true ∧ limb_1_2.after args s (.returned v) u = true ∧ True) → FrameEnd s (.returned v) u (Jvm.fieldLocs frame_1_writes args s ++ Jvm.arrayLocs frame_1_arrays args s ++ Jvm.staticLocs frame_1_statics s) 0 0 → Post tb e args s (.returned v) u) :
    ArmFor flags0 classFile x code maxLocals ret World_1 tables_1 room_1 Calls_1 rest_1 Pre_1 Post := by
  intro l hfl _ _ p e ha hc hk s m args below hf hA hF happ hP
  obtain ⟨hcalls, hrest, hpre⟩ := hP
  obtain ⟨-, -, -, hnamed, -, -, -, hat⟩ := (Spec.applies_iff hf).mp happ
  obtain ⟨hg, hn⟩ := and_e (Cond.before_iff.mp (show (Jvm.Cond.and given_1 narrow_1).before args s = true from hpre))
  obtain ⟨hcount, r0⟩ := and_e hg
  obtain ⟨k0, r1⟩ := and_e r0
  have k1 := r1
  obtain ⟨w0, w1, rfl⟩ : ∃ w0 w1 : Value, args = #[w0, w1] := by
    have hs : args.size = 2 := by simpa [Cond.value, given_1] using hcount
    obtain ⟨L⟩ := args
    match L, hs with
    | [w0, w1], _ => exact ⟨w0, w1, rfl⟩
  have hw := fun d (hd : d ∈ tables_1) => atoms_spec (ws := Jvm.Cond.code x code maxLocals ret :: tables_1) hat d (List.mem_cons_of_mem _ hd)
  obtain ⟨i0, ei0⟩ := isL_v k0
  obtain rfl : w0 = (.long i0) := Option.some.inj ei0
  obtain ⟨i1, ei1⟩ := is_v k1
  obtain rfl : w1 = (.int i1) := Option.some.inj ei1
  obtain ⟨n, o, h1, h2, h3, v, L, rfl, ⟨hv, N⟩, hq⟩ := rm0 l s _ hw tables_1 i0 i1 s.heap s.heap.size (Nat.le_refl _) p e ha hc hk s m _ below hf ((Spec.applies_iff_loose hf).mp happ).1 ⟨rfl, State.Warmed39.refl s, rfl⟩ trivial
  rw [law_one i0 i1] at hv
  subst hv
  refine ⟨n, _, h1, h2, h3, hpost _ _ _ _ _ _ ⟨Cond.after_iff.mpr rfl, Cond.after_iff.mpr (eq_i res_at (Term.int_eval (1)) rfl), trivial⟩ ⟨hq.1, hq.2.1, (hq.2.2.sift fun y hy => Or.inr (N y hy)).mono (by decide) (by decide)⟩⟩
theorem main_1_1 : Claimed_1_1 := comes_1 fun _ _ _ _ _ _ h hF => ⟨h.1, hF⟩
theorem main_1_2 : Claimed_1_2 := comes_1 fun _ _ _ _ _ _ h hF => ⟨h.2.1, hF⟩
end Jvm.Pilot.@@N@@
namespace Jvm.Pilot.@@N@@
open Jvm Jvm.ClassFile Sem Op Lib Jvm.Free Jvm.Stand Jvm.Pilot.@@N@@.Jvm.D
/-! MADE BY PROGRAM (witnessworld.py) out of the Statement's table words and the real class files: 10 classes; the members and pool entries that the words name. The judged class is class 1, her method 1. -/
namespace start1
open Jvm.ClassFile
def u (s : String) : CpInfo := .utf8 (stringToUtf16 s)
/-- a pool by its gaps: so many unusable entries, then the entry; so many at the end -/
def gap : Nat → List CpInfo → List CpInfo
  | 0, r => r
  | n + 1, r => .unusable :: gap n r
def poolList (es : List (Nat × CpInfo)) (last : Nat) : List CpInfo := es.foldr (fun e r => gap e.1 (e.2 :: r)) (gap last [])
def pool (es : List (Nat × CpInfo)) (last : Nat) : Array CpInfo := ⟨poolList es last⟩
def fileOf (pool : Array CpInfo) (this : Nat) (attrs : Array Attribute := #[]) (ms : Array MethodInfo := #[]) (fl : Nat := 33) (sup : Nat := 0) (ifs : Array Nat := #[]) (fds : Array FieldInfo := #[]) : ClassFile where
  minorVersion := 0
  majorVersion := 65
  constantPool := pool
  accessFlags := fl
  thisClass := this
  superClass := sup
  interfaces := ifs
  fields := fds
  methods := ms
  attributes := attrs
def plain (name : String) (sup : Option ClassId) : Class where
  name := name
  kind := .ordinary
  loader := none
  accessFlags := 33
  super := sup
  interfaces := #[]
  cf := none
  fields := #[]
  methods := #[]
  instanceTypes := #[]
  staticTypes := #[]
  resolved := #[]
  callSites := []
  init := .initialized
  statics := none
  mirror := none

def pool0 : Array CpInfo := pool [(5, u "<init>"), (0, u "()V"), (1, .class_ 10), (1, u "java/lang/Object")] 113

def k0m0 : Method := { name := "<init>", desc := "()V", sig := { parameters := [], returnType := none }, accessFlags := 1, code := none }
/-- java/lang/Object -/
def k0 : Class := { plain "java/lang/Object" none with
  accessFlags := 33
  interfaces := #[]
  cf := some (fileOf pool0 8 #[] #[{ accessFlags := 1, nameIndex := 5, descriptorIndex := 6, attributes := #[] }] 33 0 #[] #[])
  fields := #[]
  methods := #[k0m0]
  instanceTypes := #[]
  staticTypes := #[]
  resolved := Array.replicate 124 none
  statics := none }

def pool1 : Array CpInfo := pool [(2, .class_ 4), (1, u "java/lang/Object"), (0, u "<init>"), (0, u "()V"), (2, .long 9223372036853775808), (1, .integer 3000001), (0, .long 9223372036854775807), (1, .long 1000000), (1, .methodref 17 18), (0, .class_ 19), (0, .nameAndType 20 21), (0, u "com/example/run_state_store/runstatestore/BenchWriters"), (0, u "millis"), (0, u "(J)J"), (0, .class_ 23), (0, u "com/example/run_state_store/runstatestore/BenchWritersMillisPinLaw"), (2, u "law"), (0, u "(JI)Z")] 3

def k1m0 : Method := { name := "<init>", desc := "()V", sig := { parameters := [], returnType := none }, accessFlags := 1, code := none }
def k1c1 : Code := { maxStack := 6, maxLocals := 16, code := code, exceptionTable := #[], attributes := #[] }
def k1m1 : Method := { name := "law", desc := "(JI)Z", sig := { parameters := [.long, .int], returnType := some .boolean }, accessFlags := 9, code := some k1c1 }
/-- com/example/run_state_store/runstatestore/BenchWritersMillisPinLaw -/
def k1 : Class := { plain "com/example/run_state_store/runstatestore/BenchWritersMillisPinLaw" (some 0) with
  accessFlags := 49
  interfaces := #[]
  cf := some (fileOf pool1 22 #[] #[{ accessFlags := 1, nameIndex := 5, descriptorIndex := 6, attributes := #[] }, { accessFlags := 9, nameIndex := 26, descriptorIndex := 27, attributes := #[] }] 49 2 #[] #[])
  fields := #[]
  methods := #[k1m0, k1m1]
  instanceTypes := #[]
  staticTypes := #[]
  resolved := Array.replicate 31 none
  statics := none }

def pool2 : Array CpInfo := pool [(4, .class_ 6), (1, u "java/lang/Object"), (4, .class_ 12), (0, u "com/example/run_state_store/runstatestore/BenchWriters"), (7, u "firstStart"), (0, u "Ljava/util/concurrent/atomic/AtomicLong;"), (4, u "lastAcknowledged"), (5, u "failure"), (0, u "Ljava/util/concurrent/atomic/AtomicReference;"), (2, u "acknowledged"), (0, u "[J"), (2, u "perOperation"), (0, u "I"), (2, u "durationNanos"), (0, u "J"), (2, u "unstarted"), (2, u "operation"), (0, u "Lcom/example/run_state_store/runstatestore/BenchWriters$Operation;"), (62, .long 999999), (1, .long 1000000), (1, .methodref 120 121), (0, .class_ 122), (0, .nameAndType 123 124), (0, u "java/lang/Math"), (0, u "max"), (0, u "(JJ)J"), (2, u "millis"), (0, u "(J)J"), (39, .class_ 170), (1, u "com/example/run_state_store/runstatestore/BenchWriters$Operation"), (7, u "NOT_STARTED")] 63

def k2c0 : Code := { maxStack := 6, maxLocals := 2, code := prog_3_method_6_code, exceptionTable := #[], attributes := #[] }
def k2m0 : Method := { name := "millis", desc := "(J)J", sig := { parameters := [.long], returnType := some .long }, accessFlags := 8, code := some k2c0 }
/-- com/example/run_state_store/runstatestore/BenchWriters -/
def k2 : Class := { plain "com/example/run_state_store/runstatestore/BenchWriters" (some 0) with
  accessFlags := 48
  interfaces := #[]
  cf := some (fileOf pool2 11 #[.nestMembers #[168]] #[{ accessFlags := 8, nameIndex := 127, descriptorIndex := 128, attributes := #[] }] 48 4 #[] #[{ accessFlags := 26, nameIndex := 178, descriptorIndex := 45, attributes := #[] }, { accessFlags := 18, nameIndex := 36, descriptorIndex := 37, attributes := #[] }, { accessFlags := 18, nameIndex := 40, descriptorIndex := 41, attributes := #[] }, { accessFlags := 18, nameIndex := 44, descriptorIndex := 45, attributes := #[] }, { accessFlags := 18, nameIndex := 48, descriptorIndex := 21, attributes := #[] }, { accessFlags := 18, nameIndex := 51, descriptorIndex := 52, attributes := #[] }, { accessFlags := 18, nameIndex := 20, descriptorIndex := 21, attributes := #[] }, { accessFlags := 18, nameIndex := 26, descriptorIndex := 21, attributes := #[] }, { accessFlags := 18, nameIndex := 32, descriptorIndex := 33, attributes := #[] }])
  fields := #[{ name := "NOT_STARTED", type := .long, accessFlags := 26, slot := 0, constantValue := 0 }, { name := "acknowledged", type := (.array .long), accessFlags := 18, slot := 0, constantValue := 0 }, { name := "perOperation", type := .int, accessFlags := 18, slot := 1, constantValue := 0 }, { name := "durationNanos", type := .long, accessFlags := 18, slot := 2, constantValue := 0 }, { name := "unstarted", type := (.object "java/util/concurrent/atomic/AtomicLong"), accessFlags := 18, slot := 3, constantValue := 0 }, { name := "operation", type := (.object "com/example/run_state_store/runstatestore/BenchWriters$Operation"), accessFlags := 18, slot := 4, constantValue := 0 }, { name := "firstStart", type := (.object "java/util/concurrent/atomic/AtomicLong"), accessFlags := 18, slot := 5, constantValue := 0 }, { name := "lastAcknowledged", type := (.object "java/util/concurrent/atomic/AtomicLong"), accessFlags := 18, slot := 6, constantValue := 0 }, { name := "failure", type := (.object "java/util/concurrent/atomic/AtomicReference"), accessFlags := 18, slot := 7, constantValue := 0 }]
  methods := #[k2m0]
  instanceTypes := #[(.array .long), .int, .long, (.object "java/util/concurrent/atomic/AtomicLong"), (.object "com/example/run_state_store/runstatestore/BenchWriters$Operation"), (.object "java/util/concurrent/atomic/AtomicLong"), (.object "java/util/concurrent/atomic/AtomicLong"), (.object "java/util/concurrent/atomic/AtomicReference")]
  staticTypes := #[.long]
  resolved := Array.replicate 242 none
  statics := none }

def pool3 : Array CpInfo := pool [(1, .class_ 2), (0, u "java/lang/Math"), (1, .class_ 6), (1, u "java/lang/Object"), (0, u "<init>"), (0, u "()V"), (89, .class_ 100), (1, u "java/lang/Math$RandomNumberGeneratorHolder"), (20, u "(JJ)J"), (50, u "negativeZeroFloatBits"), (0, u "J"), (2, u "negativeZeroDoubleBits"), (21, u "max"), (46, u "$assertionsDisabled"), (0, u "Z"), (91, u "twoToTheDoubleScaleDown"), (0, u "D"), (4, u "twoToTheDoubleScaleUp"), (9, u "E"), (3, u "PI"), (2, u "TAU"), (2, u "DEGREES_TO_RADIANS"), (0, u "RADIANS_TO_DEGREES")] 94

def k3m0 : Method := { name := "<init>", desc := "()V", sig := { parameters := [], returnType := none }, accessFlags := 2, code := none }
def k3c1 : Code := { maxStack := 4, maxLocals := 4, code := jdk_29_method_66_code, exceptionTable := #[], attributes := #[] }
def k3m1 : Method := { name := "max", desc := "(JJ)J", sig := { parameters := [.long, .long], returnType := some .long }, accessFlags := 9, code := some k3c1 }
/-- java/lang/Math -/
def k3 : Class := { plain "java/lang/Math" (some 0) with
  accessFlags := 49
  interfaces := #[]
  cf := some (fileOf pool3 1 #[.nestMembers #[98]] #[{ accessFlags := 2, nameIndex := 7, descriptorIndex := 8, attributes := #[] }, { accessFlags := 9, nameIndex := 198, descriptorIndex := 121, attributes := #[] }] 49 4 #[] #[{ accessFlags := 25, nameIndex := 354, descriptorIndex := 339, attributes := #[] }, { accessFlags := 25, nameIndex := 358, descriptorIndex := 339, attributes := #[] }, { accessFlags := 25, nameIndex := 361, descriptorIndex := 339, attributes := #[] }, { accessFlags := 26, nameIndex := 364, descriptorIndex := 339, attributes := #[] }, { accessFlags := 26, nameIndex := 365, descriptorIndex := 339, attributes := #[] }, { accessFlags := 26, nameIndex := 172, descriptorIndex := 173, attributes := #[] }, { accessFlags := 26, nameIndex := 176, descriptorIndex := 173, attributes := #[] }, { accessFlags := 8, nameIndex := 344, descriptorIndex := 339, attributes := #[] }, { accessFlags := 8, nameIndex := 338, descriptorIndex := 339, attributes := #[] }, { accessFlags := 4120, nameIndex := 245, descriptorIndex := 246, attributes := #[] }])
  fields := #[{ name := "E", type := .double, accessFlags := 25, slot := 0, constantValue := 0 }, { name := "PI", type := .double, accessFlags := 25, slot := 1, constantValue := 0 }, { name := "TAU", type := .double, accessFlags := 25, slot := 2, constantValue := 0 }, { name := "DEGREES_TO_RADIANS", type := .double, accessFlags := 26, slot := 3, constantValue := 0 }, { name := "RADIANS_TO_DEGREES", type := .double, accessFlags := 26, slot := 4, constantValue := 0 }, { name := "negativeZeroFloatBits", type := .long, accessFlags := 26, slot := 5, constantValue := 0 }, { name := "negativeZeroDoubleBits", type := .long, accessFlags := 26, slot := 6, constantValue := 0 }, { name := "twoToTheDoubleScaleUp", type := .double, accessFlags := 8, slot := 7, constantValue := 0 }, { name := "twoToTheDoubleScaleDown", type := .double, accessFlags := 8, slot := 8, constantValue := 0 }, { name := "$assertionsDisabled", type := .boolean, accessFlags := 4120, slot := 9, constantValue := 0 }]
  methods := #[k3m0, k3m1]
  instanceTypes := #[]
  staticTypes := #[.double, .double, .double, .double, .double, .long, .long, .double, .double, .boolean]
  resolved := Array.replicate 460 none
  statics := none }

def pool4 : Array CpInfo := pool [(1, u "java/lang/Cloneable"), (0, .class_ 1), (0, u "java/lang/Object"), (0, .class_ 3)] 3

/-- java/lang/Cloneable -/
def k4 : Class := { plain "java/lang/Cloneable" (some 0) with
  accessFlags := 1537
  interfaces := #[]
  cf := some (fileOf pool4 2 #[] #[] 1537 4 #[] #[])
  fields := #[]
  methods := #[]
  instanceTypes := #[]
  staticTypes := #[]
  resolved := Array.replicate 8 none
  statics := none }

def pool5 : Array CpInfo := pool [(1, u "java/io/Serializable"), (0, .class_ 1), (0, u "java/lang/Object"), (0, .class_ 3)] 3

/-- java/io/Serializable -/
def k5 : Class := { plain "java/io/Serializable" (some 0) with
  accessFlags := 1537
  interfaces := #[]
  cf := some (fileOf pool5 2 #[] #[] 1537 4 #[] #[])
  fields := #[]
  methods := #[]
  instanceTypes := #[]
  staticTypes := #[]
  resolved := Array.replicate 8 none
  statics := none }

/-- the primitive byte -/
def k6 : Class := { plain "byte" none with kind := .primitive 'B', accessFlags := 0x411 }
/-- [B -/
def k7 : Class := { plain "[B" (some 0) with kind := .array 6 .byte, interfaces := #[4, 5], accessFlags := 1041 }

/-- the primitive int -/
def k8 : Class := { plain "int" none with kind := .primitive 'I', accessFlags := 0x411 }
/-- [I -/
def k9 : Class := { plain "[I" (some 0) with kind := .array 8 .int, interfaces := #[4, 5], accessFlags := 1041 }

def heap : Heap := #[]
def classes : Array Class := #[k0, k1, k2, k3, k4, k5, k6, k7, k8, k9]
def interned : List (Array UInt16 × Addr) := []
def slotsUsed : Nat := 0
def theMethod : MethodId := ⟨1, 1⟩
def args0 : Array Value := #[.long 5, .int 5]
def aboutOver (below : List Frame) : State where
  vm := { classes := classes, interned := interned.toArray }
  heap := heap
  slotsUsed := slotsUsed
  threads := #[{ frames := .invoking theMethod args0 :: below }]
def below0 : List Frame := [.native { method := ⟨0, 0⟩, args := #[] }]
def about1 : State := aboutOver below0
def p0 : Program := .bare "" "" ""
def e0 : Env := launch0.env 0 0 0
theorem w_frames : about1.frames = Frame.invoking theMethod args0 :: below0 := rfl
set_option maxRecDepth 65536 in
theorem w_args : argsFit about1.vm theMethod args0 = true := by decide +kernel
set_option maxRecDepth 65536 in
theorem w_heap : heapFits about1 = true := by decide +kernel
set_option maxRecDepth 65536 in
theorem w_runnable : about1.curStatus? = some .runnable := by decide +kernel
set_option maxRecDepth 65536 in
theorem w_alone : about1.alone = true := by decide +kernel
set_option maxRecDepth 65536 in
theorem w_named : about1.methodNamed? x = some theMethod := by decide +kernel
set_option maxRecDepth 65536 in
theorem w_hears : about1.hears theMethod below0 = true := by decide +kernel
set_option maxRecDepth 65536 in
theorem w_ripe : about1.ripe theMethod args0 below0 = true := by decide +kernel
theorem w_running : about1.status = .running := rfl
set_option maxRecDepth 65536 in
theorem w_room : about1.hasRoom e0.platform room_1 = true :=
  launch0.hasRoom_least _ room_1 (by decide +kernel) (by decide +kernel) (by decide +kernel) (by decide +kernel) (by decide +kernel) (by decide +kernel)
theorem allAtoms_all (ts : List Jvm.Cond) (a : Array Jvm.Value) (st : Jvm.State) : (allAtoms ts).before a st = ts.all (fun c => c.before a st) := by
  induction ts with
  | nil => rfl
  | cons c t ih =>
    show (Jvm.Cond.and c (allAtoms t)).before a st = _
    rw [Jvm.Cond.before_and, ih, List.all_cons]
def words1 : List Jvm.Cond := Jvm.Cond.code x code maxLocals ret :: tables_1
/-- a 'code' word, met by the world's own term for the bytes: nothing is compared byte by byte -/
theorem code_word {y : MethodName} {bytes : ByteArray} {mx : Nat} {rt : Option FieldType} {a : Array Value} {s : State} {m : MethodId} {meth : Method} {c : Code} (h1 : s.methodNamed? y = some m) (h2 : s.vm.method? m = some meth) (h3 : meth.code = some c) (h4 : c.code = bytes)
    (h5 : (c.maxLocals == mx && c.exceptionTable.isEmpty && decide (c.maxStack ≤ mostOperands) && decide (meth.sig.returnType = rt) && !meth.locks && decide (parseMethodDescriptor y.desc = some meth.sig)) = true) : (Jvm.Cond.code y bytes mx rt).before a s = true := by
  simp only [Bool.and_eq_true, beq_iff_eq, Bool.not_eq_true', decide_eq_true_eq] at h5
  obtain ⟨⟨⟨⟨⟨g1, g2⟩, g3⟩, g4⟩, g5⟩, g6⟩ := h5
  simp [Cond.before, Cond.holds, Cond.value, h1, h2, h3, h4, g1, g2, g3, g4, g5, g6]
def isCode : Jvm.Cond → Bool
  | .code _ _ _ _ => true
  | _ => false
theorem all_split {L : List Jvm.Cond} {P : Jvm.Cond → Bool} (h1 : L.all (fun c => isCode c || P c) = true) (h2 : ∀ c ∈ L.filter isCode, P c = true) : L.all P = true := by
  refine List.all_eq_true.mpr fun c hc => ?_
  have h := List.all_eq_true.mp h1 c hc
  rcases Bool.eq_false_or_eq_true (isCode c) with hi | hi
  · exact h2 c (List.mem_filter.mpr ⟨hc, hi⟩)
  · simpa [hi] using h
set_option maxRecDepth 65536 in
theorem w_c0 : (Jvm.Cond.code x code maxLocals ret).before args0 about1 = true := code_word (m := ⟨1, 1⟩) (meth := k1m1) (c := k1c1) (by decide +kernel) rfl rfl rfl (by decide +kernel)
set_option maxRecDepth 65536 in
theorem w_c1 : (Jvm.Cond.code ({ cls := "com/example/run_state_store/runstatestore/BenchWriters", name := "millis", desc := "(J)J" } : Jvm.MethodName) prog_3_method_6_code (2 : Nat) (Option.some Jvm.ClassFile.FieldType.long)).before args0 about1 = true := code_word (m := ⟨2, 0⟩) (meth := k2m0) (c := k2c0) (by decide +kernel) rfl rfl rfl (by decide +kernel)
set_option maxRecDepth 65536 in
theorem w_c2 : (Jvm.Cond.code ({ cls := "java/lang/Math", name := "max", desc := "(JJ)J" } : Jvm.MethodName) jdk_29_method_66_code (4 : Nat) (Option.some Jvm.ClassFile.FieldType.long)).before args0 about1 = true := code_word (m := ⟨3, 1⟩) (meth := k3m1) (c := k3c1) (by decide +kernel) rfl rfl rfl (by decide +kernel)
def codes1 : List Jvm.Cond := [Jvm.Cond.code x code maxLocals ret, Jvm.Cond.code ({ cls := "com/example/run_state_store/runstatestore/BenchWriters", name := "millis", desc := "(J)J" } : Jvm.MethodName) prog_3_method_6_code (2 : Nat) (Option.some Jvm.ClassFile.FieldType.long), Jvm.Cond.code ({ cls := "java/lang/Math", name := "max", desc := "(JJ)J" } : Jvm.MethodName) jdk_29_method_66_code (4 : Nat) (Option.some Jvm.ClassFile.FieldType.long)]
set_option maxRecDepth 65536 in
theorem codes_eq : words1.filter isCode = codes1 := rfl
theorem w_codes : ∀ c ∈ words1.filter isCode, c.before args0 about1 = true := by
  rw [codes_eq]
  intro c hc
  simp only [codes1, List.mem_cons, List.not_mem_nil, or_false] at hc
  rcases hc with rfl | rfl | rfl
  · exact w_c0
  · exact w_c1
  · exact w_c2
set_option maxRecDepth 65536 in
theorem w_t1 : words1.all (fun c => isCode c || c.before args0 about1) = true := by decide +kernel
theorem w_tables : (allAtoms (Jvm.Cond.code x code maxLocals ret :: tables_1)).before args0 about1 = true := by
  rw [allAtoms_all]
  show words1.all (fun c => c.before args0 about1) = true
  refine all_split ?_ w_codes
  rw [w_t1]
set_option maxRecDepth 65536 in
theorem w_case : (Jvm.Cond.and given_1 narrow_1).before args0 about1 = true := by decide +kernel
theorem w_applies : (headSpec (Jvm.Cond.code x code maxLocals ret :: tables_1) room_1).applies x e0.platform about1 = true :=
  (Spec.applies_iff w_frames).mpr ⟨w_running, w_runnable, w_alone, w_named, w_hears, w_ripe, w_room, w_tables⟩
theorem atStart : AtStart classFile x code maxLocals ret World_1 tables_1 room_1 Calls_1 rest_1 Pre_1 launch0 p0 e0 about1 theMethod args0 below0 :=
  ⟨lists_1, trivial, launch0.admits_env _ _ _, launch0.least_env, fairChoices_fair.cas, fairChoices_fair.clock, w_frames, w_args, w_heap, w_applies, trivial, trivial, w_case⟩
end start1
theorem witness_1 : WitnessClaimed_1 := ⟨start1.p0, start1.e0, start1.about1, start1.theMethod, start1.args0, start1.below0, start1.atStart⟩
end Jvm.Pilot.@@N@@
