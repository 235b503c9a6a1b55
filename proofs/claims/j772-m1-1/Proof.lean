import JvmDerived
import JvmDerived.Pilot.@@N@@Statement
import JvmDerived.Pilot.@@N@@Code
set_option linter.unusedVariables false
set_option linter.unusedSimpArgs false
@@BLOCK:NumsL.lean.txt@@
namespace Jvm.Pilot.@@N@@
open Jvm Jvm.ClassFile Sem Op Lib Jvm.Free Jvm.Stand Jvm.LawKit Jvm.RoadKit Bundle Jvm.Pilot.@@N@@.Jvm.D
theorem own_m {Z : State} {aw : Array Value} (hw : ∀ d ∈ tables_1, d.before aw Z = true) (i : Nat) {d : Jvm.Cond} (h : tables_1[i]? = some d) : d.before aw Z = true := hw d (List.mem_of_getElem? h)
theorem own_tnc (x : Int32) : x.toNatClampNeg = x.toInt.toNat := rfl
theorem own_lc (x y : Int64) : lcmpW x y = if x > y then 1 else if x = y then 0 else -1 := rfl
theorem own_lt (x y : Int64) : lcmpW x y < 0 ↔ x < y := by
  rw [own_lc]; split
  · rename_i h; exact ⟨fun q => absurd q (by decide), fun q => absurd h (Int64.lt_asymm q)⟩
  · split
    · rename_i h1 h2; subst h2; exact ⟨fun q => absurd q (by decide), fun q => absurd q Int64.lt_irrefl⟩
    · rename_i h1 h2; exact ⟨fun _ => (Int64.lt_or_lt_of_ne h2).resolve_right h1, fun _ => by decide⟩
theorem own_gt (x y : Int64) : 0 < lcmpW x y ↔ y < x := by
  rw [own_lc]; split
  · rename_i h; exact ⟨fun _ => h, fun _ => by decide⟩
  · split
    · rename_i h1 h2; exact ⟨fun q => absurd q (by decide), fun q => absurd q h1⟩
    · rename_i h1 h2; exact ⟨fun q => absurd q (by decide), fun q => absurd q h1⟩
theorem own_eq (x y : Int64) : lcmpW x y = 0 ↔ x = y := by
  rw [own_lc]; split
  · rename_i h; exact ⟨fun q => absurd q (by decide), fun q => absurd (q ▸ h) Int64.lt_irrefl⟩
  · split
    · rename_i h1 h2; exact ⟨fun _ => h2, fun _ => rfl⟩
    · rename_i h1 h2; exact ⟨fun q => absurd q (by decide), fun q => absurd q h2⟩
theorem d1_0 : decode prog_14_method_4_code 0 = .ok (.iload_n 1, 1) := by decide +kernel
theorem d1_1 : decode prog_14_method_4_code 1 = .ok (.iload_n 0, 1) := by decide +kernel
theorem d1_2 : decode prog_14_method_4_code 2 = .ok (.if_icmp .ge 11, 3) := by decide +kernel
theorem d1_5 : decode prog_14_method_4_code 5 = .ok (.lload_n 2, 1) := by decide +kernel
theorem d1_6 : decode prog_14_method_4_code 6 = .ok (.ldc2_w 53, 3) := by decide +kernel
theorem d1_9 : decode prog_14_method_4_code 9 = .ok (.lcmp, 1) := by decide +kernel
theorem d1_10 : decode prog_14_method_4_code 10 = .ok (.ifCond .lt 7, 3) := by decide +kernel
theorem d1_17 : decode prog_14_method_4_code 17 = .ok (.iconst 0, 1) := by decide +kernel
theorem d1_13 : decode prog_14_method_4_code 13 = .ok (.iconst 1, 1) := by decide +kernel
theorem d1_14 : decode prog_14_method_4_code 14 = .ok (.goto 4, 3) := by decide +kernel
theorem d1_18 : decode prog_14_method_4_code 18 = .ok (.ireturn, 1) := by decide +kernel
def j1_0 (p0 : Int32) (p1 : Int32) (q2 : Int64) : Int32 := (if p1 < p0 then (if q2 < (1048576 : Int64) then (0 : Int32) else (1 : Int32)) else (1 : Int32))
theorem pn_1 : plainName "com/example/run_state_store/runstatestore/Pages" = true := by first | (simp [plainName, overriddenIn]; done) | decide +kernel
theorem ef1 (m : MethodId) (x0 : Int32) (x1 : Int32) (x2 : Int64) : entryFrame m #[(.int x0), (.int x1), (.long x2)] 4 = mkF m 0 #[.val (.int x0), .val (.int x1), .val (.long x2), .second] [] := by first | (simp [entryFrame, mkF, argsToLocals, Value.category]; done) | rfl
abbrev rr1 : Room := { frames := 0, cells := 0, slots := 0, locals := 0 }
def Q1 (Z : State) (p0 : Int32) (p1 : Int32) (q2 : Int64) (h0 : Heap) (n0 : Nat) (v : Option Value) (h : Heap) (L : List Loc) : Prop := v = some (.int (nar .boolean (j1_0 p0 p1 q2))) ∧ Fr n0 L ∧ h = h0
set_option maxRecDepth 65536 in
set_option maxHeartbeats 40000000 in
theorem rm1 (l : Launch) (Z : State) (aw : Array Value) (hw : ∀ d ∈ tables_1, d.before aw Z = true) (ws : List Jvm.Cond) (p0 : Int32) (p1 : Int32) (q2 : Int64) (h0 : Heap) (n0 : Nat) (Z0 : n0 ≤ h0.size)  :
    MetFree l (⟨"com/example/run_state_store/runstatestore/Pages", "cutShort", "(IIJ)Z"⟩ : MethodName) (head1 (Jvm.Cond.code (⟨"com/example/run_state_store/runstatestore/Pages", "cutShort", "(IIJ)Z"⟩ : MethodName) prog_14_method_4_code 4 (some .boolean) :: ws) rr1) (fun a U => a = #[(.int p0), (.int p1), (.long q2)] ∧ Z.Warmed39 U.vm ∧ U.heap = h0) (fun _ _ _ _ _ => True) (fun _ U o U' => ∃ v L, o = .returned v ∧ Q1 Z p0 p1 q2 h0 n0 v U'.heap L ∧ FrameEnd U o U' L rr1.cells rr1.slots) := by
  refine MetFree.of_bodySF (plainFor_of_name pn_1) hisR ?_
  intro p e s m args below meth c s₁ Bd hml0 hP hK
  obtain ⟨rfl, hZ, hh⟩ := hP
  have hx := Bd.exec
  have hby := Bd.bytes
  have hml : c.maxLocals = 4 := hml0
  have hown : s.vm.findClass "com/example/run_state_store/runstatestore/Pages" = some m.cls := findClass_of_methodNamed Bd.named
  have hnm := (name_of_methodNamed Bd.named Bd.method).1
  have X0 : Stand p l e rr1 s m #[(.int p0), (.int p1), (.long q2)] below meth c s₁ [] 0 0 := Stand.of_body Bd
  have e0 : s₁.heap = h0 := by rw [← hh, Bd.state]; rfl
  have N0 := Fr.nil n0
  have pre0 : ∀ t, Steps p.tables e below (s₁.setTop (mkF m 0 #[.val (.int p0), .val (.int p1), .val (.long q2), .second] [])) t → Steps p.tables e below (s₁.setTop (entryFrame m #[(.int p0), (.int p1), (.long q2)] 4)) t := fun t k => castTop (ef1 m p0 p1 q2) k
  have pre3 := fun (t : State) (k : Steps p.tables e below (s₁.setTop (mkF m 2 #[.val (.int p0), .val (.int p1), .val (.long q2), .second] [(.int p0), (.int p1)])) t) => pre0 t (by
    show Steps p.tables e below (s₁.setTop (mkF m 0 #[.val (.int p0), .val (.int p1), .val (.long q2), .second] [])) _
    refine XS.iloadN X0.here hx rfl (hb hby d1_0) rfl ?_
    show Steps p.tables e below (s₁.setTop (mkF m 1 #[.val (.int p0), .val (.int p1), .val (.long q2), .second] [(.int p1)])) _
    refine XS.iloadN X0.here hx rfl (hb hby d1_1) rfl ?_
    exact k)
  have pre4 := fun (t : State) (k : Steps p.tables e below (s₁.setTop (mkF m 18 #[.val (.int p0), .val (.int p1), .val (.long q2), .second] [(.int (j1_0 p0 p1 q2))])) t) => pre3 t (by
    by_cases hc5 : p1 < p0
    · skip
      show Steps p.tables e below (s₁.setTop (mkF m 2 #[.val (.int p0), .val (.int p1), .val (.long q2), .second] [(.int p0), (.int p1)])) _
      refine XS.icmpNo X0.here hx rfl (hb hby d1_2) rfl (tlt hc5).2.1 ?_
      show Steps p.tables e below (s₁.setTop (mkF m 5 #[.val (.int p0), .val (.int p1), .val (.long q2), .second] [])) _
      refine XS.lloadN X0.here hx rfl (hb hby d1_5) rfl ?_
      show Steps p.tables e below (s₁.setTop (mkF m 6 #[.val (.int p0), .val (.int p1), .val (.long q2), .second] [(.long q2)])) _
      refine X0.ldc2Long hx hown (mvT hZ (hw _ (List.mem_of_getElem? (i := 9) rfl))) (g := (mkF m 6 #[.val (.int p0), .val (.int p1), .val (.long q2), .second] [(.long q2)])) rfl (hb hby d1_6) _ ?_
      show Steps p.tables e below (s₁.setTop (mkF m 9 #[.val (.int p0), .val (.int p1), .val (.long q2), .second] [(.long (1048576 : Int64)), (.long q2)])) _
      refine XS.lcmp X0.here hx rfl (hb hby d1_9) rfl ?_
      by_cases hc6 : q2 < (1048576 : Int64)
      · skip
        show Steps p.tables e below (s₁.setTop (mkF m 10 #[.val (.int p0), .val (.int p1), .val (.long q2), .second] [(.int (lcmpW q2 (1048576 : Int64)))])) _
        refine XS.ifYes X0.here hx rfl (pc0 := 10) (pc' := 17) rfl (hb hby d1_10) rfl ((if0 _ _).trans (tlt ((own_lt q2 (1048576 : Int64)).mpr hc6)).1) (by decide) (by decide) ?_
        show Steps p.tables e below (s₁.setTop (mkF m 17 #[.val (.int p0), .val (.int p1), .val (.long q2), .second] [])) _
        refine XS.iconst X0.here hx rfl (hb hby d1_17) ?_
        have hj7 : (j1_0 p0 p1 q2) = (0 : Int32) := by unfold j1_0; first | (rw [if_pos hc5, if_pos hc6]) | (simp only [if_pos hc5, if_pos hc6])
        rw [hj7] at k
        exact k
      · skip
        show Steps p.tables e below (s₁.setTop (mkF m 10 #[.val (.int p0), .val (.int p1), .val (.long q2), .second] [(.int (lcmpW q2 (1048576 : Int64)))])) _
        refine XS.ifNo X0.here hx rfl (hb hby d1_10) rfl ((if0 _ _).trans (flt (mt (own_lt q2 (1048576 : Int64)).mp hc6)).1) ?_
        show Steps p.tables e below (s₁.setTop (mkF m 13 #[.val (.int p0), .val (.int p1), .val (.long q2), .second] [])) _
        refine XS.iconst X0.here hx rfl (hb hby d1_13) ?_
        show Steps p.tables e below (s₁.setTop (mkF m 14 #[.val (.int p0), .val (.int p1), .val (.long q2), .second] [(.int (1 : Int32))])) _
        refine XS.goto X0.here hx rfl (pc0 := 14) (pc' := 18) rfl (hb hby d1_14) (by decide) (by decide) ?_
        have hj8 : (j1_0 p0 p1 q2) = (1 : Int32) := by unfold j1_0; first | (rw [if_pos hc5, if_neg hc6]) | (simp only [if_pos hc5, if_neg hc6])
        rw [hj8] at k
        exact k
    · skip
      show Steps p.tables e below (s₁.setTop (mkF m 2 #[.val (.int p0), .val (.int p1), .val (.long q2), .second] [(.int p0), (.int p1)])) _
      refine XS.icmpYes X0.here hx rfl (pc0 := 2) (pc' := 13) rfl (hb hby d1_2) rfl (flt hc5).2.1 (by decide) (by decide) ?_
      show Steps p.tables e below (s₁.setTop (mkF m 13 #[.val (.int p0), .val (.int p1), .val (.long q2), .second] [])) _
      refine XS.iconst X0.here hx rfl (hb hby d1_13) ?_
      show Steps p.tables e below (s₁.setTop (mkF m 14 #[.val (.int p0), .val (.int p1), .val (.long q2), .second] [(.int (1 : Int32))])) _
      refine XS.goto X0.here hx rfl (pc0 := 14) (pc' := 18) rfl (hb hby d1_14) (by decide) (by decide) ?_
      have hj9 : (j1_0 p0 p1 q2) = (1 : Int32) := by unfold j1_0; first | (rw [if_neg hc5]) | (simp only [if_neg hc5])
      rw [hj9] at k
      exact k)
  obtain ⟨fs, hr, hrun, hended, hW, hsame⟩ := X0.leave (v := some (.int (nar .boolean (j1_0 p0 p1 q2)))) (fun h => by rw [Bd.returns] at h; cases h)
  refine ⟨_, _, pre4 _ ?_, hrun, hended, _, _, rfl, ?_, ⟨_, rfl⟩, hW, hsame.mono (by decide) (by decide)⟩
  · skip
    show Steps p.tables e below (s₁.setTop (mkF m 18 #[.val (.int p0), .val (.int p1), .val (.long q2), .second] [(.int (j1_0 p0 p1 q2))])) _
    exact retN X0 hx (t := .boolean) Bd.returns (by simp) (hb hby d1_18) hr
  · show Q1 Z p0 p1 q2 h0 n0 _ s₁.heap _
    rw [e0]
    exact ⟨rfl, N0, rfl⟩
theorem pd_1 : parseMethodDescriptor "(IIJ)Z" = some ⟨[.int, .int, .long], some .boolean⟩ := by decide +kernel
def j0_0 (p0 : Int32) (p1 : Int32) : Int32 := (if ((p0.toInt64) + (((p1 &&& (3 : Int32)) - (1 : Int32)).toInt64)) < (-2147483648 : Int64) then p1 else (if (2147483647 : Int64) < ((p0.toInt64) + (((p1 &&& (3 : Int32)) - (1 : Int32)).toInt64)) then p1 else (((p0.toInt64) + (((p1 &&& (3 : Int32)) - (1 : Int32)).toInt64)).toInt32)))
def j0_1 (q2 : Int64) (p3 : Int32) : Int64 := (if (p3 &&& (2 : Int32)) = (0 : Int32) then ((1048576 : Int64) + ((q2 &&& (3 : Int64)) - (2 : Int64))) else q2)
def j0_2 (p0 : Int32) (p1 : Int32) : Int32 := (if (((j0_0 p0 p1).toInt64) - (p0.toInt64)) < (0 : Int64) then (0 : Int32) else (1 : Int32))
def j0_3 (q2 : Int64) (p3 : Int32) : Int32 := (if ((j0_1 q2 p3) >>> ((20 : Int32) &&& 0x3f).toInt64) < (1 : Int64) then (0 : Int32) else (1 : Int32))
def j0_4 (p0 : Int32) (p1 : Int32) (q2 : Int64) (p3 : Int32) : Int32 := (if (j0_2 p0 p1) = (0 : Int32) then (if (j0_3 q2 p3) = (0 : Int32) then (0 : Int32) else (1 : Int32)) else (1 : Int32))
def j0_5 (p0 : Int32) (p1 : Int32) (q2 : Int64) (p3 : Int32) : Int32 := (if (nar .boolean (j1_0 p0 (j0_0 p0 p1) (j0_1 q2 p3))) = (j0_4 p0 p1 q2 p3) then (1 : Int32) else (0 : Int32))
def j0_6 (p0 : Int32) (p1 : Int32) : Int32 := (if ((p1.toInt64) - (p0.toInt64)) < (0 : Int64) then (0 : Int32) else (1 : Int32))
def j0_7 (p0 : Int32) (p1 : Int32) (q2 : Int64) (p3 : Int32) : Int32 := (if (j0_6 p0 p1) = (0 : Int32) then (if (j0_3 q2 p3) = (0 : Int32) then (0 : Int32) else (1 : Int32)) else (1 : Int32))
def j0_8 (p0 : Int32) (p1 : Int32) (q2 : Int64) (p3 : Int32) : Int32 := (if (nar .boolean (j1_0 p0 p1 (j0_1 q2 p3))) = (j0_7 p0 p1 q2 p3) then (1 : Int32) else (0 : Int32))
def v0 (p0 : Int32) (p1 : Int32) (q2 : Int64) (p3 : Int32) : Int32 := (if (p3 &&& (1 : Int32)) = (0 : Int32) then (nar .boolean (j0_5 p0 p1 q2 p3)) else (nar .boolean (j0_8 p0 p1 q2 p3)))
theorem pn_2 : plainName "com/example/run_state_store/runstatestore/PagesCutShortPinLaw" = true := by first | (simp [plainName, overriddenIn]; done) | decide +kernel
theorem ef0 (m : MethodId) (x0 : Int32) (x1 : Int32) (x2 : Int64) (x3 : Int32) : entryFrame m #[(.int x0), (.int x1), (.long x2), (.int x3)] maxLocals = mkF m 0 #[.val (.int x0), .val (.int x1), .val (.long x2), .second, .val (.int x3), .unset, .unset, .unset, .unset, .unset, .unset, .unset] [] := by first | (simp [entryFrame, mkF, argsToLocals, Value.category, maxLocals]; done) | rfl
def Q0 (Z : State) (p0 : Int32) (p1 : Int32) (q2 : Int64) (p3 : Int32) (h0 : Heap) (n0 : Nat) (v : Option Value) (h : Heap) (L : List Loc) : Prop := v = some (.int (v0 p0 p1 q2 p3)) ∧ Fr n0 L
set_option maxRecDepth 65536 in
set_option maxHeartbeats 40000000 in
theorem rm0 (l : Launch) (Z : State) (aw : Array Value) (hw : ∀ d ∈ tables_1, d.before aw Z = true) (ws : List Jvm.Cond) (p0 : Int32) (p1 : Int32) (q2 : Int64) (p3 : Int32) (h0 : Heap) (n0 : Nat) (Z0 : n0 ≤ h0.size)  :
    MetFree l x (head1 (Jvm.Cond.code x code maxLocals ret :: ws) room_1) (fun a U => a = #[(.int p0), (.int p1), (.long q2), (.int p3)] ∧ Z.Warmed39 U.vm ∧ U.heap = h0) (fun _ _ _ _ _ => True) (fun _ U o U' => ∃ v L, o = .returned v ∧ Q0 Z p0 p1 q2 p3 h0 n0 v U'.heap L ∧ FrameEnd U o U' L room_1.cells room_1.slots) := by
  refine MetFree.of_bodySF (plainFor_of_name pn_2) hisR ?_
  intro p e s m args below meth c s₁ Bd hml0 hP hK
  obtain ⟨rfl, hZ, hh⟩ := hP
  have hx := Bd.exec
  have hby := Bd.bytes
  have hml : c.maxLocals = 12 := hml0
  have hown : s.vm.findClass "com/example/run_state_store/runstatestore/PagesCutShortPinLaw" = some m.cls := findClass_of_methodNamed Bd.named
  have hnm := (name_of_methodNamed Bd.named Bd.method).1
  have X0 : Stand p l e room_1 s m #[(.int p0), (.int p1), (.long q2), (.int p3)] below meth c s₁ [] 0 0 := Stand.of_body Bd
  have e0 : s₁.heap = h0 := by rw [← hh, Bd.state]; rfl
  have N0 := Fr.nil n0
  have pre0 : ∀ t, Steps p.tables e below (s₁.setTop (mkF m 0 #[.val (.int p0), .val (.int p1), .val (.long q2), .second, .val (.int p3), .unset, .unset, .unset, .unset, .unset, .unset, .unset] [])) t → Steps p.tables e below (s₁.setTop (entryFrame m #[(.int p0), (.int p1), (.long q2), (.int p3)] maxLocals)) t := fun t k => castTop (ef0 m p0 p1 q2 p3) k
  have pre15 := fun (t : State) (k : Steps p.tables e below (s₁.setTop (mkF m 7 #[.val (.int p0), .val (.int p1), .val (.long q2), .second, .val (.int p3), .val (.int p0), .unset, .unset, .unset, .unset, .unset, .unset] [(.int (p3 &&& (1 : Int32)))])) t) => pre0 t (by
    show Steps p.tables e below (s₁.setTop (mkF m 0 #[.val (.int p0), .val (.int p1), .val (.long q2), .second, .val (.int p3), .unset, .unset, .unset, .unset, .unset, .unset, .unset] [])) _
    refine XS.iloadN X0.here hx rfl (hb hby at_0) rfl ?_
    show Steps p.tables e below (s₁.setTop (mkF m 1 #[.val (.int p0), .val (.int p1), .val (.long q2), .second, .val (.int p3), .unset, .unset, .unset, .unset, .unset, .unset, .unset] [(.int p0)])) _
    refine XS.istore X0.here hx rfl (hb hby at_1) rfl (l' := #[.val (.int p0), .val (.int p1), .val (.long q2), .second, .val (.int p3), .val (.int p0), .unset, .unset, .unset, .unset, .unset, .unset]) rfl ?_
    show Steps p.tables e below (s₁.setTop (mkF m 3 #[.val (.int p0), .val (.int p1), .val (.long q2), .second, .val (.int p3), .val (.int p0), .unset, .unset, .unset, .unset, .unset, .unset] [])) _
    refine XS.iload X0.here hx rfl (hb hby at_3) rfl ?_
    show Steps p.tables e below (s₁.setTop (mkF m 5 #[.val (.int p0), .val (.int p1), .val (.long q2), .second, .val (.int p3), .val (.int p0), .unset, .unset, .unset, .unset, .unset, .unset] [(.int p3)])) _
    refine XS.iconst X0.here hx rfl (hb hby at_5) ?_
    show Steps p.tables e below (s₁.setTop (mkF m 6 #[.val (.int p0), .val (.int p1), .val (.long q2), .second, .val (.int p3), .val (.int p0), .unset, .unset, .unset, .unset, .unset, .unset] [(.int (1 : Int32)), (.int p3)])) _
    refine XS.iand X0.here hx rfl (hb hby at_6) rfl ?_
    exact k)
  by_cases hc14 : (p3 &&& (1 : Int32)) = (0 : Int32)
  · skip
    have pre18 := fun (t : State) (k : Steps p.tables e below (s₁.setTop (mkF m 33 #[.val (.int p0), .val (.int p1), .val (.long q2), .second, .val (.int p3), .val (.int p0), .unset, .val (.long ((p0.toInt64) + (((p1 &&& (3 : Int32)) - (1 : Int32)).toInt64))), .second, .unset, .unset, .unset] [(.int (lcmpW ((p0.toInt64) + (((p1 &&& (3 : Int32)) - (1 : Int32)).toInt64)) (-2147483648 : Int64)))])) t) => pre15 t (by
      show Steps p.tables e below (s₁.setTop (mkF m 7 #[.val (.int p0), .val (.int p1), .val (.long q2), .second, .val (.int p3), .val (.int p0), .unset, .unset, .unset, .unset, .unset, .unset] [(.int (p3 &&& (1 : Int32)))])) _
      refine XS.ifYes X0.here hx rfl (pc0 := 7) (pc' := 16) rfl (hb hby at_7) rfl ((if0 _ _).trans (teq hc14).1) (by decide) (by decide) ?_
      show Steps p.tables e below (s₁.setTop (mkF m 16 #[.val (.int p0), .val (.int p1), .val (.long q2), .second, .val (.int p3), .val (.int p0), .unset, .unset, .unset, .unset, .unset, .unset] [])) _
      refine XS.iloadN X0.here hx rfl (hb hby at_16) rfl ?_
      show Steps p.tables e below (s₁.setTop (mkF m 17 #[.val (.int p0), .val (.int p1), .val (.long q2), .second, .val (.int p3), .val (.int p0), .unset, .unset, .unset, .unset, .unset, .unset] [(.int p0)])) _
      refine XS.i2l X0.here hx rfl (hb hby at_17) rfl ?_
      show Steps p.tables e below (s₁.setTop (mkF m 18 #[.val (.int p0), .val (.int p1), .val (.long q2), .second, .val (.int p3), .val (.int p0), .unset, .unset, .unset, .unset, .unset, .unset] [(.long (p0.toInt64))])) _
      refine XS.iloadN X0.here hx rfl (hb hby at_18) rfl ?_
      show Steps p.tables e below (s₁.setTop (mkF m 19 #[.val (.int p0), .val (.int p1), .val (.long q2), .second, .val (.int p3), .val (.int p0), .unset, .unset, .unset, .unset, .unset, .unset] [(.int p1), (.long (p0.toInt64))])) _
      refine XS.iconst X0.here hx rfl (hb hby at_19) ?_
      show Steps p.tables e below (s₁.setTop (mkF m 20 #[.val (.int p0), .val (.int p1), .val (.long q2), .second, .val (.int p3), .val (.int p0), .unset, .unset, .unset, .unset, .unset, .unset] [(.int (3 : Int32)), (.int p1), (.long (p0.toInt64))])) _
      refine XS.iand X0.here hx rfl (hb hby at_20) rfl ?_
      show Steps p.tables e below (s₁.setTop (mkF m 21 #[.val (.int p0), .val (.int p1), .val (.long q2), .second, .val (.int p3), .val (.int p0), .unset, .unset, .unset, .unset, .unset, .unset] [(.int (p1 &&& (3 : Int32))), (.long (p0.toInt64))])) _
      refine XS.iconst X0.here hx rfl (hb hby at_21) ?_
      show Steps p.tables e below (s₁.setTop (mkF m 22 #[.val (.int p0), .val (.int p1), .val (.long q2), .second, .val (.int p3), .val (.int p0), .unset, .unset, .unset, .unset, .unset, .unset] [(.int (1 : Int32)), (.int (p1 &&& (3 : Int32))), (.long (p0.toInt64))])) _
      refine XS.isub X0.here hx rfl (hb hby at_22) rfl ?_
      show Steps p.tables e below (s₁.setTop (mkF m 23 #[.val (.int p0), .val (.int p1), .val (.long q2), .second, .val (.int p3), .val (.int p0), .unset, .unset, .unset, .unset, .unset, .unset] [(.int ((p1 &&& (3 : Int32)) - (1 : Int32))), (.long (p0.toInt64))])) _
      refine XS.i2l X0.here hx rfl (hb hby at_23) rfl ?_
      show Steps p.tables e below (s₁.setTop (mkF m 24 #[.val (.int p0), .val (.int p1), .val (.long q2), .second, .val (.int p3), .val (.int p0), .unset, .unset, .unset, .unset, .unset, .unset] [(.long (((p1 &&& (3 : Int32)) - (1 : Int32)).toInt64)), (.long (p0.toInt64))])) _
      refine XS.ladd X0.here hx rfl (hb hby at_24) rfl ?_
      show Steps p.tables e below (s₁.setTop (mkF m 25 #[.val (.int p0), .val (.int p1), .val (.long q2), .second, .val (.int p3), .val (.int p0), .unset, .unset, .unset, .unset, .unset, .unset] [(.long ((p0.toInt64) + (((p1 &&& (3 : Int32)) - (1 : Int32)).toInt64)))])) _
      refine XS.lstore X0.here hx rfl (hb hby at_25) rfl (l' := #[.val (.int p0), .val (.int p1), .val (.long q2), .second, .val (.int p3), .val (.int p0), .unset, .val (.long ((p0.toInt64) + (((p1 &&& (3 : Int32)) - (1 : Int32)).toInt64))), .second, .unset, .unset, .unset]) rfl ?_
      show Steps p.tables e below (s₁.setTop (mkF m 27 #[.val (.int p0), .val (.int p1), .val (.long q2), .second, .val (.int p3), .val (.int p0), .unset, .val (.long ((p0.toInt64) + (((p1 &&& (3 : Int32)) - (1 : Int32)).toInt64))), .second, .unset, .unset, .unset] [])) _
      refine XS.lload X0.here hx rfl (hb hby at_27) rfl ?_
      show Steps p.tables e below (s₁.setTop (mkF m 29 #[.val (.int p0), .val (.int p1), .val (.long q2), .second, .val (.int p3), .val (.int p0), .unset, .val (.long ((p0.toInt64) + (((p1 &&& (3 : Int32)) - (1 : Int32)).toInt64))), .second, .unset, .unset, .unset] [(.long ((p0.toInt64) + (((p1 &&& (3 : Int32)) - (1 : Int32)).toInt64)))])) _
      refine X0.ldc2Long hx hown (mvT hZ (hw _ (List.mem_of_getElem? (i := 0) rfl))) (g := (mkF m 29 #[.val (.int p0), .val (.int p1), .val (.long q2), .second, .val (.int p3), .val (.int p0), .unset, .val (.long ((p0.toInt64) + (((p1 &&& (3 : Int32)) - (1 : Int32)).toInt64))), .second, .unset, .unset, .unset] [(.long ((p0.toInt64) + (((p1 &&& (3 : Int32)) - (1 : Int32)).toInt64)))])) rfl (hb hby at_29) _ ?_
      show Steps p.tables e below (s₁.setTop (mkF m 32 #[.val (.int p0), .val (.int p1), .val (.long q2), .second, .val (.int p3), .val (.int p0), .unset, .val (.long ((p0.toInt64) + (((p1 &&& (3 : Int32)) - (1 : Int32)).toInt64))), .second, .unset, .unset, .unset] [(.long (-2147483648 : Int64)), (.long ((p0.toInt64) + (((p1 &&& (3 : Int32)) - (1 : Int32)).toInt64)))])) _
      refine XS.lcmp X0.here hx rfl (hb hby at_32) rfl ?_
      exact k)
    have pre19 := fun (t : State) (k : Steps p.tables e below (s₁.setTop (mkF m 56 #[.val (.int p0), .val (.int p1), .val (.long q2), .second, .val (.int p3), .val (.int p0), .val (.int (j0_0 p0 p1)), .val (.long ((p0.toInt64) + (((p1 &&& (3 : Int32)) - (1 : Int32)).toInt64))), .second, .unset, .unset, .unset] [])) t) => pre18 t (by
      by_cases hc20 : ((p0.toInt64) + (((p1 &&& (3 : Int32)) - (1 : Int32)).toInt64)) < (-2147483648 : Int64)
      · skip
        show Steps p.tables e below (s₁.setTop (mkF m 33 #[.val (.int p0), .val (.int p1), .val (.long q2), .second, .val (.int p3), .val (.int p0), .unset, .val (.long ((p0.toInt64) + (((p1 &&& (3 : Int32)) - (1 : Int32)).toInt64))), .second, .unset, .unset, .unset] [(.int (lcmpW ((p0.toInt64) + (((p1 &&& (3 : Int32)) - (1 : Int32)).toInt64)) (-2147483648 : Int64)))])) _
        refine XS.ifYes X0.here hx rfl (pc0 := 33) (pc' := 45) rfl (hb hby at_33) rfl ((if0 _ _).trans (tlt ((own_lt ((p0.toInt64) + (((p1 &&& (3 : Int32)) - (1 : Int32)).toInt64)) (-2147483648 : Int64)).mpr hc20)).1) (by decide) (by decide) ?_
        show Steps p.tables e below (s₁.setTop (mkF m 45 #[.val (.int p0), .val (.int p1), .val (.long q2), .second, .val (.int p3), .val (.int p0), .unset, .val (.long ((p0.toInt64) + (((p1 &&& (3 : Int32)) - (1 : Int32)).toInt64))), .second, .unset, .unset, .unset] [])) _
        refine XS.iloadN X0.here hx rfl (hb hby at_45) rfl ?_
        show Steps p.tables e below (s₁.setTop (mkF m 46 #[.val (.int p0), .val (.int p1), .val (.long q2), .second, .val (.int p3), .val (.int p0), .unset, .val (.long ((p0.toInt64) + (((p1 &&& (3 : Int32)) - (1 : Int32)).toInt64))), .second, .unset, .unset, .unset] [(.int p1)])) _
        refine XS.istore X0.here hx rfl (hb hby at_46) rfl (l' := #[.val (.int p0), .val (.int p1), .val (.long q2), .second, .val (.int p3), .val (.int p0), .val (.int p1), .val (.long ((p0.toInt64) + (((p1 &&& (3 : Int32)) - (1 : Int32)).toInt64))), .second, .unset, .unset, .unset]) rfl ?_
        show Steps p.tables e below (s₁.setTop (mkF m 48 #[.val (.int p0), .val (.int p1), .val (.long q2), .second, .val (.int p3), .val (.int p0), .val (.int p1), .val (.long ((p0.toInt64) + (((p1 &&& (3 : Int32)) - (1 : Int32)).toInt64))), .second, .unset, .unset, .unset] [])) _
        refine XS.goto X0.here hx rfl (pc0 := 48) (pc' := 56) rfl (hb hby at_48) (by decide) (by decide) ?_
        have hj21 : (j0_0 p0 p1) = p1 := by unfold j0_0; first | (rw [if_pos hc20]) | (simp only [if_pos hc20])
        rw [hj21] at k
        exact k
      · skip
        show Steps p.tables e below (s₁.setTop (mkF m 33 #[.val (.int p0), .val (.int p1), .val (.long q2), .second, .val (.int p3), .val (.int p0), .unset, .val (.long ((p0.toInt64) + (((p1 &&& (3 : Int32)) - (1 : Int32)).toInt64))), .second, .unset, .unset, .unset] [(.int (lcmpW ((p0.toInt64) + (((p1 &&& (3 : Int32)) - (1 : Int32)).toInt64)) (-2147483648 : Int64)))])) _
        refine XS.ifNo X0.here hx rfl (hb hby at_33) rfl ((if0 _ _).trans (flt (mt (own_lt ((p0.toInt64) + (((p1 &&& (3 : Int32)) - (1 : Int32)).toInt64)) (-2147483648 : Int64)).mp hc20)).1) ?_
        show Steps p.tables e below (s₁.setTop (mkF m 36 #[.val (.int p0), .val (.int p1), .val (.long q2), .second, .val (.int p3), .val (.int p0), .unset, .val (.long ((p0.toInt64) + (((p1 &&& (3 : Int32)) - (1 : Int32)).toInt64))), .second, .unset, .unset, .unset] [])) _
        refine XS.lload X0.here hx rfl (hb hby at_36) rfl ?_
        show Steps p.tables e below (s₁.setTop (mkF m 38 #[.val (.int p0), .val (.int p1), .val (.long q2), .second, .val (.int p3), .val (.int p0), .unset, .val (.long ((p0.toInt64) + (((p1 &&& (3 : Int32)) - (1 : Int32)).toInt64))), .second, .unset, .unset, .unset] [(.long ((p0.toInt64) + (((p1 &&& (3 : Int32)) - (1 : Int32)).toInt64)))])) _
        refine X0.ldc2Long hx hown (mvT hZ (hw _ (List.mem_of_getElem? (i := 1) rfl))) (g := (mkF m 38 #[.val (.int p0), .val (.int p1), .val (.long q2), .second, .val (.int p3), .val (.int p0), .unset, .val (.long ((p0.toInt64) + (((p1 &&& (3 : Int32)) - (1 : Int32)).toInt64))), .second, .unset, .unset, .unset] [(.long ((p0.toInt64) + (((p1 &&& (3 : Int32)) - (1 : Int32)).toInt64)))])) rfl (hb hby at_38) _ ?_
        show Steps p.tables e below (s₁.setTop (mkF m 41 #[.val (.int p0), .val (.int p1), .val (.long q2), .second, .val (.int p3), .val (.int p0), .unset, .val (.long ((p0.toInt64) + (((p1 &&& (3 : Int32)) - (1 : Int32)).toInt64))), .second, .unset, .unset, .unset] [(.long (2147483647 : Int64)), (.long ((p0.toInt64) + (((p1 &&& (3 : Int32)) - (1 : Int32)).toInt64)))])) _
        refine XS.lcmp X0.here hx rfl (hb hby at_41) rfl ?_
        by_cases hc22 : (2147483647 : Int64) < ((p0.toInt64) + (((p1 &&& (3 : Int32)) - (1 : Int32)).toInt64))
        · skip
          show Steps p.tables e below (s₁.setTop (mkF m 42 #[.val (.int p0), .val (.int p1), .val (.long q2), .second, .val (.int p3), .val (.int p0), .unset, .val (.long ((p0.toInt64) + (((p1 &&& (3 : Int32)) - (1 : Int32)).toInt64))), .second, .unset, .unset, .unset] [(.int (lcmpW ((p0.toInt64) + (((p1 &&& (3 : Int32)) - (1 : Int32)).toInt64)) (2147483647 : Int64)))])) _
          refine XS.ifNo X0.here hx rfl (hb hby at_42) rfl ((if0 _ _).trans (tlt ((own_gt ((p0.toInt64) + (((p1 &&& (3 : Int32)) - (1 : Int32)).toInt64)) (2147483647 : Int64)).mpr hc22)).2.2.2) ?_
          show Steps p.tables e below (s₁.setTop (mkF m 45 #[.val (.int p0), .val (.int p1), .val (.long q2), .second, .val (.int p3), .val (.int p0), .unset, .val (.long ((p0.toInt64) + (((p1 &&& (3 : Int32)) - (1 : Int32)).toInt64))), .second, .unset, .unset, .unset] [])) _
          refine XS.iloadN X0.here hx rfl (hb hby at_45) rfl ?_
          show Steps p.tables e below (s₁.setTop (mkF m 46 #[.val (.int p0), .val (.int p1), .val (.long q2), .second, .val (.int p3), .val (.int p0), .unset, .val (.long ((p0.toInt64) + (((p1 &&& (3 : Int32)) - (1 : Int32)).toInt64))), .second, .unset, .unset, .unset] [(.int p1)])) _
          refine XS.istore X0.here hx rfl (hb hby at_46) rfl (l' := #[.val (.int p0), .val (.int p1), .val (.long q2), .second, .val (.int p3), .val (.int p0), .val (.int p1), .val (.long ((p0.toInt64) + (((p1 &&& (3 : Int32)) - (1 : Int32)).toInt64))), .second, .unset, .unset, .unset]) rfl ?_
          show Steps p.tables e below (s₁.setTop (mkF m 48 #[.val (.int p0), .val (.int p1), .val (.long q2), .second, .val (.int p3), .val (.int p0), .val (.int p1), .val (.long ((p0.toInt64) + (((p1 &&& (3 : Int32)) - (1 : Int32)).toInt64))), .second, .unset, .unset, .unset] [])) _
          refine XS.goto X0.here hx rfl (pc0 := 48) (pc' := 56) rfl (hb hby at_48) (by decide) (by decide) ?_
          have hj23 : (j0_0 p0 p1) = p1 := by unfold j0_0; first | (rw [if_neg hc20, if_pos hc22]) | (simp only [if_neg hc20, if_pos hc22])
          rw [hj23] at k
          exact k
        · skip
          show Steps p.tables e below (s₁.setTop (mkF m 42 #[.val (.int p0), .val (.int p1), .val (.long q2), .second, .val (.int p3), .val (.int p0), .unset, .val (.long ((p0.toInt64) + (((p1 &&& (3 : Int32)) - (1 : Int32)).toInt64))), .second, .unset, .unset, .unset] [(.int (lcmpW ((p0.toInt64) + (((p1 &&& (3 : Int32)) - (1 : Int32)).toInt64)) (2147483647 : Int64)))])) _
          refine XS.ifYes X0.here hx rfl (pc0 := 42) (pc' := 51) rfl (hb hby at_42) rfl ((if0 _ _).trans (flt (mt (own_gt ((p0.toInt64) + (((p1 &&& (3 : Int32)) - (1 : Int32)).toInt64)) (2147483647 : Int64)).mp hc22)).2.2.2) (by decide) (by decide) ?_
          show Steps p.tables e below (s₁.setTop (mkF m 51 #[.val (.int p0), .val (.int p1), .val (.long q2), .second, .val (.int p3), .val (.int p0), .unset, .val (.long ((p0.toInt64) + (((p1 &&& (3 : Int32)) - (1 : Int32)).toInt64))), .second, .unset, .unset, .unset] [])) _
          refine XS.lload X0.here hx rfl (hb hby at_51) rfl ?_
          show Steps p.tables e below (s₁.setTop (mkF m 53 #[.val (.int p0), .val (.int p1), .val (.long q2), .second, .val (.int p3), .val (.int p0), .unset, .val (.long ((p0.toInt64) + (((p1 &&& (3 : Int32)) - (1 : Int32)).toInt64))), .second, .unset, .unset, .unset] [(.long ((p0.toInt64) + (((p1 &&& (3 : Int32)) - (1 : Int32)).toInt64)))])) _
          refine XS.l2i X0.here hx rfl (hb hby at_53) rfl ?_
          show Steps p.tables e below (s₁.setTop (mkF m 54 #[.val (.int p0), .val (.int p1), .val (.long q2), .second, .val (.int p3), .val (.int p0), .unset, .val (.long ((p0.toInt64) + (((p1 &&& (3 : Int32)) - (1 : Int32)).toInt64))), .second, .unset, .unset, .unset] [(.int (((p0.toInt64) + (((p1 &&& (3 : Int32)) - (1 : Int32)).toInt64)).toInt32))])) _
          refine XS.istore X0.here hx rfl (hb hby at_54) rfl (l' := #[.val (.int p0), .val (.int p1), .val (.long q2), .second, .val (.int p3), .val (.int p0), .val (.int (((p0.toInt64) + (((p1 &&& (3 : Int32)) - (1 : Int32)).toInt64)).toInt32)), .val (.long ((p0.toInt64) + (((p1 &&& (3 : Int32)) - (1 : Int32)).toInt64))), .second, .unset, .unset, .unset]) rfl ?_
          have hj24 : (j0_0 p0 p1) = (((p0.toInt64) + (((p1 &&& (3 : Int32)) - (1 : Int32)).toInt64)).toInt32) := by unfold j0_0; first | (rw [if_neg hc20, if_neg hc22]) | (simp only [if_neg hc20, if_neg hc22])
          rw [hj24] at k
          exact k)
    have pre25 := fun (t : State) (k : Steps p.tables e below (s₁.setTop (mkF m 60 #[.val (.int p0), .val (.int p1), .val (.long q2), .second, .val (.int p3), .val (.int p0), .val (.int (j0_0 p0 p1)), .val (.long ((p0.toInt64) + (((p1 &&& (3 : Int32)) - (1 : Int32)).toInt64))), .second, .unset, .unset, .unset] [(.int (p3 &&& (2 : Int32)))])) t) => pre19 t (by
      show Steps p.tables e below (s₁.setTop (mkF m 56 #[.val (.int p0), .val (.int p1), .val (.long q2), .second, .val (.int p3), .val (.int p0), .val (.int (j0_0 p0 p1)), .val (.long ((p0.toInt64) + (((p1 &&& (3 : Int32)) - (1 : Int32)).toInt64))), .second, .unset, .unset, .unset] [])) _
      refine XS.iload X0.here hx rfl (hb hby at_56) rfl ?_
      show Steps p.tables e below (s₁.setTop (mkF m 58 #[.val (.int p0), .val (.int p1), .val (.long q2), .second, .val (.int p3), .val (.int p0), .val (.int (j0_0 p0 p1)), .val (.long ((p0.toInt64) + (((p1 &&& (3 : Int32)) - (1 : Int32)).toInt64))), .second, .unset, .unset, .unset] [(.int p3)])) _
      refine XS.iconst X0.here hx rfl (hb hby at_58) ?_
      show Steps p.tables e below (s₁.setTop (mkF m 59 #[.val (.int p0), .val (.int p1), .val (.long q2), .second, .val (.int p3), .val (.int p0), .val (.int (j0_0 p0 p1)), .val (.long ((p0.toInt64) + (((p1 &&& (3 : Int32)) - (1 : Int32)).toInt64))), .second, .unset, .unset, .unset] [(.int (2 : Int32)), (.int p3)])) _
      refine XS.iand X0.here hx rfl (hb hby at_59) rfl ?_
      exact k)
    have pre26 := fun (t : State) (k : Steps p.tables e below (s₁.setTop (mkF m 84 #[.val (.int p0), .val (.int p1), .val (.long q2), .second, .val (.int p3), .val (.int p0), .val (.int (j0_0 p0 p1)), .val (.long (j0_1 q2 p3)), .second, .unset, .unset, .unset] [])) t) => pre25 t (by
      by_cases hc27 : (p3 &&& (2 : Int32)) = (0 : Int32)
      · skip
        show Steps p.tables e below (s₁.setTop (mkF m 60 #[.val (.int p0), .val (.int p1), .val (.long q2), .second, .val (.int p3), .val (.int p0), .val (.int (j0_0 p0 p1)), .val (.long ((p0.toInt64) + (((p1 &&& (3 : Int32)) - (1 : Int32)).toInt64))), .second, .unset, .unset, .unset] [(.int (p3 &&& (2 : Int32)))])) _
        refine XS.ifYes X0.here hx rfl (pc0 := 60) (pc' := 69) rfl (hb hby at_60) rfl ((if0 _ _).trans (teq hc27).1) (by decide) (by decide) ?_
        show Steps p.tables e below (s₁.setTop (mkF m 69 #[.val (.int p0), .val (.int p1), .val (.long q2), .second, .val (.int p3), .val (.int p0), .val (.int (j0_0 p0 p1)), .val (.long ((p0.toInt64) + (((p1 &&& (3 : Int32)) - (1 : Int32)).toInt64))), .second, .unset, .unset, .unset] [])) _
        refine X0.ldc2Long hx hown (mvT hZ (hw _ (List.mem_of_getElem? (i := 2) rfl))) (g := (mkF m 69 #[.val (.int p0), .val (.int p1), .val (.long q2), .second, .val (.int p3), .val (.int p0), .val (.int (j0_0 p0 p1)), .val (.long ((p0.toInt64) + (((p1 &&& (3 : Int32)) - (1 : Int32)).toInt64))), .second, .unset, .unset, .unset] [])) rfl (hb hby at_69) _ ?_
        show Steps p.tables e below (s₁.setTop (mkF m 72 #[.val (.int p0), .val (.int p1), .val (.long q2), .second, .val (.int p3), .val (.int p0), .val (.int (j0_0 p0 p1)), .val (.long ((p0.toInt64) + (((p1 &&& (3 : Int32)) - (1 : Int32)).toInt64))), .second, .unset, .unset, .unset] [(.long (1048576 : Int64))])) _
        refine XS.lloadN X0.here hx rfl (hb hby at_72) rfl ?_
        show Steps p.tables e below (s₁.setTop (mkF m 73 #[.val (.int p0), .val (.int p1), .val (.long q2), .second, .val (.int p3), .val (.int p0), .val (.int (j0_0 p0 p1)), .val (.long ((p0.toInt64) + (((p1 &&& (3 : Int32)) - (1 : Int32)).toInt64))), .second, .unset, .unset, .unset] [(.long q2), (.long (1048576 : Int64))])) _
        refine X0.ldc2Long hx hown (mvT hZ (hw _ (List.mem_of_getElem? (i := 3) rfl))) (g := (mkF m 73 #[.val (.int p0), .val (.int p1), .val (.long q2), .second, .val (.int p3), .val (.int p0), .val (.int (j0_0 p0 p1)), .val (.long ((p0.toInt64) + (((p1 &&& (3 : Int32)) - (1 : Int32)).toInt64))), .second, .unset, .unset, .unset] [(.long q2), (.long (1048576 : Int64))])) rfl (hb hby at_73) _ ?_
        show Steps p.tables e below (s₁.setTop (mkF m 76 #[.val (.int p0), .val (.int p1), .val (.long q2), .second, .val (.int p3), .val (.int p0), .val (.int (j0_0 p0 p1)), .val (.long ((p0.toInt64) + (((p1 &&& (3 : Int32)) - (1 : Int32)).toInt64))), .second, .unset, .unset, .unset] [(.long (3 : Int64)), (.long q2), (.long (1048576 : Int64))])) _
        refine XS.land X0.here hx rfl (hb hby at_76) rfl ?_
        show Steps p.tables e below (s₁.setTop (mkF m 77 #[.val (.int p0), .val (.int p1), .val (.long q2), .second, .val (.int p3), .val (.int p0), .val (.int (j0_0 p0 p1)), .val (.long ((p0.toInt64) + (((p1 &&& (3 : Int32)) - (1 : Int32)).toInt64))), .second, .unset, .unset, .unset] [(.long (q2 &&& (3 : Int64))), (.long (1048576 : Int64))])) _
        refine X0.ldc2Long hx hown (mvT hZ (hw _ (List.mem_of_getElem? (i := 4) rfl))) (g := (mkF m 77 #[.val (.int p0), .val (.int p1), .val (.long q2), .second, .val (.int p3), .val (.int p0), .val (.int (j0_0 p0 p1)), .val (.long ((p0.toInt64) + (((p1 &&& (3 : Int32)) - (1 : Int32)).toInt64))), .second, .unset, .unset, .unset] [(.long (q2 &&& (3 : Int64))), (.long (1048576 : Int64))])) rfl (hb hby at_77) _ ?_
        show Steps p.tables e below (s₁.setTop (mkF m 80 #[.val (.int p0), .val (.int p1), .val (.long q2), .second, .val (.int p3), .val (.int p0), .val (.int (j0_0 p0 p1)), .val (.long ((p0.toInt64) + (((p1 &&& (3 : Int32)) - (1 : Int32)).toInt64))), .second, .unset, .unset, .unset] [(.long (2 : Int64)), (.long (q2 &&& (3 : Int64))), (.long (1048576 : Int64))])) _
        refine XS.lsub X0.here hx rfl (hb hby at_80) rfl ?_
        show Steps p.tables e below (s₁.setTop (mkF m 81 #[.val (.int p0), .val (.int p1), .val (.long q2), .second, .val (.int p3), .val (.int p0), .val (.int (j0_0 p0 p1)), .val (.long ((p0.toInt64) + (((p1 &&& (3 : Int32)) - (1 : Int32)).toInt64))), .second, .unset, .unset, .unset] [(.long ((q2 &&& (3 : Int64)) - (2 : Int64))), (.long (1048576 : Int64))])) _
        refine XS.ladd X0.here hx rfl (hb hby at_81) rfl ?_
        show Steps p.tables e below (s₁.setTop (mkF m 82 #[.val (.int p0), .val (.int p1), .val (.long q2), .second, .val (.int p3), .val (.int p0), .val (.int (j0_0 p0 p1)), .val (.long ((p0.toInt64) + (((p1 &&& (3 : Int32)) - (1 : Int32)).toInt64))), .second, .unset, .unset, .unset] [(.long ((1048576 : Int64) + ((q2 &&& (3 : Int64)) - (2 : Int64))))])) _
        refine XS.lstore X0.here hx rfl (hb hby at_82) rfl (l' := #[.val (.int p0), .val (.int p1), .val (.long q2), .second, .val (.int p3), .val (.int p0), .val (.int (j0_0 p0 p1)), .val (.long ((1048576 : Int64) + ((q2 &&& (3 : Int64)) - (2 : Int64)))), .second, .unset, .unset, .unset]) rfl ?_
        have hj28 : (j0_1 q2 p3) = ((1048576 : Int64) + ((q2 &&& (3 : Int64)) - (2 : Int64))) := by unfold j0_1; first | (rw [if_pos hc27]) | (simp only [if_pos hc27])
        rw [hj28] at k
        exact k
      · skip
        show Steps p.tables e below (s₁.setTop (mkF m 60 #[.val (.int p0), .val (.int p1), .val (.long q2), .second, .val (.int p3), .val (.int p0), .val (.int (j0_0 p0 p1)), .val (.long ((p0.toInt64) + (((p1 &&& (3 : Int32)) - (1 : Int32)).toInt64))), .second, .unset, .unset, .unset] [(.int (p3 &&& (2 : Int32)))])) _
        refine XS.ifNo X0.here hx rfl (hb hby at_60) rfl ((if0 _ _).trans (feq hc27).1) ?_
        show Steps p.tables e below (s₁.setTop (mkF m 63 #[.val (.int p0), .val (.int p1), .val (.long q2), .second, .val (.int p3), .val (.int p0), .val (.int (j0_0 p0 p1)), .val (.long ((p0.toInt64) + (((p1 &&& (3 : Int32)) - (1 : Int32)).toInt64))), .second, .unset, .unset, .unset] [])) _
        refine XS.lloadN X0.here hx rfl (hb hby at_63) rfl ?_
        show Steps p.tables e below (s₁.setTop (mkF m 64 #[.val (.int p0), .val (.int p1), .val (.long q2), .second, .val (.int p3), .val (.int p0), .val (.int (j0_0 p0 p1)), .val (.long ((p0.toInt64) + (((p1 &&& (3 : Int32)) - (1 : Int32)).toInt64))), .second, .unset, .unset, .unset] [(.long q2)])) _
        refine XS.lstore X0.here hx rfl (hb hby at_64) rfl (l' := #[.val (.int p0), .val (.int p1), .val (.long q2), .second, .val (.int p3), .val (.int p0), .val (.int (j0_0 p0 p1)), .val (.long q2), .second, .unset, .unset, .unset]) rfl ?_
        show Steps p.tables e below (s₁.setTop (mkF m 66 #[.val (.int p0), .val (.int p1), .val (.long q2), .second, .val (.int p3), .val (.int p0), .val (.int (j0_0 p0 p1)), .val (.long q2), .second, .unset, .unset, .unset] [])) _
        refine XS.goto X0.here hx rfl (pc0 := 66) (pc' := 84) rfl (hb hby at_66) (by decide) (by decide) ?_
        have hj29 : (j0_1 q2 p3) = q2 := by unfold j0_1; first | (rw [if_neg hc27]) | (simp only [if_neg hc27])
        rw [hj29] at k
        exact k)
    have pre30 := fun (t : State) (k : Steps p.tables e below (s₁.setTop (mkF m 93 #[.val (.int p0), .val (.int p1), .val (.long q2), .second, .val (.int p3), .val (.int p0), .val (.int (j0_0 p0 p1)), .val (.long (j0_1 q2 p3)), .second, .unset, .unset, .unset] [(.int (lcmpW (((j0_0 p0 p1).toInt64) - (p0.toInt64)) (0 : Int64)))])) t) => pre26 t (by
      show Steps p.tables e below (s₁.setTop (mkF m 84 #[.val (.int p0), .val (.int p1), .val (.long q2), .second, .val (.int p3), .val (.int p0), .val (.int (j0_0 p0 p1)), .val (.long (j0_1 q2 p3)), .second, .unset, .unset, .unset] [])) _
      refine XS.iload X0.here hx rfl (hb hby at_84) rfl ?_
      show Steps p.tables e below (s₁.setTop (mkF m 86 #[.val (.int p0), .val (.int p1), .val (.long q2), .second, .val (.int p3), .val (.int p0), .val (.int (j0_0 p0 p1)), .val (.long (j0_1 q2 p3)), .second, .unset, .unset, .unset] [(.int (j0_0 p0 p1))])) _
      refine XS.i2l X0.here hx rfl (hb hby at_86) rfl ?_
      show Steps p.tables e below (s₁.setTop (mkF m 87 #[.val (.int p0), .val (.int p1), .val (.long q2), .second, .val (.int p3), .val (.int p0), .val (.int (j0_0 p0 p1)), .val (.long (j0_1 q2 p3)), .second, .unset, .unset, .unset] [(.long ((j0_0 p0 p1).toInt64))])) _
      refine XS.iload X0.here hx rfl (hb hby at_87) rfl ?_
      show Steps p.tables e below (s₁.setTop (mkF m 89 #[.val (.int p0), .val (.int p1), .val (.long q2), .second, .val (.int p3), .val (.int p0), .val (.int (j0_0 p0 p1)), .val (.long (j0_1 q2 p3)), .second, .unset, .unset, .unset] [(.int p0), (.long ((j0_0 p0 p1).toInt64))])) _
      refine XS.i2l X0.here hx rfl (hb hby at_89) rfl ?_
      show Steps p.tables e below (s₁.setTop (mkF m 90 #[.val (.int p0), .val (.int p1), .val (.long q2), .second, .val (.int p3), .val (.int p0), .val (.int (j0_0 p0 p1)), .val (.long (j0_1 q2 p3)), .second, .unset, .unset, .unset] [(.long (p0.toInt64)), (.long ((j0_0 p0 p1).toInt64))])) _
      refine XS.lsub X0.here hx rfl (hb hby at_90) rfl ?_
      show Steps p.tables e below (s₁.setTop (mkF m 91 #[.val (.int p0), .val (.int p1), .val (.long q2), .second, .val (.int p3), .val (.int p0), .val (.int (j0_0 p0 p1)), .val (.long (j0_1 q2 p3)), .second, .unset, .unset, .unset] [(.long (((j0_0 p0 p1).toInt64) - (p0.toInt64)))])) _
      refine XS.lconst X0.here hx rfl (hb hby at_91) ?_
      show Steps p.tables e below (s₁.setTop (mkF m 92 #[.val (.int p0), .val (.int p1), .val (.long q2), .second, .val (.int p3), .val (.int p0), .val (.int (j0_0 p0 p1)), .val (.long (j0_1 q2 p3)), .second, .unset, .unset, .unset] [(.long (0 : Int64)), (.long (((j0_0 p0 p1).toInt64) - (p0.toInt64)))])) _
      refine XS.lcmp X0.here hx rfl (hb hby at_92) rfl ?_
      exact k)
    have pre31 := fun (t : State) (k : Steps p.tables e below (s₁.setTop (mkF m 101 #[.val (.int p0), .val (.int p1), .val (.long q2), .second, .val (.int p3), .val (.int p0), .val (.int (j0_0 p0 p1)), .val (.long (j0_1 q2 p3)), .second, .unset, .unset, .unset] [(.int (j0_2 p0 p1))])) t) => pre30 t (by
      by_cases hc32 : (((j0_0 p0 p1).toInt64) - (p0.toInt64)) < (0 : Int64)
      · skip
        show Steps p.tables e below (s₁.setTop (mkF m 93 #[.val (.int p0), .val (.int p1), .val (.long q2), .second, .val (.int p3), .val (.int p0), .val (.int (j0_0 p0 p1)), .val (.long (j0_1 q2 p3)), .second, .unset, .unset, .unset] [(.int (lcmpW (((j0_0 p0 p1).toInt64) - (p0.toInt64)) (0 : Int64)))])) _
        refine XS.ifYes X0.here hx rfl (pc0 := 93) (pc' := 100) rfl (hb hby at_93) rfl ((if0 _ _).trans (tlt ((own_lt (((j0_0 p0 p1).toInt64) - (p0.toInt64)) (0 : Int64)).mpr hc32)).1) (by decide) (by decide) ?_
        show Steps p.tables e below (s₁.setTop (mkF m 100 #[.val (.int p0), .val (.int p1), .val (.long q2), .second, .val (.int p3), .val (.int p0), .val (.int (j0_0 p0 p1)), .val (.long (j0_1 q2 p3)), .second, .unset, .unset, .unset] [])) _
        refine XS.iconst X0.here hx rfl (hb hby at_100) ?_
        have hj33 : (j0_2 p0 p1) = (0 : Int32) := by unfold j0_2; first | (rw [if_pos hc32]) | (simp only [if_pos hc32])
        rw [hj33] at k
        exact k
      · skip
        show Steps p.tables e below (s₁.setTop (mkF m 93 #[.val (.int p0), .val (.int p1), .val (.long q2), .second, .val (.int p3), .val (.int p0), .val (.int (j0_0 p0 p1)), .val (.long (j0_1 q2 p3)), .second, .unset, .unset, .unset] [(.int (lcmpW (((j0_0 p0 p1).toInt64) - (p0.toInt64)) (0 : Int64)))])) _
        refine XS.ifNo X0.here hx rfl (hb hby at_93) rfl ((if0 _ _).trans (flt (mt (own_lt (((j0_0 p0 p1).toInt64) - (p0.toInt64)) (0 : Int64)).mp hc32)).1) ?_
        show Steps p.tables e below (s₁.setTop (mkF m 96 #[.val (.int p0), .val (.int p1), .val (.long q2), .second, .val (.int p3), .val (.int p0), .val (.int (j0_0 p0 p1)), .val (.long (j0_1 q2 p3)), .second, .unset, .unset, .unset] [])) _
        refine XS.iconst X0.here hx rfl (hb hby at_96) ?_
        show Steps p.tables e below (s₁.setTop (mkF m 97 #[.val (.int p0), .val (.int p1), .val (.long q2), .second, .val (.int p3), .val (.int p0), .val (.int (j0_0 p0 p1)), .val (.long (j0_1 q2 p3)), .second, .unset, .unset, .unset] [(.int (1 : Int32))])) _
        refine XS.goto X0.here hx rfl (pc0 := 97) (pc' := 101) rfl (hb hby at_97) (by decide) (by decide) ?_
        have hj34 : (j0_2 p0 p1) = (1 : Int32) := by unfold j0_2; first | (rw [if_neg hc32]) | (simp only [if_neg hc32])
        rw [hj34] at k
        exact k)
    have pre35 := fun (t : State) (k : Steps p.tables e below (s₁.setTop (mkF m 110 #[.val (.int p0), .val (.int p1), .val (.long q2), .second, .val (.int p3), .val (.int p0), .val (.int (j0_0 p0 p1)), .val (.long (j0_1 q2 p3)), .second, .val (.int (j0_2 p0 p1)), .unset, .unset] [(.int (lcmpW ((j0_1 q2 p3) >>> ((20 : Int32) &&& 0x3f).toInt64) (1 : Int64)))])) t) => pre31 t (by
      show Steps p.tables e below (s₁.setTop (mkF m 101 #[.val (.int p0), .val (.int p1), .val (.long q2), .second, .val (.int p3), .val (.int p0), .val (.int (j0_0 p0 p1)), .val (.long (j0_1 q2 p3)), .second, .unset, .unset, .unset] [(.int (j0_2 p0 p1))])) _
      refine XS.istore X0.here hx rfl (hb hby at_101) rfl (l' := #[.val (.int p0), .val (.int p1), .val (.long q2), .second, .val (.int p3), .val (.int p0), .val (.int (j0_0 p0 p1)), .val (.long (j0_1 q2 p3)), .second, .val (.int (j0_2 p0 p1)), .unset, .unset]) rfl ?_
      show Steps p.tables e below (s₁.setTop (mkF m 103 #[.val (.int p0), .val (.int p1), .val (.long q2), .second, .val (.int p3), .val (.int p0), .val (.int (j0_0 p0 p1)), .val (.long (j0_1 q2 p3)), .second, .val (.int (j0_2 p0 p1)), .unset, .unset] [])) _
      refine XS.lload X0.here hx rfl (hb hby at_103) rfl ?_
      show Steps p.tables e below (s₁.setTop (mkF m 105 #[.val (.int p0), .val (.int p1), .val (.long q2), .second, .val (.int p3), .val (.int p0), .val (.int (j0_0 p0 p1)), .val (.long (j0_1 q2 p3)), .second, .val (.int (j0_2 p0 p1)), .unset, .unset] [(.long (j0_1 q2 p3))])) _
      refine XS.bipush X0.here hx rfl (hb hby at_105) ?_
      show Steps p.tables e below (s₁.setTop (mkF m 107 #[.val (.int p0), .val (.int p1), .val (.long q2), .second, .val (.int p3), .val (.int p0), .val (.int (j0_0 p0 p1)), .val (.long (j0_1 q2 p3)), .second, .val (.int (j0_2 p0 p1)), .unset, .unset] [(.int (20 : Int32)), (.long (j0_1 q2 p3))])) _
      refine XS.lshr X0.here hx rfl (hb hby at_107) rfl ?_
      show Steps p.tables e below (s₁.setTop (mkF m 108 #[.val (.int p0), .val (.int p1), .val (.long q2), .second, .val (.int p3), .val (.int p0), .val (.int (j0_0 p0 p1)), .val (.long (j0_1 q2 p3)), .second, .val (.int (j0_2 p0 p1)), .unset, .unset] [(.long ((j0_1 q2 p3) >>> ((20 : Int32) &&& 0x3f).toInt64))])) _
      refine XS.lconst X0.here hx rfl (hb hby at_108) ?_
      show Steps p.tables e below (s₁.setTop (mkF m 109 #[.val (.int p0), .val (.int p1), .val (.long q2), .second, .val (.int p3), .val (.int p0), .val (.int (j0_0 p0 p1)), .val (.long (j0_1 q2 p3)), .second, .val (.int (j0_2 p0 p1)), .unset, .unset] [(.long (1 : Int64)), (.long ((j0_1 q2 p3) >>> ((20 : Int32) &&& 0x3f).toInt64))])) _
      refine XS.lcmp X0.here hx rfl (hb hby at_109) rfl ?_
      exact k)
    have pre36 := fun (t : State) (k : Steps p.tables e below (s₁.setTop (mkF m 118 #[.val (.int p0), .val (.int p1), .val (.long q2), .second, .val (.int p3), .val (.int p0), .val (.int (j0_0 p0 p1)), .val (.long (j0_1 q2 p3)), .second, .val (.int (j0_2 p0 p1)), .unset, .unset] [(.int (j0_3 q2 p3))])) t) => pre35 t (by
      by_cases hc37 : ((j0_1 q2 p3) >>> ((20 : Int32) &&& 0x3f).toInt64) < (1 : Int64)
      · skip
        show Steps p.tables e below (s₁.setTop (mkF m 110 #[.val (.int p0), .val (.int p1), .val (.long q2), .second, .val (.int p3), .val (.int p0), .val (.int (j0_0 p0 p1)), .val (.long (j0_1 q2 p3)), .second, .val (.int (j0_2 p0 p1)), .unset, .unset] [(.int (lcmpW ((j0_1 q2 p3) >>> ((20 : Int32) &&& 0x3f).toInt64) (1 : Int64)))])) _
        refine XS.ifYes X0.here hx rfl (pc0 := 110) (pc' := 117) rfl (hb hby at_110) rfl ((if0 _ _).trans (tlt ((own_lt ((j0_1 q2 p3) >>> ((20 : Int32) &&& 0x3f).toInt64) (1 : Int64)).mpr hc37)).1) (by decide) (by decide) ?_
        show Steps p.tables e below (s₁.setTop (mkF m 117 #[.val (.int p0), .val (.int p1), .val (.long q2), .second, .val (.int p3), .val (.int p0), .val (.int (j0_0 p0 p1)), .val (.long (j0_1 q2 p3)), .second, .val (.int (j0_2 p0 p1)), .unset, .unset] [])) _
        refine XS.iconst X0.here hx rfl (hb hby at_117) ?_
        have hj38 : (j0_3 q2 p3) = (0 : Int32) := by unfold j0_3; first | (rw [if_pos hc37]) | (simp only [if_pos hc37])
        rw [hj38] at k
        exact k
      · skip
        show Steps p.tables e below (s₁.setTop (mkF m 110 #[.val (.int p0), .val (.int p1), .val (.long q2), .second, .val (.int p3), .val (.int p0), .val (.int (j0_0 p0 p1)), .val (.long (j0_1 q2 p3)), .second, .val (.int (j0_2 p0 p1)), .unset, .unset] [(.int (lcmpW ((j0_1 q2 p3) >>> ((20 : Int32) &&& 0x3f).toInt64) (1 : Int64)))])) _
        refine XS.ifNo X0.here hx rfl (hb hby at_110) rfl ((if0 _ _).trans (flt (mt (own_lt ((j0_1 q2 p3) >>> ((20 : Int32) &&& 0x3f).toInt64) (1 : Int64)).mp hc37)).1) ?_
        show Steps p.tables e below (s₁.setTop (mkF m 113 #[.val (.int p0), .val (.int p1), .val (.long q2), .second, .val (.int p3), .val (.int p0), .val (.int (j0_0 p0 p1)), .val (.long (j0_1 q2 p3)), .second, .val (.int (j0_2 p0 p1)), .unset, .unset] [])) _
        refine XS.iconst X0.here hx rfl (hb hby at_113) ?_
        show Steps p.tables e below (s₁.setTop (mkF m 114 #[.val (.int p0), .val (.int p1), .val (.long q2), .second, .val (.int p3), .val (.int p0), .val (.int (j0_0 p0 p1)), .val (.long (j0_1 q2 p3)), .second, .val (.int (j0_2 p0 p1)), .unset, .unset] [(.int (1 : Int32))])) _
        refine XS.goto X0.here hx rfl (pc0 := 114) (pc' := 118) rfl (hb hby at_114) (by decide) (by decide) ?_
        have hj39 : (j0_3 q2 p3) = (1 : Int32) := by unfold j0_3; first | (rw [if_neg hc37]) | (simp only [if_neg hc37])
        rw [hj39] at k
        exact k)
    have pre42 := fun (t : State) (k : Steps p.tables e below (s₁.setTop (mkF m 122 #[.val (.int p0), .val (.int p1), .val (.long q2), .second, .val (.int p3), .val (.int p0), .val (.int (j0_0 p0 p1)), .val (.long (j0_1 q2 p3)), .second, .val (.int (j0_2 p0 p1)), .val (.int (j0_3 q2 p3)), .unset] [(.int (j0_2 p0 p1))])) t) => pre36 t (by
      show Steps p.tables e below (s₁.setTop (mkF m 118 #[.val (.int p0), .val (.int p1), .val (.long q2), .second, .val (.int p3), .val (.int p0), .val (.int (j0_0 p0 p1)), .val (.long (j0_1 q2 p3)), .second, .val (.int (j0_2 p0 p1)), .unset, .unset] [(.int (j0_3 q2 p3))])) _
      refine XS.istore X0.here hx rfl (hb hby at_118) rfl (l' := #[.val (.int p0), .val (.int p1), .val (.long q2), .second, .val (.int p3), .val (.int p0), .val (.int (j0_0 p0 p1)), .val (.long (j0_1 q2 p3)), .second, .val (.int (j0_2 p0 p1)), .val (.int (j0_3 q2 p3)), .unset]) rfl ?_
      show Steps p.tables e below (s₁.setTop (mkF m 120 #[.val (.int p0), .val (.int p1), .val (.long q2), .second, .val (.int p3), .val (.int p0), .val (.int (j0_0 p0 p1)), .val (.long (j0_1 q2 p3)), .second, .val (.int (j0_2 p0 p1)), .val (.int (j0_3 q2 p3)), .unset] [])) _
      refine XS.iload X0.here hx rfl (hb hby at_120) rfl ?_
      exact k)
    have pre43 := fun (t : State) (k : Steps p.tables e below (s₁.setTop (mkF m 135 #[.val (.int p0), .val (.int p1), .val (.long q2), .second, .val (.int p3), .val (.int p0), .val (.int (j0_0 p0 p1)), .val (.long (j0_1 q2 p3)), .second, .val (.int (j0_2 p0 p1)), .val (.int (j0_3 q2 p3)), .unset] [(.int (j0_4 p0 p1 q2 p3))])) t) => pre42 t (by
      by_cases hc44 : (j0_2 p0 p1) = (0 : Int32)
      · skip
        show Steps p.tables e below (s₁.setTop (mkF m 122 #[.val (.int p0), .val (.int p1), .val (.long q2), .second, .val (.int p3), .val (.int p0), .val (.int (j0_0 p0 p1)), .val (.long (j0_1 q2 p3)), .second, .val (.int (j0_2 p0 p1)), .val (.int (j0_3 q2 p3)), .unset] [(.int (j0_2 p0 p1))])) _
        refine XS.ifNo X0.here hx rfl (hb hby at_122) rfl ((if0 _ _).trans (teq hc44).2) ?_
        show Steps p.tables e below (s₁.setTop (mkF m 125 #[.val (.int p0), .val (.int p1), .val (.long q2), .second, .val (.int p3), .val (.int p0), .val (.int (j0_0 p0 p1)), .val (.long (j0_1 q2 p3)), .second, .val (.int (j0_2 p0 p1)), .val (.int (j0_3 q2 p3)), .unset] [])) _
        refine XS.iload X0.here hx rfl (hb hby at_125) rfl ?_
        by_cases hc45 : (j0_3 q2 p3) = (0 : Int32)
        · skip
          show Steps p.tables e below (s₁.setTop (mkF m 127 #[.val (.int p0), .val (.int p1), .val (.long q2), .second, .val (.int p3), .val (.int p0), .val (.int (j0_0 p0 p1)), .val (.long (j0_1 q2 p3)), .second, .val (.int (j0_2 p0 p1)), .val (.int (j0_3 q2 p3)), .unset] [(.int (j0_3 q2 p3))])) _
          refine XS.ifYes X0.here hx rfl (pc0 := 127) (pc' := 134) rfl (hb hby at_127) rfl ((if0 _ _).trans (teq hc45).1) (by decide) (by decide) ?_
          show Steps p.tables e below (s₁.setTop (mkF m 134 #[.val (.int p0), .val (.int p1), .val (.long q2), .second, .val (.int p3), .val (.int p0), .val (.int (j0_0 p0 p1)), .val (.long (j0_1 q2 p3)), .second, .val (.int (j0_2 p0 p1)), .val (.int (j0_3 q2 p3)), .unset] [])) _
          refine XS.iconst X0.here hx rfl (hb hby at_134) ?_
          have hj46 : (j0_4 p0 p1 q2 p3) = (0 : Int32) := by unfold j0_4; first | (rw [if_pos hc44, if_pos hc45]) | (simp only [if_pos hc44, if_pos hc45])
          rw [hj46] at k
          exact k
        · skip
          show Steps p.tables e below (s₁.setTop (mkF m 127 #[.val (.int p0), .val (.int p1), .val (.long q2), .second, .val (.int p3), .val (.int p0), .val (.int (j0_0 p0 p1)), .val (.long (j0_1 q2 p3)), .second, .val (.int (j0_2 p0 p1)), .val (.int (j0_3 q2 p3)), .unset] [(.int (j0_3 q2 p3))])) _
          refine XS.ifNo X0.here hx rfl (hb hby at_127) rfl ((if0 _ _).trans (feq hc45).1) ?_
          show Steps p.tables e below (s₁.setTop (mkF m 130 #[.val (.int p0), .val (.int p1), .val (.long q2), .second, .val (.int p3), .val (.int p0), .val (.int (j0_0 p0 p1)), .val (.long (j0_1 q2 p3)), .second, .val (.int (j0_2 p0 p1)), .val (.int (j0_3 q2 p3)), .unset] [])) _
          refine XS.iconst X0.here hx rfl (hb hby at_130) ?_
          show Steps p.tables e below (s₁.setTop (mkF m 131 #[.val (.int p0), .val (.int p1), .val (.long q2), .second, .val (.int p3), .val (.int p0), .val (.int (j0_0 p0 p1)), .val (.long (j0_1 q2 p3)), .second, .val (.int (j0_2 p0 p1)), .val (.int (j0_3 q2 p3)), .unset] [(.int (1 : Int32))])) _
          refine XS.goto X0.here hx rfl (pc0 := 131) (pc' := 135) rfl (hb hby at_131) (by decide) (by decide) ?_
          have hj47 : (j0_4 p0 p1 q2 p3) = (1 : Int32) := by unfold j0_4; first | (rw [if_pos hc44, if_neg hc45]) | (simp only [if_pos hc44, if_neg hc45])
          rw [hj47] at k
          exact k
      · skip
        show Steps p.tables e below (s₁.setTop (mkF m 122 #[.val (.int p0), .val (.int p1), .val (.long q2), .second, .val (.int p3), .val (.int p0), .val (.int (j0_0 p0 p1)), .val (.long (j0_1 q2 p3)), .second, .val (.int (j0_2 p0 p1)), .val (.int (j0_3 q2 p3)), .unset] [(.int (j0_2 p0 p1))])) _
        refine XS.ifYes X0.here hx rfl (pc0 := 122) (pc' := 130) rfl (hb hby at_122) rfl ((if0 _ _).trans (feq hc44).2) (by decide) (by decide) ?_
        show Steps p.tables e below (s₁.setTop (mkF m 130 #[.val (.int p0), .val (.int p1), .val (.long q2), .second, .val (.int p3), .val (.int p0), .val (.int (j0_0 p0 p1)), .val (.long (j0_1 q2 p3)), .second, .val (.int (j0_2 p0 p1)), .val (.int (j0_3 q2 p3)), .unset] [])) _
        refine XS.iconst X0.here hx rfl (hb hby at_130) ?_
        show Steps p.tables e below (s₁.setTop (mkF m 131 #[.val (.int p0), .val (.int p1), .val (.long q2), .second, .val (.int p3), .val (.int p0), .val (.int (j0_0 p0 p1)), .val (.long (j0_1 q2 p3)), .second, .val (.int (j0_2 p0 p1)), .val (.int (j0_3 q2 p3)), .unset] [(.int (1 : Int32))])) _
        refine XS.goto X0.here hx rfl (pc0 := 131) (pc' := 135) rfl (hb hby at_131) (by decide) (by decide) ?_
        have hj48 : (j0_4 p0 p1 q2 p3) = (1 : Int32) := by unfold j0_4; first | (rw [if_neg hc44]) | (simp only [if_neg hc44])
        rw [hj48] at k
        exact k)
    obtain ⟨_, _, ⟨T49, L49, k49, n49⟩, -, X49, ⟨Lc49, hQ49, l49, y49, z49⟩, st49⟩ := Jvm.LawKit.callS X0 hx (y := (⟨"com/example/run_state_store/runstatestore/Pages", "cutShort", "(IIJ)Z"⟩ : MethodName)) hown (mvT hZ (hw _ (List.mem_of_getElem? (i := 5) rfl))) (mvT hZ (hw _ (List.mem_of_getElem? (i := 6) rfl))) (mvT hZ (hw _ (List.mem_of_getElem? (i := 7) rfl))) (mvT hZ (hw _ (List.mem_of_getElem? (i := 8) rfl))) (by decide) (backOf (W := 0) (rm1 l Z aw hw [] p0 ((j0_0 p0 p1)) ((j0_1 q2 p3)) h0 n0 Z0 ) hZ (hw _ (List.mem_of_getElem? (i := 8) rfl)) (hw _ (List.mem_of_getElem? (i := 7) rfl)) (by decide) (by decide)) (g := (mkF m 143 #[.val (.int p0), .val (.int p1), .val (.long q2), .second, .val (.int p3), .val (.int p0), .val (.int (j0_0 p0 p1)), .val (.long (j0_1 q2 p3)), .second, .val (.int (j0_2 p0 p1)), .val (.int (j0_3 q2 p3)), .val (.int (j0_4 p0 p1 q2 p3))] [(.long (j0_1 q2 p3)), (.int (j0_0 p0 p1)), (.int p0)])) rfl (by rw [hml]; rfl) (argsL := [(.int p0), (.int (j0_0 p0 p1)), (.long (j0_1 q2 p3))]) (rest := []) (lenOf pd_1 rfl) rfl (by show 2 * 0 + _ ≤ _; exact Nat.le_of_eq rfl) (hb hby at_143) (fun _ _ => ⟨rfl, e0, (by decide : 0 + 0 ≤ _), (by decide : 0 + 0 ≤ _)⟩)
    dsimp only [Pt.U, Pt.locs, Pt.cells, Pt.slots] at X49 l49 y49 z49 st49 hQ49
    subst l49 y49 z49
    obtain ⟨rfl, N49q, e49⟩ := hQ49
    have N49 := Fr.app N0 N49q
    have pre50 := fun (t : State) (k : Steps p.tables e below (T49.setTop (mkF m 148 #[.val (.int p0), .val (.int p1), .val (.long q2), .second, .val (.int p3), .val (.int p0), .val (.int (j0_0 p0 p1)), .val (.long (j0_1 q2 p3)), .second, .val (.int (j0_2 p0 p1)), .val (.int (j0_3 q2 p3)), .val (.int (j0_4 p0 p1 q2 p3))] [(.int (j0_4 p0 p1 q2 p3)), (.int (nar .boolean (j1_0 p0 (j0_0 p0 p1) (j0_1 q2 p3))))])) t) => pre43 t (by
      show Steps p.tables e below (s₁.setTop (mkF m 135 #[.val (.int p0), .val (.int p1), .val (.long q2), .second, .val (.int p3), .val (.int p0), .val (.int (j0_0 p0 p1)), .val (.long (j0_1 q2 p3)), .second, .val (.int (j0_2 p0 p1)), .val (.int (j0_3 q2 p3)), .unset] [(.int (j0_4 p0 p1 q2 p3))])) _
      refine XS.istore X0.here hx rfl (hb hby at_135) rfl (l' := #[.val (.int p0), .val (.int p1), .val (.long q2), .second, .val (.int p3), .val (.int p0), .val (.int (j0_0 p0 p1)), .val (.long (j0_1 q2 p3)), .second, .val (.int (j0_2 p0 p1)), .val (.int (j0_3 q2 p3)), .val (.int (j0_4 p0 p1 q2 p3))]) rfl ?_
      show Steps p.tables e below (s₁.setTop (mkF m 137 #[.val (.int p0), .val (.int p1), .val (.long q2), .second, .val (.int p3), .val (.int p0), .val (.int (j0_0 p0 p1)), .val (.long (j0_1 q2 p3)), .second, .val (.int (j0_2 p0 p1)), .val (.int (j0_3 q2 p3)), .val (.int (j0_4 p0 p1 q2 p3))] [])) _
      refine XS.iload X0.here hx rfl (hb hby at_137) rfl ?_
      show Steps p.tables e below (s₁.setTop (mkF m 139 #[.val (.int p0), .val (.int p1), .val (.long q2), .second, .val (.int p3), .val (.int p0), .val (.int (j0_0 p0 p1)), .val (.long (j0_1 q2 p3)), .second, .val (.int (j0_2 p0 p1)), .val (.int (j0_3 q2 p3)), .val (.int (j0_4 p0 p1 q2 p3))] [(.int p0)])) _
      refine XS.iload X0.here hx rfl (hb hby at_139) rfl ?_
      show Steps p.tables e below (s₁.setTop (mkF m 141 #[.val (.int p0), .val (.int p1), .val (.long q2), .second, .val (.int p3), .val (.int p0), .val (.int (j0_0 p0 p1)), .val (.long (j0_1 q2 p3)), .second, .val (.int (j0_2 p0 p1)), .val (.int (j0_3 q2 p3)), .val (.int (j0_4 p0 p1 q2 p3))] [(.int (j0_0 p0 p1)), (.int p0)])) _
      refine XS.lload X0.here hx rfl (hb hby at_141) rfl ?_
      show Steps p.tables e below (s₁.setTop (mkF m 143 #[.val (.int p0), .val (.int p1), .val (.long q2), .second, .val (.int p3), .val (.int p0), .val (.int (j0_0 p0 p1)), .val (.long (j0_1 q2 p3)), .second, .val (.int (j0_2 p0 p1)), .val (.int (j0_3 q2 p3)), .val (.int (j0_4 p0 p1 q2 p3))] [(.long (j0_1 q2 p3)), (.int (j0_0 p0 p1)), (.int p0)])) _
      refine st49 _ ?_
      show Steps p.tables e below (T49.setTop (mkF m 146 #[.val (.int p0), .val (.int p1), .val (.long q2), .second, .val (.int p3), .val (.int p0), .val (.int (j0_0 p0 p1)), .val (.long (j0_1 q2 p3)), .second, .val (.int (j0_2 p0 p1)), .val (.int (j0_3 q2 p3)), .val (.int (j0_4 p0 p1 q2 p3))] [(.int (nar .boolean (j1_0 p0 (j0_0 p0 p1) (j0_1 q2 p3))))])) _
      refine XS.iload X49.here hx rfl (hb hby at_146) rfl ?_
      exact k)
    have pre51 := fun (t : State) (k : Steps p.tables e below (T49.setTop (mkF m 156 #[.val (.int p0), .val (.int p1), .val (.long q2), .second, .val (.int p3), .val (.int p0), .val (.int (j0_0 p0 p1)), .val (.long (j0_1 q2 p3)), .second, .val (.int (j0_2 p0 p1)), .val (.int (j0_3 q2 p3)), .val (.int (j0_4 p0 p1 q2 p3))] [(.int (j0_5 p0 p1 q2 p3))])) t) => pre50 t (by
      by_cases hc52 : (nar .boolean (j1_0 p0 (j0_0 p0 p1) (j0_1 q2 p3))) = (j0_4 p0 p1 q2 p3)
      · skip
        show Steps p.tables e below (T49.setTop (mkF m 148 #[.val (.int p0), .val (.int p1), .val (.long q2), .second, .val (.int p3), .val (.int p0), .val (.int (j0_0 p0 p1)), .val (.long (j0_1 q2 p3)), .second, .val (.int (j0_2 p0 p1)), .val (.int (j0_3 q2 p3)), .val (.int (j0_4 p0 p1 q2 p3))] [(.int (j0_4 p0 p1 q2 p3)), (.int (nar .boolean (j1_0 p0 (j0_0 p0 p1) (j0_1 q2 p3))))])) _
        refine XS.icmpNo X49.here hx rfl (hb hby at_148) rfl (teq hc52).2 ?_
        show Steps p.tables e below (T49.setTop (mkF m 151 #[.val (.int p0), .val (.int p1), .val (.long q2), .second, .val (.int p3), .val (.int p0), .val (.int (j0_0 p0 p1)), .val (.long (j0_1 q2 p3)), .second, .val (.int (j0_2 p0 p1)), .val (.int (j0_3 q2 p3)), .val (.int (j0_4 p0 p1 q2 p3))] [])) _
        refine XS.iconst X49.here hx rfl (hb hby at_151) ?_
        show Steps p.tables e below (T49.setTop (mkF m 152 #[.val (.int p0), .val (.int p1), .val (.long q2), .second, .val (.int p3), .val (.int p0), .val (.int (j0_0 p0 p1)), .val (.long (j0_1 q2 p3)), .second, .val (.int (j0_2 p0 p1)), .val (.int (j0_3 q2 p3)), .val (.int (j0_4 p0 p1 q2 p3))] [(.int (1 : Int32))])) _
        refine XS.goto X49.here hx rfl (pc0 := 152) (pc' := 156) rfl (hb hby at_152) (by decide) (by decide) ?_
        have hj53 : (j0_5 p0 p1 q2 p3) = (1 : Int32) := by unfold j0_5; first | (rw [if_pos hc52]) | (simp only [if_pos hc52])
        rw [hj53] at k
        exact k
      · skip
        show Steps p.tables e below (T49.setTop (mkF m 148 #[.val (.int p0), .val (.int p1), .val (.long q2), .second, .val (.int p3), .val (.int p0), .val (.int (j0_0 p0 p1)), .val (.long (j0_1 q2 p3)), .second, .val (.int (j0_2 p0 p1)), .val (.int (j0_3 q2 p3)), .val (.int (j0_4 p0 p1 q2 p3))] [(.int (j0_4 p0 p1 q2 p3)), (.int (nar .boolean (j1_0 p0 (j0_0 p0 p1) (j0_1 q2 p3))))])) _
        refine XS.icmpYes X49.here hx rfl (pc0 := 148) (pc' := 155) rfl (hb hby at_148) rfl (feq hc52).2 (by decide) (by decide) ?_
        show Steps p.tables e below (T49.setTop (mkF m 155 #[.val (.int p0), .val (.int p1), .val (.long q2), .second, .val (.int p3), .val (.int p0), .val (.int (j0_0 p0 p1)), .val (.long (j0_1 q2 p3)), .second, .val (.int (j0_2 p0 p1)), .val (.int (j0_3 q2 p3)), .val (.int (j0_4 p0 p1 q2 p3))] [])) _
        refine XS.iconst X49.here hx rfl (hb hby at_155) ?_
        have hj54 : (j0_5 p0 p1 q2 p3) = (0 : Int32) := by unfold j0_5; first | (rw [if_neg hc52]) | (simp only [if_neg hc52])
        rw [hj54] at k
        exact k)
    obtain ⟨fs, hr, hrun, hended, hW, hsame⟩ := X49.leave (v := some (.int (nar .boolean (j0_5 p0 p1 q2 p3)))) (fun h => by rw [Bd.returns] at h; cases h)
    refine ⟨_, _, pre51 _ ?_, hrun, hended, _, _, rfl, ?_, ⟨_, rfl⟩, hW, hsame.mono (by decide) (by decide)⟩
    · skip
      show Steps p.tables e below (T49.setTop (mkF m 156 #[.val (.int p0), .val (.int p1), .val (.long q2), .second, .val (.int p3), .val (.int p0), .val (.int (j0_0 p0 p1)), .val (.long (j0_1 q2 p3)), .second, .val (.int (j0_2 p0 p1)), .val (.int (j0_3 q2 p3)), .val (.int (j0_4 p0 p1 q2 p3))] [(.int (j0_5 p0 p1 q2 p3))])) _
      exact retN X49 hx (t := .boolean) Bd.returns (by simp) (hb hby at_156) hr
    · show Q0 Z p0 p1 q2 p3 h0 n0 _ T49.heap _
      rw [e49]
      have hv : (nar .boolean (j0_5 p0 p1 q2 p3)) = (v0 p0 p1 q2 p3) := by unfold v0; first | (rw [if_pos hc14]) | (simp only [if_pos hc14])
      exact ⟨(by rw [← hv]), N49⟩
  · skip
    have pre55 := fun (t : State) (k : Steps p.tables e below (s₁.setTop (mkF m 60 #[.val (.int p0), .val (.int p1), .val (.long q2), .second, .val (.int p3), .val (.int p0), .val (.int p1), .unset, .unset, .unset, .unset, .unset] [(.int (p3 &&& (2 : Int32)))])) t) => pre15 t (by
      show Steps p.tables e below (s₁.setTop (mkF m 7 #[.val (.int p0), .val (.int p1), .val (.long q2), .second, .val (.int p3), .val (.int p0), .unset, .unset, .unset, .unset, .unset, .unset] [(.int (p3 &&& (1 : Int32)))])) _
      refine XS.ifNo X0.here hx rfl (hb hby at_7) rfl ((if0 _ _).trans (feq hc14).1) ?_
      show Steps p.tables e below (s₁.setTop (mkF m 10 #[.val (.int p0), .val (.int p1), .val (.long q2), .second, .val (.int p3), .val (.int p0), .unset, .unset, .unset, .unset, .unset, .unset] [])) _
      refine XS.iloadN X0.here hx rfl (hb hby at_10) rfl ?_
      show Steps p.tables e below (s₁.setTop (mkF m 11 #[.val (.int p0), .val (.int p1), .val (.long q2), .second, .val (.int p3), .val (.int p0), .unset, .unset, .unset, .unset, .unset, .unset] [(.int p1)])) _
      refine XS.istore X0.here hx rfl (hb hby at_11) rfl (l' := #[.val (.int p0), .val (.int p1), .val (.long q2), .second, .val (.int p3), .val (.int p0), .val (.int p1), .unset, .unset, .unset, .unset, .unset]) rfl ?_
      show Steps p.tables e below (s₁.setTop (mkF m 13 #[.val (.int p0), .val (.int p1), .val (.long q2), .second, .val (.int p3), .val (.int p0), .val (.int p1), .unset, .unset, .unset, .unset, .unset] [])) _
      refine XS.goto X0.here hx rfl (pc0 := 13) (pc' := 56) rfl (hb hby at_13) (by decide) (by decide) ?_
      show Steps p.tables e below (s₁.setTop (mkF m 56 #[.val (.int p0), .val (.int p1), .val (.long q2), .second, .val (.int p3), .val (.int p0), .val (.int p1), .unset, .unset, .unset, .unset, .unset] [])) _
      refine XS.iload X0.here hx rfl (hb hby at_56) rfl ?_
      show Steps p.tables e below (s₁.setTop (mkF m 58 #[.val (.int p0), .val (.int p1), .val (.long q2), .second, .val (.int p3), .val (.int p0), .val (.int p1), .unset, .unset, .unset, .unset, .unset] [(.int p3)])) _
      refine XS.iconst X0.here hx rfl (hb hby at_58) ?_
      show Steps p.tables e below (s₁.setTop (mkF m 59 #[.val (.int p0), .val (.int p1), .val (.long q2), .second, .val (.int p3), .val (.int p0), .val (.int p1), .unset, .unset, .unset, .unset, .unset] [(.int (2 : Int32)), (.int p3)])) _
      refine XS.iand X0.here hx rfl (hb hby at_59) rfl ?_
      exact k)
    have pre56 := fun (t : State) (k : Steps p.tables e below (s₁.setTop (mkF m 84 #[.val (.int p0), .val (.int p1), .val (.long q2), .second, .val (.int p3), .val (.int p0), .val (.int p1), .val (.long (j0_1 q2 p3)), .second, .unset, .unset, .unset] [])) t) => pre55 t (by
      by_cases hc57 : (p3 &&& (2 : Int32)) = (0 : Int32)
      · skip
        show Steps p.tables e below (s₁.setTop (mkF m 60 #[.val (.int p0), .val (.int p1), .val (.long q2), .second, .val (.int p3), .val (.int p0), .val (.int p1), .unset, .unset, .unset, .unset, .unset] [(.int (p3 &&& (2 : Int32)))])) _
        refine XS.ifYes X0.here hx rfl (pc0 := 60) (pc' := 69) rfl (hb hby at_60) rfl ((if0 _ _).trans (teq hc57).1) (by decide) (by decide) ?_
        show Steps p.tables e below (s₁.setTop (mkF m 69 #[.val (.int p0), .val (.int p1), .val (.long q2), .second, .val (.int p3), .val (.int p0), .val (.int p1), .unset, .unset, .unset, .unset, .unset] [])) _
        refine X0.ldc2Long hx hown (mvT hZ (hw _ (List.mem_of_getElem? (i := 2) rfl))) (g := (mkF m 69 #[.val (.int p0), .val (.int p1), .val (.long q2), .second, .val (.int p3), .val (.int p0), .val (.int p1), .unset, .unset, .unset, .unset, .unset] [])) rfl (hb hby at_69) _ ?_
        show Steps p.tables e below (s₁.setTop (mkF m 72 #[.val (.int p0), .val (.int p1), .val (.long q2), .second, .val (.int p3), .val (.int p0), .val (.int p1), .unset, .unset, .unset, .unset, .unset] [(.long (1048576 : Int64))])) _
        refine XS.lloadN X0.here hx rfl (hb hby at_72) rfl ?_
        show Steps p.tables e below (s₁.setTop (mkF m 73 #[.val (.int p0), .val (.int p1), .val (.long q2), .second, .val (.int p3), .val (.int p0), .val (.int p1), .unset, .unset, .unset, .unset, .unset] [(.long q2), (.long (1048576 : Int64))])) _
        refine X0.ldc2Long hx hown (mvT hZ (hw _ (List.mem_of_getElem? (i := 3) rfl))) (g := (mkF m 73 #[.val (.int p0), .val (.int p1), .val (.long q2), .second, .val (.int p3), .val (.int p0), .val (.int p1), .unset, .unset, .unset, .unset, .unset] [(.long q2), (.long (1048576 : Int64))])) rfl (hb hby at_73) _ ?_
        show Steps p.tables e below (s₁.setTop (mkF m 76 #[.val (.int p0), .val (.int p1), .val (.long q2), .second, .val (.int p3), .val (.int p0), .val (.int p1), .unset, .unset, .unset, .unset, .unset] [(.long (3 : Int64)), (.long q2), (.long (1048576 : Int64))])) _
        refine XS.land X0.here hx rfl (hb hby at_76) rfl ?_
        show Steps p.tables e below (s₁.setTop (mkF m 77 #[.val (.int p0), .val (.int p1), .val (.long q2), .second, .val (.int p3), .val (.int p0), .val (.int p1), .unset, .unset, .unset, .unset, .unset] [(.long (q2 &&& (3 : Int64))), (.long (1048576 : Int64))])) _
        refine X0.ldc2Long hx hown (mvT hZ (hw _ (List.mem_of_getElem? (i := 4) rfl))) (g := (mkF m 77 #[.val (.int p0), .val (.int p1), .val (.long q2), .second, .val (.int p3), .val (.int p0), .val (.int p1), .unset, .unset, .unset, .unset, .unset] [(.long (q2 &&& (3 : Int64))), (.long (1048576 : Int64))])) rfl (hb hby at_77) _ ?_
        show Steps p.tables e below (s₁.setTop (mkF m 80 #[.val (.int p0), .val (.int p1), .val (.long q2), .second, .val (.int p3), .val (.int p0), .val (.int p1), .unset, .unset, .unset, .unset, .unset] [(.long (2 : Int64)), (.long (q2 &&& (3 : Int64))), (.long (1048576 : Int64))])) _
        refine XS.lsub X0.here hx rfl (hb hby at_80) rfl ?_
        show Steps p.tables e below (s₁.setTop (mkF m 81 #[.val (.int p0), .val (.int p1), .val (.long q2), .second, .val (.int p3), .val (.int p0), .val (.int p1), .unset, .unset, .unset, .unset, .unset] [(.long ((q2 &&& (3 : Int64)) - (2 : Int64))), (.long (1048576 : Int64))])) _
        refine XS.ladd X0.here hx rfl (hb hby at_81) rfl ?_
        show Steps p.tables e below (s₁.setTop (mkF m 82 #[.val (.int p0), .val (.int p1), .val (.long q2), .second, .val (.int p3), .val (.int p0), .val (.int p1), .unset, .unset, .unset, .unset, .unset] [(.long ((1048576 : Int64) + ((q2 &&& (3 : Int64)) - (2 : Int64))))])) _
        refine XS.lstore X0.here hx rfl (hb hby at_82) rfl (l' := #[.val (.int p0), .val (.int p1), .val (.long q2), .second, .val (.int p3), .val (.int p0), .val (.int p1), .val (.long ((1048576 : Int64) + ((q2 &&& (3 : Int64)) - (2 : Int64)))), .second, .unset, .unset, .unset]) rfl ?_
        have hj58 : (j0_1 q2 p3) = ((1048576 : Int64) + ((q2 &&& (3 : Int64)) - (2 : Int64))) := by unfold j0_1; first | (rw [if_pos hc57]) | (simp only [if_pos hc57])
        rw [hj58] at k
        exact k
      · skip
        show Steps p.tables e below (s₁.setTop (mkF m 60 #[.val (.int p0), .val (.int p1), .val (.long q2), .second, .val (.int p3), .val (.int p0), .val (.int p1), .unset, .unset, .unset, .unset, .unset] [(.int (p3 &&& (2 : Int32)))])) _
        refine XS.ifNo X0.here hx rfl (hb hby at_60) rfl ((if0 _ _).trans (feq hc57).1) ?_
        show Steps p.tables e below (s₁.setTop (mkF m 63 #[.val (.int p0), .val (.int p1), .val (.long q2), .second, .val (.int p3), .val (.int p0), .val (.int p1), .unset, .unset, .unset, .unset, .unset] [])) _
        refine XS.lloadN X0.here hx rfl (hb hby at_63) rfl ?_
        show Steps p.tables e below (s₁.setTop (mkF m 64 #[.val (.int p0), .val (.int p1), .val (.long q2), .second, .val (.int p3), .val (.int p0), .val (.int p1), .unset, .unset, .unset, .unset, .unset] [(.long q2)])) _
        refine XS.lstore X0.here hx rfl (hb hby at_64) rfl (l' := #[.val (.int p0), .val (.int p1), .val (.long q2), .second, .val (.int p3), .val (.int p0), .val (.int p1), .val (.long q2), .second, .unset, .unset, .unset]) rfl ?_
        show Steps p.tables e below (s₁.setTop (mkF m 66 #[.val (.int p0), .val (.int p1), .val (.long q2), .second, .val (.int p3), .val (.int p0), .val (.int p1), .val (.long q2), .second, .unset, .unset, .unset] [])) _
        refine XS.goto X0.here hx rfl (pc0 := 66) (pc' := 84) rfl (hb hby at_66) (by decide) (by decide) ?_
        have hj59 : (j0_1 q2 p3) = q2 := by unfold j0_1; first | (rw [if_neg hc57]) | (simp only [if_neg hc57])
        rw [hj59] at k
        exact k)
    have pre60 := fun (t : State) (k : Steps p.tables e below (s₁.setTop (mkF m 93 #[.val (.int p0), .val (.int p1), .val (.long q2), .second, .val (.int p3), .val (.int p0), .val (.int p1), .val (.long (j0_1 q2 p3)), .second, .unset, .unset, .unset] [(.int (lcmpW ((p1.toInt64) - (p0.toInt64)) (0 : Int64)))])) t) => pre56 t (by
      show Steps p.tables e below (s₁.setTop (mkF m 84 #[.val (.int p0), .val (.int p1), .val (.long q2), .second, .val (.int p3), .val (.int p0), .val (.int p1), .val (.long (j0_1 q2 p3)), .second, .unset, .unset, .unset] [])) _
      refine XS.iload X0.here hx rfl (hb hby at_84) rfl ?_
      show Steps p.tables e below (s₁.setTop (mkF m 86 #[.val (.int p0), .val (.int p1), .val (.long q2), .second, .val (.int p3), .val (.int p0), .val (.int p1), .val (.long (j0_1 q2 p3)), .second, .unset, .unset, .unset] [(.int p1)])) _
      refine XS.i2l X0.here hx rfl (hb hby at_86) rfl ?_
      show Steps p.tables e below (s₁.setTop (mkF m 87 #[.val (.int p0), .val (.int p1), .val (.long q2), .second, .val (.int p3), .val (.int p0), .val (.int p1), .val (.long (j0_1 q2 p3)), .second, .unset, .unset, .unset] [(.long (p1.toInt64))])) _
      refine XS.iload X0.here hx rfl (hb hby at_87) rfl ?_
      show Steps p.tables e below (s₁.setTop (mkF m 89 #[.val (.int p0), .val (.int p1), .val (.long q2), .second, .val (.int p3), .val (.int p0), .val (.int p1), .val (.long (j0_1 q2 p3)), .second, .unset, .unset, .unset] [(.int p0), (.long (p1.toInt64))])) _
      refine XS.i2l X0.here hx rfl (hb hby at_89) rfl ?_
      show Steps p.tables e below (s₁.setTop (mkF m 90 #[.val (.int p0), .val (.int p1), .val (.long q2), .second, .val (.int p3), .val (.int p0), .val (.int p1), .val (.long (j0_1 q2 p3)), .second, .unset, .unset, .unset] [(.long (p0.toInt64)), (.long (p1.toInt64))])) _
      refine XS.lsub X0.here hx rfl (hb hby at_90) rfl ?_
      show Steps p.tables e below (s₁.setTop (mkF m 91 #[.val (.int p0), .val (.int p1), .val (.long q2), .second, .val (.int p3), .val (.int p0), .val (.int p1), .val (.long (j0_1 q2 p3)), .second, .unset, .unset, .unset] [(.long ((p1.toInt64) - (p0.toInt64)))])) _
      refine XS.lconst X0.here hx rfl (hb hby at_91) ?_
      show Steps p.tables e below (s₁.setTop (mkF m 92 #[.val (.int p0), .val (.int p1), .val (.long q2), .second, .val (.int p3), .val (.int p0), .val (.int p1), .val (.long (j0_1 q2 p3)), .second, .unset, .unset, .unset] [(.long (0 : Int64)), (.long ((p1.toInt64) - (p0.toInt64)))])) _
      refine XS.lcmp X0.here hx rfl (hb hby at_92) rfl ?_
      exact k)
    have pre61 := fun (t : State) (k : Steps p.tables e below (s₁.setTop (mkF m 101 #[.val (.int p0), .val (.int p1), .val (.long q2), .second, .val (.int p3), .val (.int p0), .val (.int p1), .val (.long (j0_1 q2 p3)), .second, .unset, .unset, .unset] [(.int (j0_6 p0 p1))])) t) => pre60 t (by
      by_cases hc62 : ((p1.toInt64) - (p0.toInt64)) < (0 : Int64)
      · skip
        show Steps p.tables e below (s₁.setTop (mkF m 93 #[.val (.int p0), .val (.int p1), .val (.long q2), .second, .val (.int p3), .val (.int p0), .val (.int p1), .val (.long (j0_1 q2 p3)), .second, .unset, .unset, .unset] [(.int (lcmpW ((p1.toInt64) - (p0.toInt64)) (0 : Int64)))])) _
        refine XS.ifYes X0.here hx rfl (pc0 := 93) (pc' := 100) rfl (hb hby at_93) rfl ((if0 _ _).trans (tlt ((own_lt ((p1.toInt64) - (p0.toInt64)) (0 : Int64)).mpr hc62)).1) (by decide) (by decide) ?_
        show Steps p.tables e below (s₁.setTop (mkF m 100 #[.val (.int p0), .val (.int p1), .val (.long q2), .second, .val (.int p3), .val (.int p0), .val (.int p1), .val (.long (j0_1 q2 p3)), .second, .unset, .unset, .unset] [])) _
        refine XS.iconst X0.here hx rfl (hb hby at_100) ?_
        have hj63 : (j0_6 p0 p1) = (0 : Int32) := by unfold j0_6; first | (rw [if_pos hc62]) | (simp only [if_pos hc62])
        rw [hj63] at k
        exact k
      · skip
        show Steps p.tables e below (s₁.setTop (mkF m 93 #[.val (.int p0), .val (.int p1), .val (.long q2), .second, .val (.int p3), .val (.int p0), .val (.int p1), .val (.long (j0_1 q2 p3)), .second, .unset, .unset, .unset] [(.int (lcmpW ((p1.toInt64) - (p0.toInt64)) (0 : Int64)))])) _
        refine XS.ifNo X0.here hx rfl (hb hby at_93) rfl ((if0 _ _).trans (flt (mt (own_lt ((p1.toInt64) - (p0.toInt64)) (0 : Int64)).mp hc62)).1) ?_
        show Steps p.tables e below (s₁.setTop (mkF m 96 #[.val (.int p0), .val (.int p1), .val (.long q2), .second, .val (.int p3), .val (.int p0), .val (.int p1), .val (.long (j0_1 q2 p3)), .second, .unset, .unset, .unset] [])) _
        refine XS.iconst X0.here hx rfl (hb hby at_96) ?_
        show Steps p.tables e below (s₁.setTop (mkF m 97 #[.val (.int p0), .val (.int p1), .val (.long q2), .second, .val (.int p3), .val (.int p0), .val (.int p1), .val (.long (j0_1 q2 p3)), .second, .unset, .unset, .unset] [(.int (1 : Int32))])) _
        refine XS.goto X0.here hx rfl (pc0 := 97) (pc' := 101) rfl (hb hby at_97) (by decide) (by decide) ?_
        have hj64 : (j0_6 p0 p1) = (1 : Int32) := by unfold j0_6; first | (rw [if_neg hc62]) | (simp only [if_neg hc62])
        rw [hj64] at k
        exact k)
    have pre65 := fun (t : State) (k : Steps p.tables e below (s₁.setTop (mkF m 110 #[.val (.int p0), .val (.int p1), .val (.long q2), .second, .val (.int p3), .val (.int p0), .val (.int p1), .val (.long (j0_1 q2 p3)), .second, .val (.int (j0_6 p0 p1)), .unset, .unset] [(.int (lcmpW ((j0_1 q2 p3) >>> ((20 : Int32) &&& 0x3f).toInt64) (1 : Int64)))])) t) => pre61 t (by
      show Steps p.tables e below (s₁.setTop (mkF m 101 #[.val (.int p0), .val (.int p1), .val (.long q2), .second, .val (.int p3), .val (.int p0), .val (.int p1), .val (.long (j0_1 q2 p3)), .second, .unset, .unset, .unset] [(.int (j0_6 p0 p1))])) _
      refine XS.istore X0.here hx rfl (hb hby at_101) rfl (l' := #[.val (.int p0), .val (.int p1), .val (.long q2), .second, .val (.int p3), .val (.int p0), .val (.int p1), .val (.long (j0_1 q2 p3)), .second, .val (.int (j0_6 p0 p1)), .unset, .unset]) rfl ?_
      show Steps p.tables e below (s₁.setTop (mkF m 103 #[.val (.int p0), .val (.int p1), .val (.long q2), .second, .val (.int p3), .val (.int p0), .val (.int p1), .val (.long (j0_1 q2 p3)), .second, .val (.int (j0_6 p0 p1)), .unset, .unset] [])) _
      refine XS.lload X0.here hx rfl (hb hby at_103) rfl ?_
      show Steps p.tables e below (s₁.setTop (mkF m 105 #[.val (.int p0), .val (.int p1), .val (.long q2), .second, .val (.int p3), .val (.int p0), .val (.int p1), .val (.long (j0_1 q2 p3)), .second, .val (.int (j0_6 p0 p1)), .unset, .unset] [(.long (j0_1 q2 p3))])) _
      refine XS.bipush X0.here hx rfl (hb hby at_105) ?_
      show Steps p.tables e below (s₁.setTop (mkF m 107 #[.val (.int p0), .val (.int p1), .val (.long q2), .second, .val (.int p3), .val (.int p0), .val (.int p1), .val (.long (j0_1 q2 p3)), .second, .val (.int (j0_6 p0 p1)), .unset, .unset] [(.int (20 : Int32)), (.long (j0_1 q2 p3))])) _
      refine XS.lshr X0.here hx rfl (hb hby at_107) rfl ?_
      show Steps p.tables e below (s₁.setTop (mkF m 108 #[.val (.int p0), .val (.int p1), .val (.long q2), .second, .val (.int p3), .val (.int p0), .val (.int p1), .val (.long (j0_1 q2 p3)), .second, .val (.int (j0_6 p0 p1)), .unset, .unset] [(.long ((j0_1 q2 p3) >>> ((20 : Int32) &&& 0x3f).toInt64))])) _
      refine XS.lconst X0.here hx rfl (hb hby at_108) ?_
      show Steps p.tables e below (s₁.setTop (mkF m 109 #[.val (.int p0), .val (.int p1), .val (.long q2), .second, .val (.int p3), .val (.int p0), .val (.int p1), .val (.long (j0_1 q2 p3)), .second, .val (.int (j0_6 p0 p1)), .unset, .unset] [(.long (1 : Int64)), (.long ((j0_1 q2 p3) >>> ((20 : Int32) &&& 0x3f).toInt64))])) _
      refine XS.lcmp X0.here hx rfl (hb hby at_109) rfl ?_
      exact k)
    have pre66 := fun (t : State) (k : Steps p.tables e below (s₁.setTop (mkF m 118 #[.val (.int p0), .val (.int p1), .val (.long q2), .second, .val (.int p3), .val (.int p0), .val (.int p1), .val (.long (j0_1 q2 p3)), .second, .val (.int (j0_6 p0 p1)), .unset, .unset] [(.int (j0_3 q2 p3))])) t) => pre65 t (by
      by_cases hc67 : ((j0_1 q2 p3) >>> ((20 : Int32) &&& 0x3f).toInt64) < (1 : Int64)
      · skip
        show Steps p.tables e below (s₁.setTop (mkF m 110 #[.val (.int p0), .val (.int p1), .val (.long q2), .second, .val (.int p3), .val (.int p0), .val (.int p1), .val (.long (j0_1 q2 p3)), .second, .val (.int (j0_6 p0 p1)), .unset, .unset] [(.int (lcmpW ((j0_1 q2 p3) >>> ((20 : Int32) &&& 0x3f).toInt64) (1 : Int64)))])) _
        refine XS.ifYes X0.here hx rfl (pc0 := 110) (pc' := 117) rfl (hb hby at_110) rfl ((if0 _ _).trans (tlt ((own_lt ((j0_1 q2 p3) >>> ((20 : Int32) &&& 0x3f).toInt64) (1 : Int64)).mpr hc67)).1) (by decide) (by decide) ?_
        show Steps p.tables e below (s₁.setTop (mkF m 117 #[.val (.int p0), .val (.int p1), .val (.long q2), .second, .val (.int p3), .val (.int p0), .val (.int p1), .val (.long (j0_1 q2 p3)), .second, .val (.int (j0_6 p0 p1)), .unset, .unset] [])) _
        refine XS.iconst X0.here hx rfl (hb hby at_117) ?_
        have hj68 : (j0_3 q2 p3) = (0 : Int32) := by unfold j0_3; first | (rw [if_pos hc67]) | (simp only [if_pos hc67])
        rw [hj68] at k
        exact k
      · skip
        show Steps p.tables e below (s₁.setTop (mkF m 110 #[.val (.int p0), .val (.int p1), .val (.long q2), .second, .val (.int p3), .val (.int p0), .val (.int p1), .val (.long (j0_1 q2 p3)), .second, .val (.int (j0_6 p0 p1)), .unset, .unset] [(.int (lcmpW ((j0_1 q2 p3) >>> ((20 : Int32) &&& 0x3f).toInt64) (1 : Int64)))])) _
        refine XS.ifNo X0.here hx rfl (hb hby at_110) rfl ((if0 _ _).trans (flt (mt (own_lt ((j0_1 q2 p3) >>> ((20 : Int32) &&& 0x3f).toInt64) (1 : Int64)).mp hc67)).1) ?_
        show Steps p.tables e below (s₁.setTop (mkF m 113 #[.val (.int p0), .val (.int p1), .val (.long q2), .second, .val (.int p3), .val (.int p0), .val (.int p1), .val (.long (j0_1 q2 p3)), .second, .val (.int (j0_6 p0 p1)), .unset, .unset] [])) _
        refine XS.iconst X0.here hx rfl (hb hby at_113) ?_
        show Steps p.tables e below (s₁.setTop (mkF m 114 #[.val (.int p0), .val (.int p1), .val (.long q2), .second, .val (.int p3), .val (.int p0), .val (.int p1), .val (.long (j0_1 q2 p3)), .second, .val (.int (j0_6 p0 p1)), .unset, .unset] [(.int (1 : Int32))])) _
        refine XS.goto X0.here hx rfl (pc0 := 114) (pc' := 118) rfl (hb hby at_114) (by decide) (by decide) ?_
        have hj69 : (j0_3 q2 p3) = (1 : Int32) := by unfold j0_3; first | (rw [if_neg hc67]) | (simp only [if_neg hc67])
        rw [hj69] at k
        exact k)
    have pre72 := fun (t : State) (k : Steps p.tables e below (s₁.setTop (mkF m 122 #[.val (.int p0), .val (.int p1), .val (.long q2), .second, .val (.int p3), .val (.int p0), .val (.int p1), .val (.long (j0_1 q2 p3)), .second, .val (.int (j0_6 p0 p1)), .val (.int (j0_3 q2 p3)), .unset] [(.int (j0_6 p0 p1))])) t) => pre66 t (by
      show Steps p.tables e below (s₁.setTop (mkF m 118 #[.val (.int p0), .val (.int p1), .val (.long q2), .second, .val (.int p3), .val (.int p0), .val (.int p1), .val (.long (j0_1 q2 p3)), .second, .val (.int (j0_6 p0 p1)), .unset, .unset] [(.int (j0_3 q2 p3))])) _
      refine XS.istore X0.here hx rfl (hb hby at_118) rfl (l' := #[.val (.int p0), .val (.int p1), .val (.long q2), .second, .val (.int p3), .val (.int p0), .val (.int p1), .val (.long (j0_1 q2 p3)), .second, .val (.int (j0_6 p0 p1)), .val (.int (j0_3 q2 p3)), .unset]) rfl ?_
      show Steps p.tables e below (s₁.setTop (mkF m 120 #[.val (.int p0), .val (.int p1), .val (.long q2), .second, .val (.int p3), .val (.int p0), .val (.int p1), .val (.long (j0_1 q2 p3)), .second, .val (.int (j0_6 p0 p1)), .val (.int (j0_3 q2 p3)), .unset] [])) _
      refine XS.iload X0.here hx rfl (hb hby at_120) rfl ?_
      exact k)
    have pre73 := fun (t : State) (k : Steps p.tables e below (s₁.setTop (mkF m 135 #[.val (.int p0), .val (.int p1), .val (.long q2), .second, .val (.int p3), .val (.int p0), .val (.int p1), .val (.long (j0_1 q2 p3)), .second, .val (.int (j0_6 p0 p1)), .val (.int (j0_3 q2 p3)), .unset] [(.int (j0_7 p0 p1 q2 p3))])) t) => pre72 t (by
      by_cases hc74 : (j0_6 p0 p1) = (0 : Int32)
      · skip
        show Steps p.tables e below (s₁.setTop (mkF m 122 #[.val (.int p0), .val (.int p1), .val (.long q2), .second, .val (.int p3), .val (.int p0), .val (.int p1), .val (.long (j0_1 q2 p3)), .second, .val (.int (j0_6 p0 p1)), .val (.int (j0_3 q2 p3)), .unset] [(.int (j0_6 p0 p1))])) _
        refine XS.ifNo X0.here hx rfl (hb hby at_122) rfl ((if0 _ _).trans (teq hc74).2) ?_
        show Steps p.tables e below (s₁.setTop (mkF m 125 #[.val (.int p0), .val (.int p1), .val (.long q2), .second, .val (.int p3), .val (.int p0), .val (.int p1), .val (.long (j0_1 q2 p3)), .second, .val (.int (j0_6 p0 p1)), .val (.int (j0_3 q2 p3)), .unset] [])) _
        refine XS.iload X0.here hx rfl (hb hby at_125) rfl ?_
        by_cases hc75 : (j0_3 q2 p3) = (0 : Int32)
        · skip
          show Steps p.tables e below (s₁.setTop (mkF m 127 #[.val (.int p0), .val (.int p1), .val (.long q2), .second, .val (.int p3), .val (.int p0), .val (.int p1), .val (.long (j0_1 q2 p3)), .second, .val (.int (j0_6 p0 p1)), .val (.int (j0_3 q2 p3)), .unset] [(.int (j0_3 q2 p3))])) _
          refine XS.ifYes X0.here hx rfl (pc0 := 127) (pc' := 134) rfl (hb hby at_127) rfl ((if0 _ _).trans (teq hc75).1) (by decide) (by decide) ?_
          show Steps p.tables e below (s₁.setTop (mkF m 134 #[.val (.int p0), .val (.int p1), .val (.long q2), .second, .val (.int p3), .val (.int p0), .val (.int p1), .val (.long (j0_1 q2 p3)), .second, .val (.int (j0_6 p0 p1)), .val (.int (j0_3 q2 p3)), .unset] [])) _
          refine XS.iconst X0.here hx rfl (hb hby at_134) ?_
          have hj76 : (j0_7 p0 p1 q2 p3) = (0 : Int32) := by unfold j0_7; first | (rw [if_pos hc74, if_pos hc75]) | (simp only [if_pos hc74, if_pos hc75])
          rw [hj76] at k
          exact k
        · skip
          show Steps p.tables e below (s₁.setTop (mkF m 127 #[.val (.int p0), .val (.int p1), .val (.long q2), .second, .val (.int p3), .val (.int p0), .val (.int p1), .val (.long (j0_1 q2 p3)), .second, .val (.int (j0_6 p0 p1)), .val (.int (j0_3 q2 p3)), .unset] [(.int (j0_3 q2 p3))])) _
          refine XS.ifNo X0.here hx rfl (hb hby at_127) rfl ((if0 _ _).trans (feq hc75).1) ?_
          show Steps p.tables e below (s₁.setTop (mkF m 130 #[.val (.int p0), .val (.int p1), .val (.long q2), .second, .val (.int p3), .val (.int p0), .val (.int p1), .val (.long (j0_1 q2 p3)), .second, .val (.int (j0_6 p0 p1)), .val (.int (j0_3 q2 p3)), .unset] [])) _
          refine XS.iconst X0.here hx rfl (hb hby at_130) ?_
          show Steps p.tables e below (s₁.setTop (mkF m 131 #[.val (.int p0), .val (.int p1), .val (.long q2), .second, .val (.int p3), .val (.int p0), .val (.int p1), .val (.long (j0_1 q2 p3)), .second, .val (.int (j0_6 p0 p1)), .val (.int (j0_3 q2 p3)), .unset] [(.int (1 : Int32))])) _
          refine XS.goto X0.here hx rfl (pc0 := 131) (pc' := 135) rfl (hb hby at_131) (by decide) (by decide) ?_
          have hj77 : (j0_7 p0 p1 q2 p3) = (1 : Int32) := by unfold j0_7; first | (rw [if_pos hc74, if_neg hc75]) | (simp only [if_pos hc74, if_neg hc75])
          rw [hj77] at k
          exact k
      · skip
        show Steps p.tables e below (s₁.setTop (mkF m 122 #[.val (.int p0), .val (.int p1), .val (.long q2), .second, .val (.int p3), .val (.int p0), .val (.int p1), .val (.long (j0_1 q2 p3)), .second, .val (.int (j0_6 p0 p1)), .val (.int (j0_3 q2 p3)), .unset] [(.int (j0_6 p0 p1))])) _
        refine XS.ifYes X0.here hx rfl (pc0 := 122) (pc' := 130) rfl (hb hby at_122) rfl ((if0 _ _).trans (feq hc74).2) (by decide) (by decide) ?_
        show Steps p.tables e below (s₁.setTop (mkF m 130 #[.val (.int p0), .val (.int p1), .val (.long q2), .second, .val (.int p3), .val (.int p0), .val (.int p1), .val (.long (j0_1 q2 p3)), .second, .val (.int (j0_6 p0 p1)), .val (.int (j0_3 q2 p3)), .unset] [])) _
        refine XS.iconst X0.here hx rfl (hb hby at_130) ?_
        show Steps p.tables e below (s₁.setTop (mkF m 131 #[.val (.int p0), .val (.int p1), .val (.long q2), .second, .val (.int p3), .val (.int p0), .val (.int p1), .val (.long (j0_1 q2 p3)), .second, .val (.int (j0_6 p0 p1)), .val (.int (j0_3 q2 p3)), .unset] [(.int (1 : Int32))])) _
        refine XS.goto X0.here hx rfl (pc0 := 131) (pc' := 135) rfl (hb hby at_131) (by decide) (by decide) ?_
        have hj78 : (j0_7 p0 p1 q2 p3) = (1 : Int32) := by unfold j0_7; first | (rw [if_neg hc74]) | (simp only [if_neg hc74])
        rw [hj78] at k
        exact k)
    obtain ⟨_, _, ⟨T79, L79, k79, n79⟩, -, X79, ⟨Lc79, hQ79, l79, y79, z79⟩, st79⟩ := Jvm.LawKit.callS X0 hx (y := (⟨"com/example/run_state_store/runstatestore/Pages", "cutShort", "(IIJ)Z"⟩ : MethodName)) hown (mvT hZ (hw _ (List.mem_of_getElem? (i := 5) rfl))) (mvT hZ (hw _ (List.mem_of_getElem? (i := 6) rfl))) (mvT hZ (hw _ (List.mem_of_getElem? (i := 7) rfl))) (mvT hZ (hw _ (List.mem_of_getElem? (i := 8) rfl))) (by decide) (backOf (W := 0) (rm1 l Z aw hw [] p0 p1 ((j0_1 q2 p3)) h0 n0 Z0 ) hZ (hw _ (List.mem_of_getElem? (i := 8) rfl)) (hw _ (List.mem_of_getElem? (i := 7) rfl)) (by decide) (by decide)) (g := (mkF m 143 #[.val (.int p0), .val (.int p1), .val (.long q2), .second, .val (.int p3), .val (.int p0), .val (.int p1), .val (.long (j0_1 q2 p3)), .second, .val (.int (j0_6 p0 p1)), .val (.int (j0_3 q2 p3)), .val (.int (j0_7 p0 p1 q2 p3))] [(.long (j0_1 q2 p3)), (.int p1), (.int p0)])) rfl (by rw [hml]; rfl) (argsL := [(.int p0), (.int p1), (.long (j0_1 q2 p3))]) (rest := []) (lenOf pd_1 rfl) rfl (by show 2 * 0 + _ ≤ _; exact Nat.le_of_eq rfl) (hb hby at_143) (fun _ _ => ⟨rfl, e0, (by decide : 0 + 0 ≤ _), (by decide : 0 + 0 ≤ _)⟩)
    dsimp only [Pt.U, Pt.locs, Pt.cells, Pt.slots] at X79 l79 y79 z79 st79 hQ79
    subst l79 y79 z79
    obtain ⟨rfl, N79q, e79⟩ := hQ79
    have N79 := Fr.app N0 N79q
    have pre80 := fun (t : State) (k : Steps p.tables e below (T79.setTop (mkF m 148 #[.val (.int p0), .val (.int p1), .val (.long q2), .second, .val (.int p3), .val (.int p0), .val (.int p1), .val (.long (j0_1 q2 p3)), .second, .val (.int (j0_6 p0 p1)), .val (.int (j0_3 q2 p3)), .val (.int (j0_7 p0 p1 q2 p3))] [(.int (j0_7 p0 p1 q2 p3)), (.int (nar .boolean (j1_0 p0 p1 (j0_1 q2 p3))))])) t) => pre73 t (by
      show Steps p.tables e below (s₁.setTop (mkF m 135 #[.val (.int p0), .val (.int p1), .val (.long q2), .second, .val (.int p3), .val (.int p0), .val (.int p1), .val (.long (j0_1 q2 p3)), .second, .val (.int (j0_6 p0 p1)), .val (.int (j0_3 q2 p3)), .unset] [(.int (j0_7 p0 p1 q2 p3))])) _
      refine XS.istore X0.here hx rfl (hb hby at_135) rfl (l' := #[.val (.int p0), .val (.int p1), .val (.long q2), .second, .val (.int p3), .val (.int p0), .val (.int p1), .val (.long (j0_1 q2 p3)), .second, .val (.int (j0_6 p0 p1)), .val (.int (j0_3 q2 p3)), .val (.int (j0_7 p0 p1 q2 p3))]) rfl ?_
      show Steps p.tables e below (s₁.setTop (mkF m 137 #[.val (.int p0), .val (.int p1), .val (.long q2), .second, .val (.int p3), .val (.int p0), .val (.int p1), .val (.long (j0_1 q2 p3)), .second, .val (.int (j0_6 p0 p1)), .val (.int (j0_3 q2 p3)), .val (.int (j0_7 p0 p1 q2 p3))] [])) _
      refine XS.iload X0.here hx rfl (hb hby at_137) rfl ?_
      show Steps p.tables e below (s₁.setTop (mkF m 139 #[.val (.int p0), .val (.int p1), .val (.long q2), .second, .val (.int p3), .val (.int p0), .val (.int p1), .val (.long (j0_1 q2 p3)), .second, .val (.int (j0_6 p0 p1)), .val (.int (j0_3 q2 p3)), .val (.int (j0_7 p0 p1 q2 p3))] [(.int p0)])) _
      refine XS.iload X0.here hx rfl (hb hby at_139) rfl ?_
      show Steps p.tables e below (s₁.setTop (mkF m 141 #[.val (.int p0), .val (.int p1), .val (.long q2), .second, .val (.int p3), .val (.int p0), .val (.int p1), .val (.long (j0_1 q2 p3)), .second, .val (.int (j0_6 p0 p1)), .val (.int (j0_3 q2 p3)), .val (.int (j0_7 p0 p1 q2 p3))] [(.int p1), (.int p0)])) _
      refine XS.lload X0.here hx rfl (hb hby at_141) rfl ?_
      show Steps p.tables e below (s₁.setTop (mkF m 143 #[.val (.int p0), .val (.int p1), .val (.long q2), .second, .val (.int p3), .val (.int p0), .val (.int p1), .val (.long (j0_1 q2 p3)), .second, .val (.int (j0_6 p0 p1)), .val (.int (j0_3 q2 p3)), .val (.int (j0_7 p0 p1 q2 p3))] [(.long (j0_1 q2 p3)), (.int p1), (.int p0)])) _
      refine st79 _ ?_
      show Steps p.tables e below (T79.setTop (mkF m 146 #[.val (.int p0), .val (.int p1), .val (.long q2), .second, .val (.int p3), .val (.int p0), .val (.int p1), .val (.long (j0_1 q2 p3)), .second, .val (.int (j0_6 p0 p1)), .val (.int (j0_3 q2 p3)), .val (.int (j0_7 p0 p1 q2 p3))] [(.int (nar .boolean (j1_0 p0 p1 (j0_1 q2 p3))))])) _
      refine XS.iload X79.here hx rfl (hb hby at_146) rfl ?_
      exact k)
    have pre81 := fun (t : State) (k : Steps p.tables e below (T79.setTop (mkF m 156 #[.val (.int p0), .val (.int p1), .val (.long q2), .second, .val (.int p3), .val (.int p0), .val (.int p1), .val (.long (j0_1 q2 p3)), .second, .val (.int (j0_6 p0 p1)), .val (.int (j0_3 q2 p3)), .val (.int (j0_7 p0 p1 q2 p3))] [(.int (j0_8 p0 p1 q2 p3))])) t) => pre80 t (by
      by_cases hc82 : (nar .boolean (j1_0 p0 p1 (j0_1 q2 p3))) = (j0_7 p0 p1 q2 p3)
      · skip
        show Steps p.tables e below (T79.setTop (mkF m 148 #[.val (.int p0), .val (.int p1), .val (.long q2), .second, .val (.int p3), .val (.int p0), .val (.int p1), .val (.long (j0_1 q2 p3)), .second, .val (.int (j0_6 p0 p1)), .val (.int (j0_3 q2 p3)), .val (.int (j0_7 p0 p1 q2 p3))] [(.int (j0_7 p0 p1 q2 p3)), (.int (nar .boolean (j1_0 p0 p1 (j0_1 q2 p3))))])) _
        refine XS.icmpNo X79.here hx rfl (hb hby at_148) rfl (teq hc82).2 ?_
        show Steps p.tables e below (T79.setTop (mkF m 151 #[.val (.int p0), .val (.int p1), .val (.long q2), .second, .val (.int p3), .val (.int p0), .val (.int p1), .val (.long (j0_1 q2 p3)), .second, .val (.int (j0_6 p0 p1)), .val (.int (j0_3 q2 p3)), .val (.int (j0_7 p0 p1 q2 p3))] [])) _
        refine XS.iconst X79.here hx rfl (hb hby at_151) ?_
        show Steps p.tables e below (T79.setTop (mkF m 152 #[.val (.int p0), .val (.int p1), .val (.long q2), .second, .val (.int p3), .val (.int p0), .val (.int p1), .val (.long (j0_1 q2 p3)), .second, .val (.int (j0_6 p0 p1)), .val (.int (j0_3 q2 p3)), .val (.int (j0_7 p0 p1 q2 p3))] [(.int (1 : Int32))])) _
        refine XS.goto X79.here hx rfl (pc0 := 152) (pc' := 156) rfl (hb hby at_152) (by decide) (by decide) ?_
        have hj83 : (j0_8 p0 p1 q2 p3) = (1 : Int32) := by unfold j0_8; first | (rw [if_pos hc82]) | (simp only [if_pos hc82])
        rw [hj83] at k
        exact k
      · skip
        show Steps p.tables e below (T79.setTop (mkF m 148 #[.val (.int p0), .val (.int p1), .val (.long q2), .second, .val (.int p3), .val (.int p0), .val (.int p1), .val (.long (j0_1 q2 p3)), .second, .val (.int (j0_6 p0 p1)), .val (.int (j0_3 q2 p3)), .val (.int (j0_7 p0 p1 q2 p3))] [(.int (j0_7 p0 p1 q2 p3)), (.int (nar .boolean (j1_0 p0 p1 (j0_1 q2 p3))))])) _
        refine XS.icmpYes X79.here hx rfl (pc0 := 148) (pc' := 155) rfl (hb hby at_148) rfl (feq hc82).2 (by decide) (by decide) ?_
        show Steps p.tables e below (T79.setTop (mkF m 155 #[.val (.int p0), .val (.int p1), .val (.long q2), .second, .val (.int p3), .val (.int p0), .val (.int p1), .val (.long (j0_1 q2 p3)), .second, .val (.int (j0_6 p0 p1)), .val (.int (j0_3 q2 p3)), .val (.int (j0_7 p0 p1 q2 p3))] [])) _
        refine XS.iconst X79.here hx rfl (hb hby at_155) ?_
        have hj84 : (j0_8 p0 p1 q2 p3) = (0 : Int32) := by unfold j0_8; first | (rw [if_neg hc82]) | (simp only [if_neg hc82])
        rw [hj84] at k
        exact k)
    obtain ⟨fs, hr, hrun, hended, hW, hsame⟩ := X79.leave (v := some (.int (nar .boolean (j0_8 p0 p1 q2 p3)))) (fun h => by rw [Bd.returns] at h; cases h)
    refine ⟨_, _, pre81 _ ?_, hrun, hended, _, _, rfl, ?_, ⟨_, rfl⟩, hW, hsame.mono (by decide) (by decide)⟩
    · skip
      show Steps p.tables e below (T79.setTop (mkF m 156 #[.val (.int p0), .val (.int p1), .val (.long q2), .second, .val (.int p3), .val (.int p0), .val (.int p1), .val (.long (j0_1 q2 p3)), .second, .val (.int (j0_6 p0 p1)), .val (.int (j0_3 q2 p3)), .val (.int (j0_7 p0 p1 q2 p3))] [(.int (j0_8 p0 p1 q2 p3))])) _
      exact retN X79 hx (t := .boolean) Bd.returns (by simp) (hb hby at_156) hr
    · show Q0 Z p0 p1 q2 p3 h0 n0 _ T79.heap _
      rw [e79]
      have hv : (nar .boolean (j0_8 p0 p1 q2 p3)) = (v0 p0 p1 q2 p3) := by unfold v0; first | (rw [if_neg hc14]) | (simp only [if_neg hc14])
      exact ⟨(by rw [← hv]), N79⟩
theorem own_core (a h : Int32) (b : Int64) (x y z : Int32) (hx : x = if (h.toInt64 - a.toInt64) < (0 : Int64) then (0 : Int32) else (1 : Int32)) (hy : y = if (b >>> ((20 : Int32) &&& 0x3f).toInt64) < (1 : Int64) then (0 : Int32) else (1 : Int32)) (hz : z = if x = (0 : Int32) then (if y = (0 : Int32) then (0 : Int32) else (1 : Int32)) else (1 : Int32)) : nar .boolean (j1_0 a h b) = z := by
  have ha := a.toInt_lt; have ha' := a.le_toInt; have hh := h.toInt_lt; have hh' := h.le_toInt
  have e1 : (h.toInt64 - a.toInt64).toInt = h.toInt - a.toInt := by
    rw [Jvm.Kit.i64_sub] <;> rw [Jvm.Kit.i64_of_i32, Jvm.Kit.i64_of_i32] <;> omega
  have e2 : (b >>> ((20 : Int32) &&& 0x3f).toInt64).toInt = b.toInt / 2 ^ 20 := Jvm.Kit.i64_shr b _ (by decide)
  have q : ¬ (1 : Int32) = 0 := by decide
  have n0 : nar .boolean 0 = 0 := rfl
  have n1 : nar .boolean 1 = 1 := rfl
  have z6 : (0 : Int64).toInt = 0 := rfl
  have o6 : (1 : Int64).toInt = 1 := rfl
  have m6 : (1048576 : Int64).toInt = 1048576 := rfl
  unfold j1_0
  simp only [Int64.lt_iff_toInt_lt, Int32.lt_iff_toInt_lt, e1, e2, z6, o6, m6] at *
  subst hx hy hz
  repeat' split
  all_goals first | rfl | (exfalso; simp only [q, n0, n1] at *; omega) | (exfalso; omega) | (exfalso; simp_all; done) | skip
theorem law_one (p0 p1 : Int32) (q2 : Int64) (p3 : Int32) : (v0 p0 p1 q2 p3) = 1 := by
  unfold v0 j0_5 j0_8
  rw [if_pos (own_core p0 (j0_0 p0 p1) (j0_1 q2 p3) (j0_2 p0 p1) (j0_3 q2 p3) (j0_4 p0 p1 q2 p3) rfl rfl rfl), if_pos (own_core p0 p1 (j0_1 q2 p3) (j0_6 p0 p1) (j0_3 q2 p3) (j0_7 p0 p1 q2 p3) rfl rfl rfl)]
  split <;> rfl
set_option maxRecDepth 65536 in
set_option maxHeartbeats 40000000 in
theorem comes_1 {Post : Tables → Env → Array Value → State → Outcome → State → Prop} (hpost : ∀ tb e args s v u, (limb_1_1.after args s (.returned v) u = true ∧ limb_1_2.after args s (.returned v) u = true ∧ True) → FrameEnd s (.returned v) u (Jvm.fieldLocs frame_1_writes args s ++ Jvm.arrayLocs frame_1_arrays args s ++ Jvm.staticLocs frame_1_statics s) 0 0 → Post tb e args s (.returned v) u) :
    ArmFor flags0 classFile x code maxLocals ret World_1 tables_1 room_1 Calls_1 rest_1 Pre_1 Post := by
  intro l hfl _ _ p e ha hc hk s m args below hf hA hF happ hP
  obtain ⟨hcalls, hrest, hpre⟩ := hP
  obtain ⟨-, -, -, hnamed, -, -, -, hat⟩ := (Spec.applies_iff hf).mp happ
  obtain ⟨hg, hn⟩ := and_e (Cond.before_iff.mp (show (Jvm.Cond.and given_1 narrow_1).before args s = true from hpre))
  obtain ⟨hcount, r0⟩ := and_e hg
  obtain ⟨k0, r1⟩ := and_e r0
  obtain ⟨k1, r2⟩ := and_e r1
  obtain ⟨k2, r3⟩ := and_e r2
  have k3 := r3
  obtain ⟨w0, w1, w2, w3, rfl⟩ : ∃ w0 w1 w2 w3 : Value, args = #[w0, w1, w2, w3] := by
    have hs : args.size = 4 := by simpa [Cond.value, given_1] using hcount
    obtain ⟨L⟩ := args
    match L, hs with
    | [w0, w1, w2, w3], _ => exact ⟨w0, w1, w2, w3, rfl⟩
  have hw := fun d (hd : d ∈ tables_1) => atoms_spec (ws := Jvm.Cond.code x code maxLocals ret :: tables_1) hat d (List.mem_cons_of_mem _ hd)
  obtain ⟨i0, ei0⟩ := is_v k0
  obtain rfl : w0 = (.int i0) := Option.some.inj ei0
  obtain ⟨i1, ei1⟩ := is_v k1
  obtain rfl : w1 = (.int i1) := Option.some.inj ei1
  obtain ⟨i2, ei2⟩ := isL_v k2
  obtain rfl : w2 = (.long i2) := Option.some.inj ei2
  obtain ⟨i3, ei3⟩ := is_v k3
  obtain rfl : w3 = (.int i3) := Option.some.inj ei3
  obtain ⟨n, o, h1, h2, h3, v, L, rfl, ⟨hv, N⟩, hq⟩ := rm0 l s _ hw tables_1 i0 i1 i2 i3 s.heap s.heap.size (Nat.le_refl _) p e ha hc hk s m _ below hf ((Spec.applies_iff_loose hf).mp happ).1 ⟨rfl, State.Warmed39.refl s, rfl⟩ trivial
  rw [law_one i0 i1 i2 i3] at hv
  subst hv
  refine ⟨n, _, h1, h2, h3, hpost _ _ _ _ _ _ ⟨Cond.after_iff.mpr rfl, Cond.after_iff.mpr (eq_i res_at (Term.int_eval (1)) rfl), trivial⟩ ⟨hq.1, hq.2.1, (hq.2.2.sift fun y hy => Or.inr (N y hy)).mono (by decide) (by decide)⟩⟩
theorem main_1_1 : Claimed_1_1 := comes_1 fun _ _ _ _ _ _ h hF => ⟨h.1, hF⟩
theorem main_1_2 : Claimed_1_2 := comes_1 fun _ _ _ _ _ _ h hF => ⟨h.2.1, hF⟩
end Jvm.Pilot.@@N@@
namespace Jvm.Pilot.@@N@@
open Jvm Jvm.ClassFile Sem Op Lib Jvm.Free Jvm.Stand Jvm.Pilot.@@N@@.Jvm.D
/-! MADE BY PROGRAM (witnessworld.py) out of the Statement's table words and the real class files: 9 classes; the members and pool entries that the words name. The judged class is class 1, her method 1. -/
namespace start1
open Jvm.ClassFile
def u (s : String) : CpInfo := .utf8 (stringToUtf16 s)
/-- a pool by its gaps: so many unusable entries, then the entry; so many at the end -/
def gap : Nat → List CpInfo → List CpInfo
  | 0, r => r
  | n + 1, r => .unusable :: gap n r
def poolList (es : List (Nat × CpInfo)) (last : Nat) : List CpInfo := es.foldr (fun e r => gap e.1 (e.2 :: r)) (gap last [])
def pool (es : List (Nat × CpInfo)) (last : Nat) : Array CpInfo := ⟨poolList es last⟩
def fileOf (pool : Array CpInfo) (this : Nat) (attrs : Array Attribute := #[]) (ms : Array MethodInfo := #[]) (fl : Nat := 33) (sup : Nat := 0) (ifs : Array Nat := #[]) (fds : Array FieldInfo := #[]) : ClassFile where
  minorVersion := 0
  majorVersion := 65
  constantPool := pool
  accessFlags := fl
  thisClass := this
  superClass := sup
  interfaces := ifs
  fields := fds
  methods := ms
  attributes := attrs
def plain (name : String) (sup : Option ClassId) : Class where
  name := name
  kind := .ordinary
  loader := none
  accessFlags := 33
  super := sup
  interfaces := #[]
  cf := none
  fields := #[]
  methods := #[]
  instanceTypes := #[]
  staticTypes := #[]
  resolved := #[]
  callSites := []
  init := .initialized
  statics := none
  mirror := none

def pool0 : Array CpInfo := pool [(5, u "<init>"), (0, u "()V"), (1, .class_ 10), (1, u "java/lang/Object")] 113

def k0m0 : Method := { name := "<init>", desc := "()V", sig := { parameters := [], returnType := none }, accessFlags := 1, code := none }
/-- java/lang/Object -/
def k0 : Class := { plain "java/lang/Object" none with
  accessFlags := 33
  interfaces := #[]
  cf := some (fileOf pool0 8 #[] #[{ accessFlags := 1, nameIndex := 5, descriptorIndex := 6, attributes := #[] }] 33 0 #[] #[])
  fields := #[]
  methods := #[k0m0]
  instanceTypes := #[]
  staticTypes := #[]
  resolved := Array.replicate 124 none
  statics := none }

def pool1 : Array CpInfo := pool [(2, .class_ 4), (1, u "java/lang/Object"), (0, u "<init>"), (0, u "()V"), (2, .long 18446744071562067968), (1, .long 2147483647), (1, .long 1048576), (1, .long 3), (1, .long 2), (1, .methodref 20 21), (0, .class_ 22), (0, .nameAndType 23 24), (0, u "com/example/run_state_store/runstatestore/Pages"), (0, u "cutShort"), (0, u "(IIJ)Z"), (0, .class_ 26), (0, u "com/example/run_state_store/runstatestore/PagesCutShortPinLaw"), (2, u "law"), (0, u "(IIJI)Z")] 3

def k1m0 : Method := { name := "<init>", desc := "()V", sig := { parameters := [], returnType := none }, accessFlags := 2, code := none }
def k1c1 : Code := { maxStack := 6, maxLocals := 12, code := code, exceptionTable := #[], attributes := #[] }
def k1m1 : Method := { name := "law", desc := "(IIJI)Z", sig := { parameters := [.int, .int, .long, .int], returnType := some .boolean }, accessFlags := 9, code := some k1c1 }
/-- com/example/run_state_store/runstatestore/PagesCutShortPinLaw -/
def k1 : Class := { plain "com/example/run_state_store/runstatestore/PagesCutShortPinLaw" (some 0) with
  accessFlags := 49
  interfaces := #[]
  cf := some (fileOf pool1 25 #[] #[{ accessFlags := 2, nameIndex := 5, descriptorIndex := 6, attributes := #[] }, { accessFlags := 9, nameIndex := 29, descriptorIndex := 30, attributes := #[] }] 49 2 #[] #[])
  fields := #[]
  methods := #[k1m0, k1m1]
  instanceTypes := #[]
  staticTypes := #[]
  resolved := Array.replicate 34 none
  statics := none }

def pool2 : Array CpInfo := pool [(2, .class_ 4), (1, u "java/lang/Object"), (0, u "<init>"), (0, u "()V"), (0, .class_ 8), (0, u "com/example/run_state_store/runstatestore/Pages"), (11, .class_ 22), (1, u "com/example/run_state_store/runstatestore/Pages$Read"), (30, .long 1048576), (1, u "MOST"), (0, u "I"), (2, u "MOST_BYTES"), (0, u "J"), (9, u "cutShort"), (0, u "(IIJ)Z")] 5

def k2m0 : Method := { name := "<init>", desc := "()V", sig := { parameters := [], returnType := none }, accessFlags := 2, code := none }
def k2c1 : Code := { maxStack := 4, maxLocals := 4, code := prog_14_method_4_code, exceptionTable := #[], attributes := #[] }
def k2m1 : Method := { name := "cutShort", desc := "(IIJ)Z", sig := { parameters := [.int, .int, .long], returnType := some .boolean }, accessFlags := 8, code := some k2c1 }
/-- com/example/run_state_store/runstatestore/Pages -/
def k2 : Class := { plain "com/example/run_state_store/runstatestore/Pages" (some 0) with
  accessFlags := 48
  interfaces := #[]
  cf := some (fileOf pool2 7 #[.nestMembers #[20]] #[{ accessFlags := 2, nameIndex := 5, descriptorIndex := 6, attributes := #[] }, { accessFlags := 8, nameIndex := 70, descriptorIndex := 71, attributes := #[] }] 48 2 #[] #[{ accessFlags := 24, nameIndex := 55, descriptorIndex := 56, attributes := #[] }, { accessFlags := 24, nameIndex := 59, descriptorIndex := 60, attributes := #[] }])
  fields := #[{ name := "MOST", type := .int, accessFlags := 24, slot := 0, constantValue := 0 }, { name := "MOST_BYTES", type := .long, accessFlags := 24, slot := 1, constantValue := 0 }]
  methods := #[k2m0, k2m1]
  instanceTypes := #[]
  staticTypes := #[.int, .long]
  resolved := Array.replicate 77 none
  statics := none }

def pool3 : Array CpInfo := pool [(1, u "java/lang/Cloneable"), (0, .class_ 1), (0, u "java/lang/Object"), (0, .class_ 3)] 3

/-- java/lang/Cloneable -/
def k3 : Class := { plain "java/lang/Cloneable" (some 0) with
  accessFlags := 1537
  interfaces := #[]
  cf := some (fileOf pool3 2 #[] #[] 1537 4 #[] #[])
  fields := #[]
  methods := #[]
  instanceTypes := #[]
  staticTypes := #[]
  resolved := Array.replicate 8 none
  statics := none }

def pool4 : Array CpInfo := pool [(1, u "java/io/Serializable"), (0, .class_ 1), (0, u "java/lang/Object"), (0, .class_ 3)] 3

/-- java/io/Serializable -/
def k4 : Class := { plain "java/io/Serializable" (some 0) with
  accessFlags := 1537
  interfaces := #[]
  cf := some (fileOf pool4 2 #[] #[] 1537 4 #[] #[])
  fields := #[]
  methods := #[]
  instanceTypes := #[]
  staticTypes := #[]
  resolved := Array.replicate 8 none
  statics := none }

/-- the primitive byte -/
def k5 : Class := { plain "byte" none with kind := .primitive 'B', accessFlags := 0x411 }
/-- [B -/
def k6 : Class := { plain "[B" (some 0) with kind := .array 5 .byte, interfaces := #[3, 4], accessFlags := 1041 }

/-- the primitive int -/
def k7 : Class := { plain "int" none with kind := .primitive 'I', accessFlags := 0x411 }
/-- [I -/
def k8 : Class := { plain "[I" (some 0) with kind := .array 7 .int, interfaces := #[3, 4], accessFlags := 1041 }

def heap : Heap := #[]
def classes : Array Class := #[k0, k1, k2, k3, k4, k5, k6, k7, k8]
def interned : List (Array UInt16 × Addr) := []
def slotsUsed : Nat := 0
def theMethod : MethodId := ⟨1, 1⟩
def args0 : Array Value := #[.int 5, .int 5, .long 5, .int 5]
def aboutOver (below : List Frame) : State where
  vm := { classes := classes, interned := interned.toArray }
  heap := heap
  slotsUsed := slotsUsed
  threads := #[{ frames := .invoking theMethod args0 :: below }]
def below0 : List Frame := [.native { method := ⟨0, 0⟩, args := #[] }]
def about1 : State := aboutOver below0
def p0 : Program := .bare "" "" ""
def e0 : Env := launch0.env 0 0 0
theorem w_frames : about1.frames = Frame.invoking theMethod args0 :: below0 := rfl
set_option maxRecDepth 65536 in
theorem w_args : argsFit about1.vm theMethod args0 = true := by decide +kernel
set_option maxRecDepth 65536 in
theorem w_heap : heapFits about1 = true := by decide +kernel
set_option maxRecDepth 65536 in
theorem w_runnable : about1.curStatus? = some .runnable := by decide +kernel
set_option maxRecDepth 65536 in
theorem w_alone : about1.alone = true := by decide +kernel
set_option maxRecDepth 65536 in
theorem w_named : about1.methodNamed? x = some theMethod := by decide +kernel
set_option maxRecDepth 65536 in
theorem w_hears : about1.hears theMethod below0 = true := by decide +kernel
set_option maxRecDepth 65536 in
theorem w_ripe : about1.ripe theMethod args0 below0 = true := by decide +kernel
theorem w_running : about1.status = .running := rfl
set_option maxRecDepth 65536 in
theorem w_room : about1.hasRoom e0.platform room_1 = true :=
  launch0.hasRoom_least _ room_1 (by decide +kernel) (by decide +kernel) (by decide +kernel) (by decide +kernel) (by decide +kernel) (by decide +kernel)
theorem allAtoms_all (ts : List Jvm.Cond) (a : Array Jvm.Value) (st : Jvm.State) : (allAtoms ts).before a st = ts.all (fun c => c.before a st) := by
  induction ts with
  | nil => rfl
  | cons c t ih =>
    show (Jvm.Cond.and c (allAtoms t)).before a st = _
    rw [Jvm.Cond.before_and, ih, List.all_cons]
def words1 : List Jvm.Cond := Jvm.Cond.code x code maxLocals ret :: tables_1
/-- a 'code' word, met by the world's own term for the bytes: nothing is compared byte by byte -/
theorem code_word {y : MethodName} {bytes : ByteArray} {mx : Nat} {rt : Option FieldType} {a : Array Value} {s : State} {m : MethodId} {meth : Method} {c : Code} (h1 : s.methodNamed? y = some m) (h2 : s.vm.method? m = some meth) (h3 : meth.code = some c) (h4 : c.code = bytes)
    (h5 : (c.maxLocals == mx && c.exceptionTable.isEmpty && decide (c.maxStack ≤ mostOperands) && decide (meth.sig.returnType = rt) && !meth.locks && decide (parseMethodDescriptor y.desc = some meth.sig)) = true) : (Jvm.Cond.code y bytes mx rt).before a s = true := by
  simp only [Bool.and_eq_true, beq_iff_eq, Bool.not_eq_true', decide_eq_true_eq] at h5
  obtain ⟨⟨⟨⟨⟨g1, g2⟩, g3⟩, g4⟩, g5⟩, g6⟩ := h5
  simp [Cond.before, Cond.holds, Cond.value, h1, h2, h3, h4, g1, g2, g3, g4, g5, g6]
def isCode : Jvm.Cond → Bool
  | .code _ _ _ _ => true
  | _ => false
theorem all_split {L : List Jvm.Cond} {P : Jvm.Cond → Bool} (h1 : L.all (fun c => isCode c || P c) = true) (h2 : ∀ c ∈ L.filter isCode, P c = true) : L.all P = true := by
  refine List.all_eq_true.mpr fun c hc => ?_
  have h := List.all_eq_true.mp h1 c hc
  rcases Bool.eq_false_or_eq_true (isCode c) with hi | hi
  · exact h2 c (List.mem_filter.mpr ⟨hc, hi⟩)
  · simpa [hi] using h
set_option maxRecDepth 65536 in
theorem w_c0 : (Jvm.Cond.code x code maxLocals ret).before args0 about1 = true := code_word (m := ⟨1, 1⟩) (meth := k1m1) (c := k1c1) (by decide +kernel) rfl rfl rfl (by decide +kernel)
set_option maxRecDepth 65536 in
theorem w_c1 : (Jvm.Cond.code ({ cls := "com/example/run_state_store/runstatestore/Pages", name := "cutShort", desc := "(IIJ)Z" } : Jvm.MethodName) prog_14_method_4_code (4 : Nat) (Option.some Jvm.ClassFile.FieldType.boolean)).before args0 about1 = true := code_word (m := ⟨2, 1⟩) (meth := k2m1) (c := k2c1) (by decide +kernel) rfl rfl rfl (by decide +kernel)
def codes1 : List Jvm.Cond := [Jvm.Cond.code x code maxLocals ret, Jvm.Cond.code ({ cls := "com/example/run_state_store/runstatestore/Pages", name := "cutShort", desc := "(IIJ)Z" } : Jvm.MethodName) prog_14_method_4_code (4 : Nat) (Option.some Jvm.ClassFile.FieldType.boolean)]
set_option maxRecDepth 65536 in
theorem codes_eq : words1.filter isCode = codes1 := rfl
theorem w_codes : ∀ c ∈ words1.filter isCode, c.before args0 about1 = true := by
  rw [codes_eq]
  intro c hc
  simp only [codes1, List.mem_cons, List.not_mem_nil, or_false] at hc
  rcases hc with rfl | rfl
  · exact w_c0
  · exact w_c1
set_option maxRecDepth 65536 in
theorem w_t1 : words1.all (fun c => isCode c || c.before args0 about1) = true := by decide +kernel
theorem w_tables : (allAtoms (Jvm.Cond.code x code maxLocals ret :: tables_1)).before args0 about1 = true := by
  rw [allAtoms_all]
  show words1.all (fun c => c.before args0 about1) = true
  refine all_split ?_ w_codes
  rw [w_t1]
set_option maxRecDepth 65536 in
theorem w_case : (Jvm.Cond.and given_1 narrow_1).before args0 about1 = true := by decide +kernel
theorem w_applies : (headSpec (Jvm.Cond.code x code maxLocals ret :: tables_1) room_1).applies x e0.platform about1 = true :=
  (Spec.applies_iff w_frames).mpr ⟨w_running, w_runnable, w_alone, w_named, w_hears, w_ripe, w_room, w_tables⟩
theorem atStart : AtStart classFile x code maxLocals ret World_1 tables_1 room_1 Calls_1 rest_1 Pre_1 launch0 p0 e0 about1 theMethod args0 below0 :=
  ⟨lists_1, trivial, launch0.admits_env _ _ _, launch0.least_env, fairChoices_fair.cas, fairChoices_fair.clock, w_frames, w_args, w_heap, w_applies, trivial, trivial, w_case⟩
end start1
theorem witness_1 : WitnessClaimed_1 := ⟨start1.p0, start1.e0, start1.about1, start1.theMethod, start1.args0, start1.below0, start1.atStart⟩
end Jvm.Pilot.@@N@@
