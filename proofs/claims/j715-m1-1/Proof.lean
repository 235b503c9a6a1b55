import JvmDerived
import JvmDerived.Pilot.@@N@@Statement
import JvmDerived.Pilot.@@N@@Code
set_option linter.unusedVariables false
set_option linter.unusedSimpArgs false
@@BLOCK:NumsL.lean.txt@@
namespace Jvm.Pilot.@@N@@
open Jvm Jvm.ClassFile Sem Op Lib Jvm.Free Jvm.Stand Jvm.LawKit Jvm.RoadKit Bundle Jvm.Pilot.@@N@@.Jvm.D
theorem own_m {Z : State} {aw : Array Value} (hw : ∀ d ∈ tables_1, d.before aw Z = true) (i : Nat) {d : Jvm.Cond} (h : tables_1[i]? = some d) : d.before aw Z = true := hw d (List.mem_of_getElem? h)
theorem own_tnc (x : Int32) : x.toNatClampNeg = x.toInt.toNat := rfl
theorem own_lc (x y : Int64) : lcmpW x y = if x > y then 1 else if x = y then 0 else -1 := rfl
theorem own_lt (x y : Int64) : lcmpW x y < 0 ↔ x < y := by
  rw [own_lc]; split
  · rename_i h; exact ⟨fun q => absurd q (by decide), fun q => absurd h (Int64.lt_asymm q)⟩
  · split
    · rename_i h1 h2; subst h2; exact ⟨fun q => absurd q (by decide), fun q => absurd q Int64.lt_irrefl⟩
    · rename_i h1 h2; exact ⟨fun _ => (Int64.lt_or_lt_of_ne h2).resolve_right h1, fun _ => by decide⟩
theorem own_gt (x y : Int64) : 0 < lcmpW x y ↔ y < x := by
  rw [own_lc]; split
  · rename_i h; exact ⟨fun _ => h, fun _ => by decide⟩
  · split
    · rename_i h1 h2; exact ⟨fun q => absurd q (by decide), fun q => absurd q h1⟩
    · rename_i h1 h2; exact ⟨fun q => absurd q (by decide), fun q => absurd q h1⟩
theorem own_eq (x y : Int64) : lcmpW x y = 0 ↔ x = y := by
  rw [own_lc]; split
  · rename_i h; exact ⟨fun q => absurd q (by decide), fun q => absurd (q ▸ h) Int64.lt_irrefl⟩
  · split
    · rename_i h1 h2; exact ⟨fun _ => h2, fun _ => rfl⟩
    · rename_i h1 h2; exact ⟨fun q => absurd q (by decide), fun q => absurd q h2⟩
theorem d1_0 : decode prog_87_method_104_code 0 = .ok (.iload_n 0, 1) := by decide +kernel
theorem d1_1 : decode prog_87_method_104_code 1 = .ok (.bipush 32, 2) := by decide +kernel
theorem d1_3 : decode prog_87_method_104_code 3 = .ok (.if_icmp .gt 35, 3) := by decide +kernel
theorem d1_38 : decode prog_87_method_104_code 38 = .ok (.iload_n 1, 1) := by decide +kernel
theorem d1_39 : decode prog_87_method_104_code 39 = .ok (.ifCond .eq 21, 3) := by decide +kernel
theorem d1_60 : decode prog_87_method_104_code 60 = .ok (.iconst 0, 1) := by decide +kernel
theorem d1_42 : decode prog_87_method_104_code 42 = .ok (.iload_n 0, 1) := by decide +kernel
theorem d1_43 : decode prog_87_method_104_code 43 = .ok (.sipush 133, 3) := by decide +kernel
theorem d1_46 : decode prog_87_method_104_code 46 = .ok (.if_icmp .eq 10, 3) := by decide +kernel
theorem d1_56 : decode prog_87_method_104_code 56 = .ok (.iconst 1, 1) := by decide +kernel
theorem d1_57 : decode prog_87_method_104_code 57 = .ok (.goto 4, 3) := by decide +kernel
theorem d1_49 : decode prog_87_method_104_code 49 = .ok (.iload_n 0, 1) := by decide +kernel
theorem d1_50 : decode prog_87_method_104_code 50 = .ok (.sipush 8232, 3) := by decide +kernel
theorem d1_53 : decode prog_87_method_104_code 53 = .ok (.if_icmp .ne 7, 3) := by decide +kernel
theorem d1_6 : decode prog_87_method_104_code 6 = .ok (.iload_n 0, 1) := by decide +kernel
theorem d1_7 : decode prog_87_method_104_code 7 = .ok (.bipush 32, 2) := by decide +kernel
theorem d1_9 : decode prog_87_method_104_code 9 = .ok (.if_icmp .eq 21, 3) := by decide +kernel
theorem d1_30 : decode prog_87_method_104_code 30 = .ok (.iconst 1, 1) := by decide +kernel
theorem d1_31 : decode prog_87_method_104_code 31 = .ok (.goto 30, 3) := by decide +kernel
theorem d1_12 : decode prog_87_method_104_code 12 = .ok (.iload_n 0, 1) := by decide +kernel
theorem d1_13 : decode prog_87_method_104_code 13 = .ok (.bipush 9, 2) := by decide +kernel
theorem d1_15 : decode prog_87_method_104_code 15 = .ok (.if_icmp .eq 15, 3) := by decide +kernel
theorem d1_18 : decode prog_87_method_104_code 18 = .ok (.iload_n 0, 1) := by decide +kernel
theorem d1_19 : decode prog_87_method_104_code 19 = .ok (.bipush 13, 2) := by decide +kernel
theorem d1_21 : decode prog_87_method_104_code 21 = .ok (.if_icmp .eq 9, 3) := by decide +kernel
theorem d1_24 : decode prog_87_method_104_code 24 = .ok (.iload_n 0, 1) := by decide +kernel
theorem d1_25 : decode prog_87_method_104_code 25 = .ok (.bipush 10, 2) := by decide +kernel
theorem d1_27 : decode prog_87_method_104_code 27 = .ok (.if_icmp .ne 7, 3) := by decide +kernel
theorem d1_34 : decode prog_87_method_104_code 34 = .ok (.iconst 0, 1) := by decide +kernel
theorem d1_35 : decode prog_87_method_104_code 35 = .ok (.goto 26, 3) := by decide +kernel
theorem d1_61 : decode prog_87_method_104_code 61 = .ok (.ireturn, 1) := by decide +kernel
def j1_0 (p0 : Int32) (p1 : Int32) : Int32 := (if (32 : Int32) < p0 then (if p1 = (0 : Int32) then (0 : Int32) else (if p0 = (133 : Int32) then (1 : Int32) else (if p0 = (8232 : Int32) then (1 : Int32) else (0 : Int32)))) else (if p0 = (32 : Int32) then (1 : Int32) else (if p0 = (9 : Int32) then (1 : Int32) else (if p0 = (13 : Int32) then (1 : Int32) else (if p0 = (10 : Int32) then (1 : Int32) else (0 : Int32))))))
theorem pn_1 : plainName "com/example/kapsam/kapsam/reader/SubsetScanner" = true := by first | (simp [plainName, overriddenIn]; done) | decide +kernel
theorem ef1 (m : MethodId) (x0 : Int32) (x1 : Int32) : entryFrame m #[(.int x0), (.int x1)] 2 = mkF m 0 #[.val (.int x0), .val (.int x1)] [] := by first | (simp [entryFrame, mkF, argsToLocals, Value.category]; done) | rfl
abbrev rr1 : Room := { frames := 0, cells := 0, slots := 0, locals := 0 }
def Q1 (Z : State) (p0 : Int32) (p1 : Int32) (h0 : Heap) (n0 : Nat) (v : Option Value) (h : Heap) (L : List Loc) : Prop := v = some (.int (nar .boolean (j1_0 p0 p1))) ∧ Fr n0 L ∧ h = h0
set_option maxRecDepth 65536 in
set_option maxHeartbeats 40000000 in
theorem rm1 (l : Launch) (Z : State) (aw : Array Value) (hw : ∀ d ∈ tables_1, d.before aw Z = true) (ws : List Jvm.Cond) (p0 : Int32) (p1 : Int32) (h0 : Heap) (n0 : Nat) (Z0 : n0 ≤ h0.size)  :
    MetFree l (⟨"com/example/kapsam/kapsam/reader/SubsetScanner", "isSpace", "(CZ)Z"⟩ : MethodName) (head1 (Jvm.Cond.code (⟨"com/example/kapsam/kapsam/reader/SubsetScanner", "isSpace", "(CZ)Z"⟩ : MethodName) prog_87_method_104_code 2 (some .boolean) :: ws) rr1) (fun a U => a = #[(.int p0), (.int p1)] ∧ Z.Warmed39 U.vm ∧ U.heap = h0) (fun _ _ _ _ _ => True) (fun _ U o U' => ∃ v L, o = .returned v ∧ Q1 Z p0 p1 h0 n0 v U'.heap L ∧ FrameEnd U o U' L rr1.cells rr1.slots) := by
  refine MetFree.of_bodySF (plainFor_of_name pn_1) hisR ?_
  intro p e s m args below meth c s₁ Bd hml0 hP hK
  obtain ⟨rfl, hZ, hh⟩ := hP
  have hx := Bd.exec
  have hby := Bd.bytes
  have hml : c.maxLocals = 2 := hml0
  have hown : s.vm.findClass "com/example/kapsam/kapsam/reader/SubsetScanner" = some m.cls := findClass_of_methodNamed Bd.named
  have hnm := (name_of_methodNamed Bd.named Bd.method).1
  have X0 : Stand p l e rr1 s m #[(.int p0), (.int p1)] below meth c s₁ [] 0 0 := Stand.of_body Bd
  have e0 : s₁.heap = h0 := by rw [← hh, Bd.state]; rfl
  have N0 := Fr.nil n0
  have pre0 : ∀ t, Steps p.tables e below (s₁.setTop (mkF m 0 #[.val (.int p0), .val (.int p1)] [])) t → Steps p.tables e below (s₁.setTop (entryFrame m #[(.int p0), (.int p1)] 2)) t := fun t k => castTop (ef1 m p0 p1) k
  have pre15 := fun (t : State) (k : Steps p.tables e below (s₁.setTop (mkF m 3 #[.val (.int p0), .val (.int p1)] [(.int (32 : Int32)), (.int p0)])) t) => pre0 t (by
    show Steps p.tables e below (s₁.setTop (mkF m 0 #[.val (.int p0), .val (.int p1)] [])) _
    refine XS.iloadN X0.here hx rfl (hb hby d1_0) rfl ?_
    show Steps p.tables e below (s₁.setTop (mkF m 1 #[.val (.int p0), .val (.int p1)] [(.int p0)])) _
    refine XS.bipush X0.here hx rfl (hb hby d1_1) ?_
    exact k)
  have pre16 := fun (t : State) (k : Steps p.tables e below (s₁.setTop (mkF m 61 #[.val (.int p0), .val (.int p1)] [(.int (j1_0 p0 p1))])) t) => pre15 t (by
    by_cases hc17 : (32 : Int32) < p0
    · skip
      show Steps p.tables e below (s₁.setTop (mkF m 3 #[.val (.int p0), .val (.int p1)] [(.int (32 : Int32)), (.int p0)])) _
      refine XS.icmpYes X0.here hx rfl (pc0 := 3) (pc' := 38) rfl (hb hby d1_3) rfl (tlt hc17).2.2.1 (by decide) (by decide) ?_
      show Steps p.tables e below (s₁.setTop (mkF m 38 #[.val (.int p0), .val (.int p1)] [])) _
      refine XS.iloadN X0.here hx rfl (hb hby d1_38) rfl ?_
      by_cases hc18 : p1 = (0 : Int32)
      · skip
        show Steps p.tables e below (s₁.setTop (mkF m 39 #[.val (.int p0), .val (.int p1)] [(.int p1)])) _
        refine XS.ifYes X0.here hx rfl (pc0 := 39) (pc' := 60) rfl (hb hby d1_39) rfl ((if0 _ _).trans (teq hc18).1) (by decide) (by decide) ?_
        show Steps p.tables e below (s₁.setTop (mkF m 60 #[.val (.int p0), .val (.int p1)] [])) _
        refine XS.iconst X0.here hx rfl (hb hby d1_60) ?_
        have hj19 : (j1_0 p0 p1) = (0 : Int32) := by unfold j1_0; first | (rw [if_pos hc17, if_pos hc18]) | (simp only [if_pos hc17, if_pos hc18])
        rw [hj19] at k
        exact k
      · skip
        show Steps p.tables e below (s₁.setTop (mkF m 39 #[.val (.int p0), .val (.int p1)] [(.int p1)])) _
        refine XS.ifNo X0.here hx rfl (hb hby d1_39) rfl ((if0 _ _).trans (feq hc18).1) ?_
        show Steps p.tables e below (s₁.setTop (mkF m 42 #[.val (.int p0), .val (.int p1)] [])) _
        refine XS.iloadN X0.here hx rfl (hb hby d1_42) rfl ?_
        show Steps p.tables e below (s₁.setTop (mkF m 43 #[.val (.int p0), .val (.int p1)] [(.int p0)])) _
        refine XS.sipush X0.here hx rfl (hb hby d1_43) ?_
        by_cases hc20 : p0 = (133 : Int32)
        · skip
          show Steps p.tables e below (s₁.setTop (mkF m 46 #[.val (.int p0), .val (.int p1)] [(.int (133 : Int32)), (.int p0)])) _
          refine XS.icmpYes X0.here hx rfl (pc0 := 46) (pc' := 56) rfl (hb hby d1_46) rfl (teq hc20).1 (by decide) (by decide) ?_
          show Steps p.tables e below (s₁.setTop (mkF m 56 #[.val (.int p0), .val (.int p1)] [])) _
          refine XS.iconst X0.here hx rfl (hb hby d1_56) ?_
          show Steps p.tables e below (s₁.setTop (mkF m 57 #[.val (.int p0), .val (.int p1)] [(.int (1 : Int32))])) _
          refine XS.goto X0.here hx rfl (pc0 := 57) (pc' := 61) rfl (hb hby d1_57) (by decide) (by decide) ?_
          have hj21 : (j1_0 p0 p1) = (1 : Int32) := by unfold j1_0; first | (rw [if_pos hc17, if_neg hc18, if_pos hc20]) | (simp only [if_pos hc17, if_neg hc18, if_pos hc20])
          rw [hj21] at k
          exact k
        · skip
          show Steps p.tables e below (s₁.setTop (mkF m 46 #[.val (.int p0), .val (.int p1)] [(.int (133 : Int32)), (.int p0)])) _
          refine XS.icmpNo X0.here hx rfl (hb hby d1_46) rfl (feq hc20).1 ?_
          show Steps p.tables e below (s₁.setTop (mkF m 49 #[.val (.int p0), .val (.int p1)] [])) _
          refine XS.iloadN X0.here hx rfl (hb hby d1_49) rfl ?_
          show Steps p.tables e below (s₁.setTop (mkF m 50 #[.val (.int p0), .val (.int p1)] [(.int p0)])) _
          refine XS.sipush X0.here hx rfl (hb hby d1_50) ?_
          by_cases hc22 : p0 = (8232 : Int32)
          · skip
            show Steps p.tables e below (s₁.setTop (mkF m 53 #[.val (.int p0), .val (.int p1)] [(.int (8232 : Int32)), (.int p0)])) _
            refine XS.icmpNo X0.here hx rfl (hb hby d1_53) rfl (teq hc22).2 ?_
            show Steps p.tables e below (s₁.setTop (mkF m 56 #[.val (.int p0), .val (.int p1)] [])) _
            refine XS.iconst X0.here hx rfl (hb hby d1_56) ?_
            show Steps p.tables e below (s₁.setTop (mkF m 57 #[.val (.int p0), .val (.int p1)] [(.int (1 : Int32))])) _
            refine XS.goto X0.here hx rfl (pc0 := 57) (pc' := 61) rfl (hb hby d1_57) (by decide) (by decide) ?_
            have hj23 : (j1_0 p0 p1) = (1 : Int32) := by unfold j1_0; first | (rw [if_pos hc17, if_neg hc18, if_neg hc20, if_pos hc22]) | (simp only [if_pos hc17, if_neg hc18, if_neg hc20, if_pos hc22])
            rw [hj23] at k
            exact k
          · skip
            show Steps p.tables e below (s₁.setTop (mkF m 53 #[.val (.int p0), .val (.int p1)] [(.int (8232 : Int32)), (.int p0)])) _
            refine XS.icmpYes X0.here hx rfl (pc0 := 53) (pc' := 60) rfl (hb hby d1_53) rfl (feq hc22).2 (by decide) (by decide) ?_
            show Steps p.tables e below (s₁.setTop (mkF m 60 #[.val (.int p0), .val (.int p1)] [])) _
            refine XS.iconst X0.here hx rfl (hb hby d1_60) ?_
            have hj24 : (j1_0 p0 p1) = (0 : Int32) := by unfold j1_0; first | (rw [if_pos hc17, if_neg hc18, if_neg hc20, if_neg hc22]) | (simp only [if_pos hc17, if_neg hc18, if_neg hc20, if_neg hc22])
            rw [hj24] at k
            exact k
    · skip
      show Steps p.tables e below (s₁.setTop (mkF m 3 #[.val (.int p0), .val (.int p1)] [(.int (32 : Int32)), (.int p0)])) _
      refine XS.icmpNo X0.here hx rfl (hb hby d1_3) rfl (flt hc17).2.2.1 ?_
      show Steps p.tables e below (s₁.setTop (mkF m 6 #[.val (.int p0), .val (.int p1)] [])) _
      refine XS.iloadN X0.here hx rfl (hb hby d1_6) rfl ?_
      show Steps p.tables e below (s₁.setTop (mkF m 7 #[.val (.int p0), .val (.int p1)] [(.int p0)])) _
      refine XS.bipush X0.here hx rfl (hb hby d1_7) ?_
      by_cases hc25 : p0 = (32 : Int32)
      · skip
        show Steps p.tables e below (s₁.setTop (mkF m 9 #[.val (.int p0), .val (.int p1)] [(.int (32 : Int32)), (.int p0)])) _
        refine XS.icmpYes X0.here hx rfl (pc0 := 9) (pc' := 30) rfl (hb hby d1_9) rfl (teq hc25).1 (by decide) (by decide) ?_
        show Steps p.tables e below (s₁.setTop (mkF m 30 #[.val (.int p0), .val (.int p1)] [])) _
        refine XS.iconst X0.here hx rfl (hb hby d1_30) ?_
        show Steps p.tables e below (s₁.setTop (mkF m 31 #[.val (.int p0), .val (.int p1)] [(.int (1 : Int32))])) _
        refine XS.goto X0.here hx rfl (pc0 := 31) (pc' := 61) rfl (hb hby d1_31) (by decide) (by decide) ?_
        have hj26 : (j1_0 p0 p1) = (1 : Int32) := by unfold j1_0; first | (rw [if_neg hc17, if_pos hc25]) | (simp only [if_neg hc17, if_pos hc25])
        rw [hj26] at k
        exact k
      · skip
        show Steps p.tables e below (s₁.setTop (mkF m 9 #[.val (.int p0), .val (.int p1)] [(.int (32 : Int32)), (.int p0)])) _
        refine XS.icmpNo X0.here hx rfl (hb hby d1_9) rfl (feq hc25).1 ?_
        show Steps p.tables e below (s₁.setTop (mkF m 12 #[.val (.int p0), .val (.int p1)] [])) _
        refine XS.iloadN X0.here hx rfl (hb hby d1_12) rfl ?_
        show Steps p.tables e below (s₁.setTop (mkF m 13 #[.val (.int p0), .val (.int p1)] [(.int p0)])) _
        refine XS.bipush X0.here hx rfl (hb hby d1_13) ?_
        by_cases hc27 : p0 = (9 : Int32)
        · skip
          show Steps p.tables e below (s₁.setTop (mkF m 15 #[.val (.int p0), .val (.int p1)] [(.int (9 : Int32)), (.int p0)])) _
          refine XS.icmpYes X0.here hx rfl (pc0 := 15) (pc' := 30) rfl (hb hby d1_15) rfl (teq hc27).1 (by decide) (by decide) ?_
          show Steps p.tables e below (s₁.setTop (mkF m 30 #[.val (.int p0), .val (.int p1)] [])) _
          refine XS.iconst X0.here hx rfl (hb hby d1_30) ?_
          show Steps p.tables e below (s₁.setTop (mkF m 31 #[.val (.int p0), .val (.int p1)] [(.int (1 : Int32))])) _
          refine XS.goto X0.here hx rfl (pc0 := 31) (pc' := 61) rfl (hb hby d1_31) (by decide) (by decide) ?_
          have hj28 : (j1_0 p0 p1) = (1 : Int32) := by unfold j1_0; first | (rw [if_neg hc17, if_neg hc25, if_pos hc27]) | (simp only [if_neg hc17, if_neg hc25, if_pos hc27])
          rw [hj28] at k
          exact k
        · skip
          show Steps p.tables e below (s₁.setTop (mkF m 15 #[.val (.int p0), .val (.int p1)] [(.int (9 : Int32)), (.int p0)])) _
          refine XS.icmpNo X0.here hx rfl (hb hby d1_15) rfl (feq hc27).1 ?_
          show Steps p.tables e below (s₁.setTop (mkF m 18 #[.val (.int p0), .val (.int p1)] [])) _
          refine XS.iloadN X0.here hx rfl (hb hby d1_18) rfl ?_
          show Steps p.tables e below (s₁.setTop (mkF m 19 #[.val (.int p0), .val (.int p1)] [(.int p0)])) _
          refine XS.bipush X0.here hx rfl (hb hby d1_19) ?_
          by_cases hc29 : p0 = (13 : Int32)
          · skip
            show Steps p.tables e below (s₁.setTop (mkF m 21 #[.val (.int p0), .val (.int p1)] [(.int (13 : Int32)), (.int p0)])) _
            refine XS.icmpYes X0.here hx rfl (pc0 := 21) (pc' := 30) rfl (hb hby d1_21) rfl (teq hc29).1 (by decide) (by decide) ?_
            show Steps p.tables e below (s₁.setTop (mkF m 30 #[.val (.int p0), .val (.int p1)] [])) _
            refine XS.iconst X0.here hx rfl (hb hby d1_30) ?_
            show Steps p.tables e below (s₁.setTop (mkF m 31 #[.val (.int p0), .val (.int p1)] [(.int (1 : Int32))])) _
            refine XS.goto X0.here hx rfl (pc0 := 31) (pc' := 61) rfl (hb hby d1_31) (by decide) (by decide) ?_
            have hj30 : (j1_0 p0 p1) = (1 : Int32) := by unfold j1_0; first | (rw [if_neg hc17, if_neg hc25, if_neg hc27, if_pos hc29]) | (simp only [if_neg hc17, if_neg hc25, if_neg hc27, if_pos hc29])
            rw [hj30] at k
            exact k
          · skip
            show Steps p.tables e below (s₁.setTop (mkF m 21 #[.val (.int p0), .val (.int p1)] [(.int (13 : Int32)), (.int p0)])) _
            refine XS.icmpNo X0.here hx rfl (hb hby d1_21) rfl (feq hc29).1 ?_
            show Steps p.tables e below (s₁.setTop (mkF m 24 #[.val (.int p0), .val (.int p1)] [])) _
            refine XS.iloadN X0.here hx rfl (hb hby d1_24) rfl ?_
            show Steps p.tables e below (s₁.setTop (mkF m 25 #[.val (.int p0), .val (.int p1)] [(.int p0)])) _
            refine XS.bipush X0.here hx rfl (hb hby d1_25) ?_
            by_cases hc31 : p0 = (10 : Int32)
            · skip
              show Steps p.tables e below (s₁.setTop (mkF m 27 #[.val (.int p0), .val (.int p1)] [(.int (10 : Int32)), (.int p0)])) _
              refine XS.icmpNo X0.here hx rfl (hb hby d1_27) rfl (teq hc31).2 ?_
              show Steps p.tables e below (s₁.setTop (mkF m 30 #[.val (.int p0), .val (.int p1)] [])) _
              refine XS.iconst X0.here hx rfl (hb hby d1_30) ?_
              show Steps p.tables e below (s₁.setTop (mkF m 31 #[.val (.int p0), .val (.int p1)] [(.int (1 : Int32))])) _
              refine XS.goto X0.here hx rfl (pc0 := 31) (pc' := 61) rfl (hb hby d1_31) (by decide) (by decide) ?_
              have hj32 : (j1_0 p0 p1) = (1 : Int32) := by unfold j1_0; first | (rw [if_neg hc17, if_neg hc25, if_neg hc27, if_neg hc29, if_pos hc31]) | (simp only [if_neg hc17, if_neg hc25, if_neg hc27, if_neg hc29, if_pos hc31])
              rw [hj32] at k
              exact k
            · skip
              show Steps p.tables e below (s₁.setTop (mkF m 27 #[.val (.int p0), .val (.int p1)] [(.int (10 : Int32)), (.int p0)])) _
              refine XS.icmpYes X0.here hx rfl (pc0 := 27) (pc' := 34) rfl (hb hby d1_27) rfl (feq hc31).2 (by decide) (by decide) ?_
              show Steps p.tables e below (s₁.setTop (mkF m 34 #[.val (.int p0), .val (.int p1)] [])) _
              refine XS.iconst X0.here hx rfl (hb hby d1_34) ?_
              show Steps p.tables e below (s₁.setTop (mkF m 35 #[.val (.int p0), .val (.int p1)] [(.int (0 : Int32))])) _
              refine XS.goto X0.here hx rfl (pc0 := 35) (pc' := 61) rfl (hb hby d1_35) (by decide) (by decide) ?_
              have hj33 : (j1_0 p0 p1) = (0 : Int32) := by unfold j1_0; first | (rw [if_neg hc17, if_neg hc25, if_neg hc27, if_neg hc29, if_neg hc31]) | (simp only [if_neg hc17, if_neg hc25, if_neg hc27, if_neg hc29, if_neg hc31])
              rw [hj33] at k
              exact k)
  obtain ⟨fs, hr, hrun, hended, hW, hsame⟩ := X0.leave (v := some (.int (nar .boolean (j1_0 p0 p1)))) (fun h => by rw [Bd.returns] at h; cases h)
  refine ⟨_, _, pre16 _ ?_, hrun, hended, _, _, rfl, ?_, ⟨_, rfl⟩, hW, hsame.mono (by decide) (by decide)⟩
  · skip
    show Steps p.tables e below (s₁.setTop (mkF m 61 #[.val (.int p0), .val (.int p1)] [(.int (j1_0 p0 p1))])) _
    exact retN X0 hx (t := .boolean) Bd.returns (by simp) (hb hby d1_61) hr
  · show Q1 Z p0 p1 h0 n0 _ s₁.heap _
    rw [e0]
    exact ⟨rfl, N0, rfl⟩
theorem d2_0 : decode method_2_code 0 = .ok (.iload_n 0, 1) := by decide +kernel
theorem d2_1 : decode method_2_code 1 = .ok (.bipush 32, 2) := by decide +kernel
theorem d2_3 : decode method_2_code 3 = .ok (.if_icmp .eq 21, 3) := by decide +kernel
theorem d2_24 : decode method_2_code 24 = .ok (.iconst 1, 1) := by decide +kernel
theorem d2_25 : decode method_2_code 25 = .ok (.goto 4, 3) := by decide +kernel
theorem d2_6 : decode method_2_code 6 = .ok (.iload_n 0, 1) := by decide +kernel
theorem d2_7 : decode method_2_code 7 = .ok (.bipush 9, 2) := by decide +kernel
theorem d2_9 : decode method_2_code 9 = .ok (.if_icmp .eq 15, 3) := by decide +kernel
theorem d2_12 : decode method_2_code 12 = .ok (.iload_n 0, 1) := by decide +kernel
theorem d2_13 : decode method_2_code 13 = .ok (.bipush 13, 2) := by decide +kernel
theorem d2_15 : decode method_2_code 15 = .ok (.if_icmp .eq 9, 3) := by decide +kernel
theorem d2_18 : decode method_2_code 18 = .ok (.iload_n 0, 1) := by decide +kernel
theorem d2_19 : decode method_2_code 19 = .ok (.bipush 10, 2) := by decide +kernel
theorem d2_21 : decode method_2_code 21 = .ok (.if_icmp .ne 7, 3) := by decide +kernel
theorem d2_28 : decode method_2_code 28 = .ok (.iconst 0, 1) := by decide +kernel
theorem d2_29 : decode method_2_code 29 = .ok (.istore_n 2, 1) := by decide +kernel
theorem d2_30 : decode method_2_code 30 = .ok (.iload_n 0, 1) := by decide +kernel
theorem d2_31 : decode method_2_code 31 = .ok (.sipush 133, 3) := by decide +kernel
theorem d2_34 : decode method_2_code 34 = .ok (.if_icmp .eq 10, 3) := by decide +kernel
theorem d2_44 : decode method_2_code 44 = .ok (.iconst 1, 1) := by decide +kernel
theorem d2_45 : decode method_2_code 45 = .ok (.goto 4, 3) := by decide +kernel
theorem d2_37 : decode method_2_code 37 = .ok (.iload_n 0, 1) := by decide +kernel
theorem d2_38 : decode method_2_code 38 = .ok (.sipush 8232, 3) := by decide +kernel
theorem d2_41 : decode method_2_code 41 = .ok (.if_icmp .ne 7, 3) := by decide +kernel
theorem d2_48 : decode method_2_code 48 = .ok (.iconst 0, 1) := by decide +kernel
theorem d2_49 : decode method_2_code 49 = .ok (.istore_n 3, 1) := by decide +kernel
theorem d2_50 : decode method_2_code 50 = .ok (.iload_n 2, 1) := by decide +kernel
theorem d2_51 : decode method_2_code 51 = .ok (.ifCond .eq 5, 3) := by decide +kernel
theorem d2_56 : decode method_2_code 56 = .ok (.iload_n 1, 1) := by decide +kernel
theorem d2_57 : decode method_2_code 57 = .ok (.ifCond .eq 5, 3) := by decide +kernel
theorem d2_62 : decode method_2_code 62 = .ok (.iconst 0, 1) := by decide +kernel
theorem d2_63 : decode method_2_code 63 = .ok (.ireturn, 1) := by decide +kernel
theorem d2_60 : decode method_2_code 60 = .ok (.iload_n 3, 1) := by decide +kernel
theorem d2_61 : decode method_2_code 61 = .ok (.ireturn, 1) := by decide +kernel
theorem d2_54 : decode method_2_code 54 = .ok (.iconst 1, 1) := by decide +kernel
theorem d2_55 : decode method_2_code 55 = .ok (.ireturn, 1) := by decide +kernel
def j2_0 (p0 : Int32) : Int32 := (if p0 = (32 : Int32) then (1 : Int32) else (if p0 = (9 : Int32) then (1 : Int32) else (if p0 = (13 : Int32) then (1 : Int32) else (if p0 = (10 : Int32) then (1 : Int32) else (0 : Int32)))))
def j2_1 (p0 : Int32) : Int32 := (if p0 = (133 : Int32) then (1 : Int32) else (if p0 = (8232 : Int32) then (1 : Int32) else (0 : Int32)))
def v2 (p0 : Int32) (p1 : Int32) : Int32 := (if (j2_0 p0) = (0 : Int32) then (if p1 = (0 : Int32) then (0 : Int32) else (nar .boolean (j2_1 p0))) else (1 : Int32))
theorem pn_2 : plainName "com/example/kapsam/kapsam/reader/SubsetScannerIsSpacePinLaw" = true := by first | (simp [plainName, overriddenIn]; done) | decide +kernel
theorem ef2 (m : MethodId) (x0 : Int32) (x1 : Int32) : entryFrame m #[(.int x0), (.int x1)] 4 = mkF m 0 #[.val (.int x0), .val (.int x1), .unset, .unset] [] := by first | (simp [entryFrame, mkF, argsToLocals, Value.category]; done) | rfl
abbrev rr2 : Room := { frames := 0, cells := 0, slots := 0, locals := 0 }
def Q2 (Z : State) (p0 : Int32) (p1 : Int32) (h0 : Heap) (n0 : Nat) (v : Option Value) (h : Heap) (L : List Loc) : Prop := v = some (.int (v2 p0 p1)) ∧ Fr n0 L ∧ h = h0
set_option maxRecDepth 65536 in
set_option maxHeartbeats 40000000 in
theorem rm2 (l : Launch) (Z : State) (aw : Array Value) (hw : ∀ d ∈ tables_1, d.before aw Z = true) (ws : List Jvm.Cond) (p0 : Int32) (p1 : Int32) (h0 : Heap) (n0 : Nat) (Z0 : n0 ≤ h0.size)  :
    MetFree l (⟨"com/example/kapsam/kapsam/reader/SubsetScannerIsSpacePinLaw", "reference", "(IZ)Z"⟩ : MethodName) (head1 (Jvm.Cond.code (⟨"com/example/kapsam/kapsam/reader/SubsetScannerIsSpacePinLaw", "reference", "(IZ)Z"⟩ : MethodName) method_2_code 4 (some .boolean) :: ws) rr2) (fun a U => a = #[(.int p0), (.int p1)] ∧ Z.Warmed39 U.vm ∧ U.heap = h0) (fun _ _ _ _ _ => True) (fun _ U o U' => ∃ v L, o = .returned v ∧ Q2 Z p0 p1 h0 n0 v U'.heap L ∧ FrameEnd U o U' L rr2.cells rr2.slots) := by
  refine MetFree.of_bodySF (plainFor_of_name pn_2) hisR ?_
  intro p e s m args below meth c s₁ Bd hml0 hP hK
  obtain ⟨rfl, hZ, hh⟩ := hP
  have hx := Bd.exec
  have hby := Bd.bytes
  have hml : c.maxLocals = 4 := hml0
  have hown : s.vm.findClass "com/example/kapsam/kapsam/reader/SubsetScannerIsSpacePinLaw" = some m.cls := findClass_of_methodNamed Bd.named
  have hnm := (name_of_methodNamed Bd.named Bd.method).1
  have X0 : Stand p l e rr2 s m #[(.int p0), (.int p1)] below meth c s₁ [] 0 0 := Stand.of_body Bd
  have e0 : s₁.heap = h0 := by rw [← hh, Bd.state]; rfl
  have N0 := Fr.nil n0
  have pre0 : ∀ t, Steps p.tables e below (s₁.setTop (mkF m 0 #[.val (.int p0), .val (.int p1), .unset, .unset] [])) t → Steps p.tables e below (s₁.setTop (entryFrame m #[(.int p0), (.int p1)] 4)) t := fun t k => castTop (ef2 m p0 p1) k
  have pre40 := fun (t : State) (k : Steps p.tables e below (s₁.setTop (mkF m 3 #[.val (.int p0), .val (.int p1), .unset, .unset] [(.int (32 : Int32)), (.int p0)])) t) => pre0 t (by
    show Steps p.tables e below (s₁.setTop (mkF m 0 #[.val (.int p0), .val (.int p1), .unset, .unset] [])) _
    refine XS.iloadN X0.here hx rfl (hb hby d2_0) rfl ?_
    show Steps p.tables e below (s₁.setTop (mkF m 1 #[.val (.int p0), .val (.int p1), .unset, .unset] [(.int p0)])) _
    refine XS.bipush X0.here hx rfl (hb hby d2_1) ?_
    exact k)
  have pre41 := fun (t : State) (k : Steps p.tables e below (s₁.setTop (mkF m 29 #[.val (.int p0), .val (.int p1), .unset, .unset] [(.int (j2_0 p0))])) t) => pre40 t (by
    by_cases hc42 : p0 = (32 : Int32)
    · skip
      show Steps p.tables e below (s₁.setTop (mkF m 3 #[.val (.int p0), .val (.int p1), .unset, .unset] [(.int (32 : Int32)), (.int p0)])) _
      refine XS.icmpYes X0.here hx rfl (pc0 := 3) (pc' := 24) rfl (hb hby d2_3) rfl (teq hc42).1 (by decide) (by decide) ?_
      show Steps p.tables e below (s₁.setTop (mkF m 24 #[.val (.int p0), .val (.int p1), .unset, .unset] [])) _
      refine XS.iconst X0.here hx rfl (hb hby d2_24) ?_
      show Steps p.tables e below (s₁.setTop (mkF m 25 #[.val (.int p0), .val (.int p1), .unset, .unset] [(.int (1 : Int32))])) _
      refine XS.goto X0.here hx rfl (pc0 := 25) (pc' := 29) rfl (hb hby d2_25) (by decide) (by decide) ?_
      have hj43 : (j2_0 p0) = (1 : Int32) := by unfold j2_0; first | (rw [if_pos hc42]) | (simp only [if_pos hc42])
      rw [hj43] at k
      exact k
    · skip
      show Steps p.tables e below (s₁.setTop (mkF m 3 #[.val (.int p0), .val (.int p1), .unset, .unset] [(.int (32 : Int32)), (.int p0)])) _
      refine XS.icmpNo X0.here hx rfl (hb hby d2_3) rfl (feq hc42).1 ?_
      show Steps p.tables e below (s₁.setTop (mkF m 6 #[.val (.int p0), .val (.int p1), .unset, .unset] [])) _
      refine XS.iloadN X0.here hx rfl (hb hby d2_6) rfl ?_
      show Steps p.tables e below (s₁.setTop (mkF m 7 #[.val (.int p0), .val (.int p1), .unset, .unset] [(.int p0)])) _
      refine XS.bipush X0.here hx rfl (hb hby d2_7) ?_
      by_cases hc44 : p0 = (9 : Int32)
      · skip
        show Steps p.tables e below (s₁.setTop (mkF m 9 #[.val (.int p0), .val (.int p1), .unset, .unset] [(.int (9 : Int32)), (.int p0)])) _
        refine XS.icmpYes X0.here hx rfl (pc0 := 9) (pc' := 24) rfl (hb hby d2_9) rfl (teq hc44).1 (by decide) (by decide) ?_
        show Steps p.tables e below (s₁.setTop (mkF m 24 #[.val (.int p0), .val (.int p1), .unset, .unset] [])) _
        refine XS.iconst X0.here hx rfl (hb hby d2_24) ?_
        show Steps p.tables e below (s₁.setTop (mkF m 25 #[.val (.int p0), .val (.int p1), .unset, .unset] [(.int (1 : Int32))])) _
        refine XS.goto X0.here hx rfl (pc0 := 25) (pc' := 29) rfl (hb hby d2_25) (by decide) (by decide) ?_
        have hj45 : (j2_0 p0) = (1 : Int32) := by unfold j2_0; first | (rw [if_neg hc42, if_pos hc44]) | (simp only [if_neg hc42, if_pos hc44])
        rw [hj45] at k
        exact k
      · skip
        show Steps p.tables e below (s₁.setTop (mkF m 9 #[.val (.int p0), .val (.int p1), .unset, .unset] [(.int (9 : Int32)), (.int p0)])) _
        refine XS.icmpNo X0.here hx rfl (hb hby d2_9) rfl (feq hc44).1 ?_
        show Steps p.tables e below (s₁.setTop (mkF m 12 #[.val (.int p0), .val (.int p1), .unset, .unset] [])) _
        refine XS.iloadN X0.here hx rfl (hb hby d2_12) rfl ?_
        show Steps p.tables e below (s₁.setTop (mkF m 13 #[.val (.int p0), .val (.int p1), .unset, .unset] [(.int p0)])) _
        refine XS.bipush X0.here hx rfl (hb hby d2_13) ?_
        by_cases hc46 : p0 = (13 : Int32)
        · skip
          show Steps p.tables e below (s₁.setTop (mkF m 15 #[.val (.int p0), .val (.int p1), .unset, .unset] [(.int (13 : Int32)), (.int p0)])) _
          refine XS.icmpYes X0.here hx rfl (pc0 := 15) (pc' := 24) rfl (hb hby d2_15) rfl (teq hc46).1 (by decide) (by decide) ?_
          show Steps p.tables e below (s₁.setTop (mkF m 24 #[.val (.int p0), .val (.int p1), .unset, .unset] [])) _
          refine XS.iconst X0.here hx rfl (hb hby d2_24) ?_
          show Steps p.tables e below (s₁.setTop (mkF m 25 #[.val (.int p0), .val (.int p1), .unset, .unset] [(.int (1 : Int32))])) _
          refine XS.goto X0.here hx rfl (pc0 := 25) (pc' := 29) rfl (hb hby d2_25) (by decide) (by decide) ?_
          have hj47 : (j2_0 p0) = (1 : Int32) := by unfold j2_0; first | (rw [if_neg hc42, if_neg hc44, if_pos hc46]) | (simp only [if_neg hc42, if_neg hc44, if_pos hc46])
          rw [hj47] at k
          exact k
        · skip
          show Steps p.tables e below (s₁.setTop (mkF m 15 #[.val (.int p0), .val (.int p1), .unset, .unset] [(.int (13 : Int32)), (.int p0)])) _
          refine XS.icmpNo X0.here hx rfl (hb hby d2_15) rfl (feq hc46).1 ?_
          show Steps p.tables e below (s₁.setTop (mkF m 18 #[.val (.int p0), .val (.int p1), .unset, .unset] [])) _
          refine XS.iloadN X0.here hx rfl (hb hby d2_18) rfl ?_
          show Steps p.tables e below (s₁.setTop (mkF m 19 #[.val (.int p0), .val (.int p1), .unset, .unset] [(.int p0)])) _
          refine XS.bipush X0.here hx rfl (hb hby d2_19) ?_
          by_cases hc48 : p0 = (10 : Int32)
          · skip
            show Steps p.tables e below (s₁.setTop (mkF m 21 #[.val (.int p0), .val (.int p1), .unset, .unset] [(.int (10 : Int32)), (.int p0)])) _
            refine XS.icmpNo X0.here hx rfl (hb hby d2_21) rfl (teq hc48).2 ?_
            show Steps p.tables e below (s₁.setTop (mkF m 24 #[.val (.int p0), .val (.int p1), .unset, .unset] [])) _
            refine XS.iconst X0.here hx rfl (hb hby d2_24) ?_
            show Steps p.tables e below (s₁.setTop (mkF m 25 #[.val (.int p0), .val (.int p1), .unset, .unset] [(.int (1 : Int32))])) _
            refine XS.goto X0.here hx rfl (pc0 := 25) (pc' := 29) rfl (hb hby d2_25) (by decide) (by decide) ?_
            have hj49 : (j2_0 p0) = (1 : Int32) := by unfold j2_0; first | (rw [if_neg hc42, if_neg hc44, if_neg hc46, if_pos hc48]) | (simp only [if_neg hc42, if_neg hc44, if_neg hc46, if_pos hc48])
            rw [hj49] at k
            exact k
          · skip
            show Steps p.tables e below (s₁.setTop (mkF m 21 #[.val (.int p0), .val (.int p1), .unset, .unset] [(.int (10 : Int32)), (.int p0)])) _
            refine XS.icmpYes X0.here hx rfl (pc0 := 21) (pc' := 28) rfl (hb hby d2_21) rfl (feq hc48).2 (by decide) (by decide) ?_
            show Steps p.tables e below (s₁.setTop (mkF m 28 #[.val (.int p0), .val (.int p1), .unset, .unset] [])) _
            refine XS.iconst X0.here hx rfl (hb hby d2_28) ?_
            have hj50 : (j2_0 p0) = (0 : Int32) := by unfold j2_0; first | (rw [if_neg hc42, if_neg hc44, if_neg hc46, if_neg hc48]) | (simp only [if_neg hc42, if_neg hc44, if_neg hc46, if_neg hc48])
            rw [hj50] at k
            exact k)
  have pre53 := fun (t : State) (k : Steps p.tables e below (s₁.setTop (mkF m 34 #[.val (.int p0), .val (.int p1), .val (.int (j2_0 p0)), .unset] [(.int (133 : Int32)), (.int p0)])) t) => pre41 t (by
    show Steps p.tables e below (s₁.setTop (mkF m 29 #[.val (.int p0), .val (.int p1), .unset, .unset] [(.int (j2_0 p0))])) _
    refine XS.istoreN X0.here hx rfl (hb hby d2_29) rfl (l' := #[.val (.int p0), .val (.int p1), .val (.int (j2_0 p0)), .unset]) rfl ?_
    show Steps p.tables e below (s₁.setTop (mkF m 30 #[.val (.int p0), .val (.int p1), .val (.int (j2_0 p0)), .unset] [])) _
    refine XS.iloadN X0.here hx rfl (hb hby d2_30) rfl ?_
    show Steps p.tables e below (s₁.setTop (mkF m 31 #[.val (.int p0), .val (.int p1), .val (.int (j2_0 p0)), .unset] [(.int p0)])) _
    refine XS.sipush X0.here hx rfl (hb hby d2_31) ?_
    exact k)
  have pre54 := fun (t : State) (k : Steps p.tables e below (s₁.setTop (mkF m 49 #[.val (.int p0), .val (.int p1), .val (.int (j2_0 p0)), .unset] [(.int (j2_1 p0))])) t) => pre53 t (by
    by_cases hc55 : p0 = (133 : Int32)
    · skip
      show Steps p.tables e below (s₁.setTop (mkF m 34 #[.val (.int p0), .val (.int p1), .val (.int (j2_0 p0)), .unset] [(.int (133 : Int32)), (.int p0)])) _
      refine XS.icmpYes X0.here hx rfl (pc0 := 34) (pc' := 44) rfl (hb hby d2_34) rfl (teq hc55).1 (by decide) (by decide) ?_
      show Steps p.tables e below (s₁.setTop (mkF m 44 #[.val (.int p0), .val (.int p1), .val (.int (j2_0 p0)), .unset] [])) _
      refine XS.iconst X0.here hx rfl (hb hby d2_44) ?_
      show Steps p.tables e below (s₁.setTop (mkF m 45 #[.val (.int p0), .val (.int p1), .val (.int (j2_0 p0)), .unset] [(.int (1 : Int32))])) _
      refine XS.goto X0.here hx rfl (pc0 := 45) (pc' := 49) rfl (hb hby d2_45) (by decide) (by decide) ?_
      have hj56 : (j2_1 p0) = (1 : Int32) := by unfold j2_1; first | (rw [if_pos hc55]) | (simp only [if_pos hc55])
      rw [hj56] at k
      exact k
    · skip
      show Steps p.tables e below (s₁.setTop (mkF m 34 #[.val (.int p0), .val (.int p1), .val (.int (j2_0 p0)), .unset] [(.int (133 : Int32)), (.int p0)])) _
      refine XS.icmpNo X0.here hx rfl (hb hby d2_34) rfl (feq hc55).1 ?_
      show Steps p.tables e below (s₁.setTop (mkF m 37 #[.val (.int p0), .val (.int p1), .val (.int (j2_0 p0)), .unset] [])) _
      refine XS.iloadN X0.here hx rfl (hb hby d2_37) rfl ?_
      show Steps p.tables e below (s₁.setTop (mkF m 38 #[.val (.int p0), .val (.int p1), .val (.int (j2_0 p0)), .unset] [(.int p0)])) _
      refine XS.sipush X0.here hx rfl (hb hby d2_38) ?_
      by_cases hc57 : p0 = (8232 : Int32)
      · skip
        show Steps p.tables e below (s₁.setTop (mkF m 41 #[.val (.int p0), .val (.int p1), .val (.int (j2_0 p0)), .unset] [(.int (8232 : Int32)), (.int p0)])) _
        refine XS.icmpNo X0.here hx rfl (hb hby d2_41) rfl (teq hc57).2 ?_
        show Steps p.tables e below (s₁.setTop (mkF m 44 #[.val (.int p0), .val (.int p1), .val (.int (j2_0 p0)), .unset] [])) _
        refine XS.iconst X0.here hx rfl (hb hby d2_44) ?_
        show Steps p.tables e below (s₁.setTop (mkF m 45 #[.val (.int p0), .val (.int p1), .val (.int (j2_0 p0)), .unset] [(.int (1 : Int32))])) _
        refine XS.goto X0.here hx rfl (pc0 := 45) (pc' := 49) rfl (hb hby d2_45) (by decide) (by decide) ?_
        have hj58 : (j2_1 p0) = (1 : Int32) := by unfold j2_1; first | (rw [if_neg hc55, if_pos hc57]) | (simp only [if_neg hc55, if_pos hc57])
        rw [hj58] at k
        exact k
      · skip
        show Steps p.tables e below (s₁.setTop (mkF m 41 #[.val (.int p0), .val (.int p1), .val (.int (j2_0 p0)), .unset] [(.int (8232 : Int32)), (.int p0)])) _
        refine XS.icmpYes X0.here hx rfl (pc0 := 41) (pc' := 48) rfl (hb hby d2_41) rfl (feq hc57).2 (by decide) (by decide) ?_
        show Steps p.tables e below (s₁.setTop (mkF m 48 #[.val (.int p0), .val (.int p1), .val (.int (j2_0 p0)), .unset] [])) _
        refine XS.iconst X0.here hx rfl (hb hby d2_48) ?_
        have hj59 : (j2_1 p0) = (0 : Int32) := by unfold j2_1; first | (rw [if_neg hc55, if_neg hc57]) | (simp only [if_neg hc55, if_neg hc57])
        rw [hj59] at k
        exact k)
  have pre61 := fun (t : State) (k : Steps p.tables e below (s₁.setTop (mkF m 51 #[.val (.int p0), .val (.int p1), .val (.int (j2_0 p0)), .val (.int (j2_1 p0))] [(.int (j2_0 p0))])) t) => pre54 t (by
    show Steps p.tables e below (s₁.setTop (mkF m 49 #[.val (.int p0), .val (.int p1), .val (.int (j2_0 p0)), .unset] [(.int (j2_1 p0))])) _
    refine XS.istoreN X0.here hx rfl (hb hby d2_49) rfl (l' := #[.val (.int p0), .val (.int p1), .val (.int (j2_0 p0)), .val (.int (j2_1 p0))]) rfl ?_
    show Steps p.tables e below (s₁.setTop (mkF m 50 #[.val (.int p0), .val (.int p1), .val (.int (j2_0 p0)), .val (.int (j2_1 p0))] [])) _
    refine XS.iloadN X0.here hx rfl (hb hby d2_50) rfl ?_
    exact k)
  by_cases hc60 : (j2_0 p0) = (0 : Int32)
  · skip
    have pre63 := fun (t : State) (k : Steps p.tables e below (s₁.setTop (mkF m 57 #[.val (.int p0), .val (.int p1), .val (.int (j2_0 p0)), .val (.int (j2_1 p0))] [(.int p1)])) t) => pre61 t (by
      show Steps p.tables e below (s₁.setTop (mkF m 51 #[.val (.int p0), .val (.int p1), .val (.int (j2_0 p0)), .val (.int (j2_1 p0))] [(.int (j2_0 p0))])) _
      refine XS.ifYes X0.here hx rfl (pc0 := 51) (pc' := 56) rfl (hb hby d2_51) rfl ((if0 _ _).trans (teq hc60).1) (by decide) (by decide) ?_
      show Steps p.tables e below (s₁.setTop (mkF m 56 #[.val (.int p0), .val (.int p1), .val (.int (j2_0 p0)), .val (.int (j2_1 p0))] [])) _
      refine XS.iloadN X0.here hx rfl (hb hby d2_56) rfl ?_
      exact k)
    by_cases hc62 : p1 = (0 : Int32)
    · skip
      obtain ⟨fs, hr, hrun, hended, hW, hsame⟩ := X0.leave (v := some (.int (0 : Int32))) (fun h => by rw [Bd.returns] at h; cases h)
      refine ⟨_, _, pre63 _ ?_, hrun, hended, _, _, rfl, ?_, ⟨_, rfl⟩, hW, hsame.mono (by decide) (by decide)⟩
      · skip
        show Steps p.tables e below (s₁.setTop (mkF m 57 #[.val (.int p0), .val (.int p1), .val (.int (j2_0 p0)), .val (.int (j2_1 p0))] [(.int p1)])) _
        refine XS.ifYes X0.here hx rfl (pc0 := 57) (pc' := 62) rfl (hb hby d2_57) rfl ((if0 _ _).trans (teq hc62).1) (by decide) (by decide) ?_
        show Steps p.tables e below (s₁.setTop (mkF m 62 #[.val (.int p0), .val (.int p1), .val (.int (j2_0 p0)), .val (.int (j2_1 p0))] [])) _
        refine XS.iconst X0.here hx rfl (hb hby d2_62) ?_
        show Steps p.tables e below (s₁.setTop (mkF m 63 #[.val (.int p0), .val (.int p1), .val (.int (j2_0 p0)), .val (.int (j2_1 p0))] [(.int (0 : Int32))])) _
        exact retN X0 hx (t := .boolean) Bd.returns (by simp) (hb hby d2_63) hr
      · show Q2 Z p0 p1 h0 n0 _ s₁.heap _
        rw [e0]
        have hv : (0 : Int32) = (v2 p0 p1) := by unfold v2; first | (rw [if_pos hc60, if_pos hc62]) | (simp only [if_pos hc60, if_pos hc62])
        exact ⟨(by rw [← hv]), N0, rfl⟩
    · skip
      obtain ⟨fs, hr, hrun, hended, hW, hsame⟩ := X0.leave (v := some (.int (nar .boolean (j2_1 p0)))) (fun h => by rw [Bd.returns] at h; cases h)
      refine ⟨_, _, pre63 _ ?_, hrun, hended, _, _, rfl, ?_, ⟨_, rfl⟩, hW, hsame.mono (by decide) (by decide)⟩
      · skip
        show Steps p.tables e below (s₁.setTop (mkF m 57 #[.val (.int p0), .val (.int p1), .val (.int (j2_0 p0)), .val (.int (j2_1 p0))] [(.int p1)])) _
        refine XS.ifNo X0.here hx rfl (hb hby d2_57) rfl ((if0 _ _).trans (feq hc62).1) ?_
        show Steps p.tables e below (s₁.setTop (mkF m 60 #[.val (.int p0), .val (.int p1), .val (.int (j2_0 p0)), .val (.int (j2_1 p0))] [])) _
        refine XS.iloadN X0.here hx rfl (hb hby d2_60) rfl ?_
        show Steps p.tables e below (s₁.setTop (mkF m 61 #[.val (.int p0), .val (.int p1), .val (.int (j2_0 p0)), .val (.int (j2_1 p0))] [(.int (j2_1 p0))])) _
        exact retN X0 hx (t := .boolean) Bd.returns (by simp) (hb hby d2_61) hr
      · show Q2 Z p0 p1 h0 n0 _ s₁.heap _
        rw [e0]
        have hv : (nar .boolean (j2_1 p0)) = (v2 p0 p1) := by unfold v2; first | (rw [if_pos hc60, if_neg hc62]) | (simp only [if_pos hc60, if_neg hc62])
        exact ⟨(by rw [← hv]), N0, rfl⟩
  · skip
    obtain ⟨fs, hr, hrun, hended, hW, hsame⟩ := X0.leave (v := some (.int (1 : Int32))) (fun h => by rw [Bd.returns] at h; cases h)
    refine ⟨_, _, pre61 _ ?_, hrun, hended, _, _, rfl, ?_, ⟨_, rfl⟩, hW, hsame.mono (by decide) (by decide)⟩
    · skip
      show Steps p.tables e below (s₁.setTop (mkF m 51 #[.val (.int p0), .val (.int p1), .val (.int (j2_0 p0)), .val (.int (j2_1 p0))] [(.int (j2_0 p0))])) _
      refine XS.ifNo X0.here hx rfl (hb hby d2_51) rfl ((if0 _ _).trans (feq hc60).1) ?_
      show Steps p.tables e below (s₁.setTop (mkF m 54 #[.val (.int p0), .val (.int p1), .val (.int (j2_0 p0)), .val (.int (j2_1 p0))] [])) _
      refine XS.iconst X0.here hx rfl (hb hby d2_54) ?_
      show Steps p.tables e below (s₁.setTop (mkF m 55 #[.val (.int p0), .val (.int p1), .val (.int (j2_0 p0)), .val (.int (j2_1 p0))] [(.int (1 : Int32))])) _
      exact retN X0 hx (t := .boolean) Bd.returns (by simp) (hb hby d2_55) hr
    · show Q2 Z p0 p1 h0 n0 _ s₁.heap _
      rw [e0]
      have hv : (1 : Int32) = (v2 p0 p1) := by unfold v2; first | (rw [if_neg hc60]) | (simp only [if_neg hc60])
      exact ⟨(by rw [← hv]), N0, rfl⟩
def own_l : List Int32 := [32, 9, 13, 10, 133, 8232, 11, 12, 31, 33, 160, 8233, 0, 132, 65535]
def own_sp (k : Int32) : Int32 := own_l.getD k.toNatClampNeg 0
theorem own_gm (l : List Int32) (n : Nat) : (l.map Value.int).getD n (.int 0) = .int (l.getD n 0) := by
  simp only [List.getD_eq_getElem?_getD, List.getElem?_map]
  cases l[n]? <;> rfl
theorem own_get (k : Int32) : ([.int (32 : Int32), .int (9 : Int32), .int (13 : Int32), .int (10 : Int32), .int (133 : Int32), .int (8232 : Int32), .int (11 : Int32), .int (12 : Int32), .int (31 : Int32), .int (33 : Int32), .int (160 : Int32), .int (8233 : Int32), .int (0 : Int32), .int (132 : Int32), .int (65535 : Int32)] : List Value).getD k.toNatClampNeg (.int (0 : Int32)) = .int (own_sp k) := own_gm own_l _
theorem own_k0 (p : Int32) : ¬ (p &&& (15 : Int32)) < 0 := by
  have z : (0 : Int32).toInt = 0 := rfl
  rw [Int32.lt_iff_toInt_lt, Jvm.Kit.i32_mask p 15 (k := 4) (by decide) (by decide)]; omega
theorem pd_2 : parseMethodDescriptor "(CZ)Z" = some ⟨[.char, .boolean], some .boolean⟩ := by decide +kernel
theorem pd_3 : parseMethodDescriptor "(IZ)Z" = some ⟨[.int, .boolean], some .boolean⟩ := by decide +kernel
def j0_0 (p0 : Int32) (p1 : Int32) : Int32 := (if (p0 &&& (15 : Int32)) < (15 : Int32) then (own_sp (p0 &&& (15 : Int32))) else (p1 &&& (65535 : Int32)))
def j0_1 (p0 : Int32) (p1 : Int32) : Int32 := (if (nar .boolean (j1_0 ((j0_0 p0 p1).toUInt32.toUInt16.toUInt32.toInt32) (0 : Int32))) = (v2 (j0_0 p0 p1) (0 : Int32)) then (if (nar .boolean (j1_0 ((j0_0 p0 p1).toUInt32.toUInt16.toUInt32.toInt32) (1 : Int32))) = (v2 (j0_0 p0 p1) (1 : Int32)) then (if (nar .boolean (j1_0 ((j0_0 p0 p1).toUInt32.toUInt16.toUInt32.toInt32) (0 : Int32))) = (0 : Int32) then (1 : Int32) else (if (nar .boolean (j1_0 ((j0_0 p0 p1).toUInt32.toUInt16.toUInt32.toInt32) (1 : Int32))) = (0 : Int32) then (0 : Int32) else (1 : Int32))) else (0 : Int32)) else (0 : Int32))
theorem ef0 (m : MethodId) (x0 : Int32) (x1 : Int32) : entryFrame m #[(.int x0), (.int x1)] maxLocals = mkF m 0 #[.val (.int x0), .val (.int x1), .unset, .unset, .unset, .unset, .unset, .unset] [] := by first | (simp [entryFrame, mkF, argsToLocals, Value.category, maxLocals]; done) | rfl
def Q0 (Z : State) (p0 : Int32) (p1 : Int32) (h0 : Heap) (n0 : Nat) (v : Option Value) (h : Heap) (L : List Loc) : Prop := v = some (.int (nar .boolean (j0_1 p0 p1))) ∧ Fr n0 L
set_option maxRecDepth 65536 in
set_option maxHeartbeats 40000000 in
theorem rm0 (l : Launch) (Z : State) (aw : Array Value) (hw : ∀ d ∈ tables_1, d.before aw Z = true) (ws : List Jvm.Cond) (p0 : Int32) (p1 : Int32) (h0 : Heap) (n0 : Nat) (Z0 : n0 ≤ h0.size)  :
    MetFree l x (head1 (Jvm.Cond.code x code maxLocals ret :: ws) room_1) (fun a U => a = #[(.int p0), (.int p1)] ∧ Z.Warmed39 U.vm ∧ U.heap = h0) (fun _ _ _ _ _ => True) (fun _ U o U' => ∃ v L, o = .returned v ∧ Q0 Z p0 p1 h0 n0 v U'.heap L ∧ FrameEnd U o U' L room_1.cells room_1.slots) := by
  refine MetFree.of_bodySF (plainFor_of_name pn_2) hisR ?_
  intro p e s m args below meth c s₁ Bd hml0 hP hK
  obtain ⟨rfl, hZ, hh⟩ := hP
  have hx := Bd.exec
  have hby := Bd.bytes
  have hml : c.maxLocals = 8 := hml0
  have hown : s.vm.findClass "com/example/kapsam/kapsam/reader/SubsetScannerIsSpacePinLaw" = some m.cls := findClass_of_methodNamed Bd.named
  have hnm := (name_of_methodNamed Bd.named Bd.method).1
  have X0 : Stand p l e room_1 s m #[(.int p0), (.int p1)] below meth c s₁ [] 0 0 := Stand.of_body Bd
  have e0 : s₁.heap = h0 := by rw [← hh, Bd.state]; rfl
  have N0 := Fr.nil n0
  have pre0 : ∀ t, Steps p.tables e below (s₁.setTop (mkF m 0 #[.val (.int p0), .val (.int p1), .unset, .unset, .unset, .unset, .unset, .unset] [])) t → Steps p.tables e below (s₁.setTop (entryFrame m #[(.int p0), (.int p1)] maxLocals)) t := fun t k => castTop (ef0 m p0 p1) k
  obtain ⟨T64, h64, k64, X64, e64, E64, A64, st64⟩ := newP X0 hx hZ (hw _ (List.mem_of_getElem? (i := 0) rfl)) e0 (g := (mkF m 2 #[.val (.int p0), .val (.int p1), .unset, .unset, .unset, .unset, .unset, .unset] [(.int (15 : Int32))])) rfl (hb hby at_2) rfl (by decide) (cap := 15) (by decide) (by decide) (by decide) (by decide)
  obtain ⟨b64, gg64⟩ : ∃ z, z = h0.size := ⟨_, rfl⟩
  rw [← gg64] at A64 st64
  have g_b64 : n0 ≤ b64 := Nat.le_trans Z0 (Nat.le_of_eq gg64.symm)
  have Z65 := Nat.le_trans Z0 E64.1
  have V64 : Arv Z h64 b64 k64 .int (15 : Int32) [(.int (0 : Int32)), (.int (0 : Int32)), (.int (0 : Int32)), (.int (0 : Int32)), (.int (0 : Int32)), (.int (0 : Int32)), (.int (0 : Int32)), (.int (0 : Int32)), (.int (0 : Int32)), (.int (0 : Int32)), (.int (0 : Int32)), (.int (0 : Int32)), (.int (0 : Int32)), (.int (0 : Int32)), (.int (0 : Int32))] (.int (0 : Int32)) := (Arv.new A64 (by decide)).pad (pad_rep [] (.int (0 : Int32)) 15)
  obtain ⟨cl66, Ar66, q66, S66, M66, H66, G66⟩ := id V64
  have hin67 : ¬ ((0 : Int32) < 0 ∨ cl66.slots.size ≤ ((0 : Int32)).toNatClampNeg) := inb_of S66 ⟨by decide, by decide⟩
  obtain ⟨T68, h68, X68, e68, W68, st68⟩ := stI X64 hx hZ e64 Ar66 (j := (0 : Int32)) hin67 (g := (mkF m 8 #[.val (.int p0), .val (.int p1), .unset, .unset, .unset, .unset, .unset, .unset] [(.int (32 : Int32)), (.int (0 : Int32)), (.ref b64), (.ref b64)])) rfl rfl (hb hby at_8)
  have V68 : Arv Z h68 b64 k64 .int (15 : Int32) [(.int (32 : Int32)), (.int (0 : Int32)), (.int (0 : Int32)), (.int (0 : Int32)), (.int (0 : Int32)), (.int (0 : Int32)), (.int (0 : Int32)), (.int (0 : Int32)), (.int (0 : Int32)), (.int (0 : Int32)), (.int (0 : Int32)), (.int (0 : Int32)), (.int (0 : Int32)), (.int (0 : Int32)), (.int (0 : Int32))] (.int (0 : Int32)) := Arv.set Ar66 q66 S66 M66 H66 G66 rfl W68 0 rfl (Nat.le_of_ble_eq_true rfl)
  have Z70 := Nat.le_trans Z65 (Keep.of_wr W68).1
  have N71 := Fr.snoc X68 N0 g_b64
  obtain ⟨cl72, Ar72, q72, S72, M72, H72, G72⟩ := id V68
  have hin73 : ¬ ((1 : Int32) < 0 ∨ cl72.slots.size ≤ ((1 : Int32)).toNatClampNeg) := inb_of S72 ⟨by decide, by decide⟩
  obtain ⟨T74, h74, X74, e74, W74, st74⟩ := stI X68 hx hZ e68 Ar72 (j := (1 : Int32)) hin73 (g := (mkF m 13 #[.val (.int p0), .val (.int p1), .unset, .unset, .unset, .unset, .unset, .unset] [(.int (9 : Int32)), (.int (1 : Int32)), (.ref b64), (.ref b64)])) rfl rfl (hb hby at_13)
  have V74 : Arv Z h74 b64 k64 .int (15 : Int32) [(.int (32 : Int32)), (.int (9 : Int32)), (.int (0 : Int32)), (.int (0 : Int32)), (.int (0 : Int32)), (.int (0 : Int32)), (.int (0 : Int32)), (.int (0 : Int32)), (.int (0 : Int32)), (.int (0 : Int32)), (.int (0 : Int32)), (.int (0 : Int32)), (.int (0 : Int32)), (.int (0 : Int32)), (.int (0 : Int32))] (.int (0 : Int32)) := Arv.set Ar72 q72 S72 M72 H72 G72 rfl W74 1 rfl (Nat.le_of_ble_eq_true rfl)
  have Z76 := Nat.le_trans Z70 (Keep.of_wr W74).1
  have N77 := Fr.snoc X74 N71 g_b64
  obtain ⟨cl78, Ar78, q78, S78, M78, H78, G78⟩ := id V74
  have hin79 : ¬ ((2 : Int32) < 0 ∨ cl78.slots.size ≤ ((2 : Int32)).toNatClampNeg) := inb_of S78 ⟨by decide, by decide⟩
  obtain ⟨T80, h80, X80, e80, W80, st80⟩ := stI X74 hx hZ e74 Ar78 (j := (2 : Int32)) hin79 (g := (mkF m 18 #[.val (.int p0), .val (.int p1), .unset, .unset, .unset, .unset, .unset, .unset] [(.int (13 : Int32)), (.int (2 : Int32)), (.ref b64), (.ref b64)])) rfl rfl (hb hby at_18)
  have V80 : Arv Z h80 b64 k64 .int (15 : Int32) [(.int (32 : Int32)), (.int (9 : Int32)), (.int (13 : Int32)), (.int (0 : Int32)), (.int (0 : Int32)), (.int (0 : Int32)), (.int (0 : Int32)), (.int (0 : Int32)), (.int (0 : Int32)), (.int (0 : Int32)), (.int (0 : Int32)), (.int (0 : Int32)), (.int (0 : Int32)), (.int (0 : Int32)), (.int (0 : Int32))] (.int (0 : Int32)) := Arv.set Ar78 q78 S78 M78 H78 G78 rfl W80 2 rfl (Nat.le_of_ble_eq_true rfl)
  have Z82 := Nat.le_trans Z76 (Keep.of_wr W80).1
  have N83 := Fr.snoc X80 N77 g_b64
  obtain ⟨cl84, Ar84, q84, S84, M84, H84, G84⟩ := id V80
  have hin85 : ¬ ((3 : Int32) < 0 ∨ cl84.slots.size ≤ ((3 : Int32)).toNatClampNeg) := inb_of S84 ⟨by decide, by decide⟩
  obtain ⟨T86, h86, X86, e86, W86, st86⟩ := stI X80 hx hZ e80 Ar84 (j := (3 : Int32)) hin85 (g := (mkF m 23 #[.val (.int p0), .val (.int p1), .unset, .unset, .unset, .unset, .unset, .unset] [(.int (10 : Int32)), (.int (3 : Int32)), (.ref b64), (.ref b64)])) rfl rfl (hb hby at_23)
  have V86 : Arv Z h86 b64 k64 .int (15 : Int32) [(.int (32 : Int32)), (.int (9 : Int32)), (.int (13 : Int32)), (.int (10 : Int32)), (.int (0 : Int32)), (.int (0 : Int32)), (.int (0 : Int32)), (.int (0 : Int32)), (.int (0 : Int32)), (.int (0 : Int32)), (.int (0 : Int32)), (.int (0 : Int32)), (.int (0 : Int32)), (.int (0 : Int32)), (.int (0 : Int32))] (.int (0 : Int32)) := Arv.set Ar84 q84 S84 M84 H84 G84 rfl W86 3 rfl (Nat.le_of_ble_eq_true rfl)
  have Z88 := Nat.le_trans Z82 (Keep.of_wr W86).1
  have N89 := Fr.snoc X86 N83 g_b64
  obtain ⟨cl90, Ar90, q90, S90, M90, H90, G90⟩ := id V86
  have hin91 : ¬ ((4 : Int32) < 0 ∨ cl90.slots.size ≤ ((4 : Int32)).toNatClampNeg) := inb_of S90 ⟨by decide, by decide⟩
  obtain ⟨T92, h92, X92, e92, W92, st92⟩ := stI X86 hx hZ e86 Ar90 (j := (4 : Int32)) hin91 (g := (mkF m 29 #[.val (.int p0), .val (.int p1), .unset, .unset, .unset, .unset, .unset, .unset] [(.int (133 : Int32)), (.int (4 : Int32)), (.ref b64), (.ref b64)])) rfl rfl (hb hby at_29)
  have V92 : Arv Z h92 b64 k64 .int (15 : Int32) [(.int (32 : Int32)), (.int (9 : Int32)), (.int (13 : Int32)), (.int (10 : Int32)), (.int (133 : Int32)), (.int (0 : Int32)), (.int (0 : Int32)), (.int (0 : Int32)), (.int (0 : Int32)), (.int (0 : Int32)), (.int (0 : Int32)), (.int (0 : Int32)), (.int (0 : Int32)), (.int (0 : Int32)), (.int (0 : Int32))] (.int (0 : Int32)) := Arv.set Ar90 q90 S90 M90 H90 G90 rfl W92 4 rfl (Nat.le_of_ble_eq_true rfl)
  have Z94 := Nat.le_trans Z88 (Keep.of_wr W92).1
  have N95 := Fr.snoc X92 N89 g_b64
  obtain ⟨cl96, Ar96, q96, S96, M96, H96, G96⟩ := id V92
  have hin97 : ¬ ((5 : Int32) < 0 ∨ cl96.slots.size ≤ ((5 : Int32)).toNatClampNeg) := inb_of S96 ⟨by decide, by decide⟩
  obtain ⟨T98, h98, X98, e98, W98, st98⟩ := stI X92 hx hZ e92 Ar96 (j := (5 : Int32)) hin97 (g := (mkF m 35 #[.val (.int p0), .val (.int p1), .unset, .unset, .unset, .unset, .unset, .unset] [(.int (8232 : Int32)), (.int (5 : Int32)), (.ref b64), (.ref b64)])) rfl rfl (hb hby at_35)
  have V98 : Arv Z h98 b64 k64 .int (15 : Int32) [(.int (32 : Int32)), (.int (9 : Int32)), (.int (13 : Int32)), (.int (10 : Int32)), (.int (133 : Int32)), (.int (8232 : Int32)), (.int (0 : Int32)), (.int (0 : Int32)), (.int (0 : Int32)), (.int (0 : Int32)), (.int (0 : Int32)), (.int (0 : Int32)), (.int (0 : Int32)), (.int (0 : Int32)), (.int (0 : Int32))] (.int (0 : Int32)) := Arv.set Ar96 q96 S96 M96 H96 G96 rfl W98 5 rfl (Nat.le_of_ble_eq_true rfl)
  have Z100 := Nat.le_trans Z94 (Keep.of_wr W98).1
  have N101 := Fr.snoc X98 N95 g_b64
  obtain ⟨cl102, Ar102, q102, S102, M102, H102, G102⟩ := id V98
  have hin103 : ¬ ((6 : Int32) < 0 ∨ cl102.slots.size ≤ ((6 : Int32)).toNatClampNeg) := inb_of S102 ⟨by decide, by decide⟩
  obtain ⟨T104, h104, X104, e104, W104, st104⟩ := stI X98 hx hZ e98 Ar102 (j := (6 : Int32)) hin103 (g := (mkF m 41 #[.val (.int p0), .val (.int p1), .unset, .unset, .unset, .unset, .unset, .unset] [(.int (11 : Int32)), (.int (6 : Int32)), (.ref b64), (.ref b64)])) rfl rfl (hb hby at_41)
  have V104 : Arv Z h104 b64 k64 .int (15 : Int32) [(.int (32 : Int32)), (.int (9 : Int32)), (.int (13 : Int32)), (.int (10 : Int32)), (.int (133 : Int32)), (.int (8232 : Int32)), (.int (11 : Int32)), (.int (0 : Int32)), (.int (0 : Int32)), (.int (0 : Int32)), (.int (0 : Int32)), (.int (0 : Int32)), (.int (0 : Int32)), (.int (0 : Int32)), (.int (0 : Int32))] (.int (0 : Int32)) := Arv.set Ar102 q102 S102 M102 H102 G102 rfl W104 6 rfl (Nat.le_of_ble_eq_true rfl)
  have Z106 := Nat.le_trans Z100 (Keep.of_wr W104).1
  have N107 := Fr.snoc X104 N101 g_b64
  obtain ⟨cl108, Ar108, q108, S108, M108, H108, G108⟩ := id V104
  have hin109 : ¬ ((7 : Int32) < 0 ∨ cl108.slots.size ≤ ((7 : Int32)).toNatClampNeg) := inb_of S108 ⟨by decide, by decide⟩
  obtain ⟨T110, h110, X110, e110, W110, st110⟩ := stI X104 hx hZ e104 Ar108 (j := (7 : Int32)) hin109 (g := (mkF m 47 #[.val (.int p0), .val (.int p1), .unset, .unset, .unset, .unset, .unset, .unset] [(.int (12 : Int32)), (.int (7 : Int32)), (.ref b64), (.ref b64)])) rfl rfl (hb hby at_47)
  have V110 : Arv Z h110 b64 k64 .int (15 : Int32) [(.int (32 : Int32)), (.int (9 : Int32)), (.int (13 : Int32)), (.int (10 : Int32)), (.int (133 : Int32)), (.int (8232 : Int32)), (.int (11 : Int32)), (.int (12 : Int32)), (.int (0 : Int32)), (.int (0 : Int32)), (.int (0 : Int32)), (.int (0 : Int32)), (.int (0 : Int32)), (.int (0 : Int32)), (.int (0 : Int32))] (.int (0 : Int32)) := Arv.set Ar108 q108 S108 M108 H108 G108 rfl W110 7 rfl (Nat.le_of_ble_eq_true rfl)
  have Z112 := Nat.le_trans Z106 (Keep.of_wr W110).1
  have N113 := Fr.snoc X110 N107 g_b64
  obtain ⟨cl114, Ar114, q114, S114, M114, H114, G114⟩ := id V110
  have hin115 : ¬ ((8 : Int32) < 0 ∨ cl114.slots.size ≤ ((8 : Int32)).toNatClampNeg) := inb_of S114 ⟨by decide, by decide⟩
  obtain ⟨T116, h116, X116, e116, W116, st116⟩ := stI X110 hx hZ e110 Ar114 (j := (8 : Int32)) hin115 (g := (mkF m 53 #[.val (.int p0), .val (.int p1), .unset, .unset, .unset, .unset, .unset, .unset] [(.int (31 : Int32)), (.int (8 : Int32)), (.ref b64), (.ref b64)])) rfl rfl (hb hby at_53)
  have V116 : Arv Z h116 b64 k64 .int (15 : Int32) [(.int (32 : Int32)), (.int (9 : Int32)), (.int (13 : Int32)), (.int (10 : Int32)), (.int (133 : Int32)), (.int (8232 : Int32)), (.int (11 : Int32)), (.int (12 : Int32)), (.int (31 : Int32)), (.int (0 : Int32)), (.int (0 : Int32)), (.int (0 : Int32)), (.int (0 : Int32)), (.int (0 : Int32)), (.int (0 : Int32))] (.int (0 : Int32)) := Arv.set Ar114 q114 S114 M114 H114 G114 rfl W116 8 rfl (Nat.le_of_ble_eq_true rfl)
  have Z118 := Nat.le_trans Z112 (Keep.of_wr W116).1
  have N119 := Fr.snoc X116 N113 g_b64
  obtain ⟨cl120, Ar120, q120, S120, M120, H120, G120⟩ := id V116
  have hin121 : ¬ ((9 : Int32) < 0 ∨ cl120.slots.size ≤ ((9 : Int32)).toNatClampNeg) := inb_of S120 ⟨by decide, by decide⟩
  obtain ⟨T122, h122, X122, e122, W122, st122⟩ := stI X116 hx hZ e116 Ar120 (j := (9 : Int32)) hin121 (g := (mkF m 59 #[.val (.int p0), .val (.int p1), .unset, .unset, .unset, .unset, .unset, .unset] [(.int (33 : Int32)), (.int (9 : Int32)), (.ref b64), (.ref b64)])) rfl rfl (hb hby at_59)
  have V122 : Arv Z h122 b64 k64 .int (15 : Int32) [(.int (32 : Int32)), (.int (9 : Int32)), (.int (13 : Int32)), (.int (10 : Int32)), (.int (133 : Int32)), (.int (8232 : Int32)), (.int (11 : Int32)), (.int (12 : Int32)), (.int (31 : Int32)), (.int (33 : Int32)), (.int (0 : Int32)), (.int (0 : Int32)), (.int (0 : Int32)), (.int (0 : Int32)), (.int (0 : Int32))] (.int (0 : Int32)) := Arv.set Ar120 q120 S120 M120 H120 G120 rfl W122 9 rfl (Nat.le_of_ble_eq_true rfl)
  have Z124 := Nat.le_trans Z118 (Keep.of_wr W122).1
  have N125 := Fr.snoc X122 N119 g_b64
  obtain ⟨cl126, Ar126, q126, S126, M126, H126, G126⟩ := id V122
  have hin127 : ¬ ((10 : Int32) < 0 ∨ cl126.slots.size ≤ ((10 : Int32)).toNatClampNeg) := inb_of S126 ⟨by decide, by decide⟩
  obtain ⟨T128, h128, X128, e128, W128, st128⟩ := stI X122 hx hZ e122 Ar126 (j := (10 : Int32)) hin127 (g := (mkF m 66 #[.val (.int p0), .val (.int p1), .unset, .unset, .unset, .unset, .unset, .unset] [(.int (160 : Int32)), (.int (10 : Int32)), (.ref b64), (.ref b64)])) rfl rfl (hb hby at_66)
  have V128 : Arv Z h128 b64 k64 .int (15 : Int32) [(.int (32 : Int32)), (.int (9 : Int32)), (.int (13 : Int32)), (.int (10 : Int32)), (.int (133 : Int32)), (.int (8232 : Int32)), (.int (11 : Int32)), (.int (12 : Int32)), (.int (31 : Int32)), (.int (33 : Int32)), (.int (160 : Int32)), (.int (0 : Int32)), (.int (0 : Int32)), (.int (0 : Int32)), (.int (0 : Int32))] (.int (0 : Int32)) := Arv.set Ar126 q126 S126 M126 H126 G126 rfl W128 10 rfl (Nat.le_of_ble_eq_true rfl)
  have Z130 := Nat.le_trans Z124 (Keep.of_wr W128).1
  have N131 := Fr.snoc X128 N125 g_b64
  obtain ⟨cl132, Ar132, q132, S132, M132, H132, G132⟩ := id V128
  have hin133 : ¬ ((11 : Int32) < 0 ∨ cl132.slots.size ≤ ((11 : Int32)).toNatClampNeg) := inb_of S132 ⟨by decide, by decide⟩
  obtain ⟨T134, h134, X134, e134, W134, st134⟩ := stI X128 hx hZ e128 Ar132 (j := (11 : Int32)) hin133 (g := (mkF m 73 #[.val (.int p0), .val (.int p1), .unset, .unset, .unset, .unset, .unset, .unset] [(.int (8233 : Int32)), (.int (11 : Int32)), (.ref b64), (.ref b64)])) rfl rfl (hb hby at_73)
  have V134 : Arv Z h134 b64 k64 .int (15 : Int32) [(.int (32 : Int32)), (.int (9 : Int32)), (.int (13 : Int32)), (.int (10 : Int32)), (.int (133 : Int32)), (.int (8232 : Int32)), (.int (11 : Int32)), (.int (12 : Int32)), (.int (31 : Int32)), (.int (33 : Int32)), (.int (160 : Int32)), (.int (8233 : Int32)), (.int (0 : Int32)), (.int (0 : Int32)), (.int (0 : Int32))] (.int (0 : Int32)) := Arv.set Ar132 q132 S132 M132 H132 G132 rfl W134 11 rfl (Nat.le_of_ble_eq_true rfl)
  have Z136 := Nat.le_trans Z130 (Keep.of_wr W134).1
  have N137 := Fr.snoc X134 N131 g_b64
  obtain ⟨cl138, Ar138, q138, S138, M138, H138, G138⟩ := id V134
  have hin139 : ¬ ((12 : Int32) < 0 ∨ cl138.slots.size ≤ ((12 : Int32)).toNatClampNeg) := inb_of S138 ⟨by decide, by decide⟩
  obtain ⟨T140, h140, X140, e140, W140, st140⟩ := stI X134 hx hZ e134 Ar138 (j := (12 : Int32)) hin139 (g := (mkF m 78 #[.val (.int p0), .val (.int p1), .unset, .unset, .unset, .unset, .unset, .unset] [(.int (0 : Int32)), (.int (12 : Int32)), (.ref b64), (.ref b64)])) rfl rfl (hb hby at_78)
  have V140 : Arv Z h140 b64 k64 .int (15 : Int32) [(.int (32 : Int32)), (.int (9 : Int32)), (.int (13 : Int32)), (.int (10 : Int32)), (.int (133 : Int32)), (.int (8232 : Int32)), (.int (11 : Int32)), (.int (12 : Int32)), (.int (31 : Int32)), (.int (33 : Int32)), (.int (160 : Int32)), (.int (8233 : Int32)), (.int (0 : Int32)), (.int (0 : Int32)), (.int (0 : Int32))] (.int (0 : Int32)) := Arv.set Ar138 q138 S138 M138 H138 G138 rfl W140 12 rfl (Nat.le_of_ble_eq_true rfl)
  have Z142 := Nat.le_trans Z136 (Keep.of_wr W140).1
  have N143 := Fr.snoc X140 N137 g_b64
  obtain ⟨cl144, Ar144, q144, S144, M144, H144, G144⟩ := id V140
  have hin145 : ¬ ((13 : Int32) < 0 ∨ cl144.slots.size ≤ ((13 : Int32)).toNatClampNeg) := inb_of S144 ⟨by decide, by decide⟩
  obtain ⟨T146, h146, X146, e146, W146, st146⟩ := stI X140 hx hZ e140 Ar144 (j := (13 : Int32)) hin145 (g := (mkF m 85 #[.val (.int p0), .val (.int p1), .unset, .unset, .unset, .unset, .unset, .unset] [(.int (132 : Int32)), (.int (13 : Int32)), (.ref b64), (.ref b64)])) rfl rfl (hb hby at_85)
  have V146 : Arv Z h146 b64 k64 .int (15 : Int32) [(.int (32 : Int32)), (.int (9 : Int32)), (.int (13 : Int32)), (.int (10 : Int32)), (.int (133 : Int32)), (.int (8232 : Int32)), (.int (11 : Int32)), (.int (12 : Int32)), (.int (31 : Int32)), (.int (33 : Int32)), (.int (160 : Int32)), (.int (8233 : Int32)), (.int (0 : Int32)), (.int (132 : Int32)), (.int (0 : Int32))] (.int (0 : Int32)) := Arv.set Ar144 q144 S144 M144 H144 G144 rfl W146 13 rfl (Nat.le_of_ble_eq_true rfl)
  have Z148 := Nat.le_trans Z142 (Keep.of_wr W146).1
  have N149 := Fr.snoc X146 N143 g_b64
  obtain ⟨cl150, Ar150, q150, S150, M150, H150, G150⟩ := id V146
  have hin151 : ¬ ((14 : Int32) < 0 ∨ cl150.slots.size ≤ ((14 : Int32)).toNatClampNeg) := inb_of S150 ⟨by decide, by decide⟩
  obtain ⟨T152, h152, X152, e152, W152, st152⟩ := stI X146 hx hZ e146 Ar150 (j := (14 : Int32)) hin151 (g := (mkF m 91 #[.val (.int p0), .val (.int p1), .unset, .unset, .unset, .unset, .unset, .unset] [(.int (65535 : Int32)), (.int (14 : Int32)), (.ref b64), (.ref b64)])) rfl rfl (hb hby at_91)
  have V152 : Arv Z h152 b64 k64 .int (15 : Int32) [(.int (32 : Int32)), (.int (9 : Int32)), (.int (13 : Int32)), (.int (10 : Int32)), (.int (133 : Int32)), (.int (8232 : Int32)), (.int (11 : Int32)), (.int (12 : Int32)), (.int (31 : Int32)), (.int (33 : Int32)), (.int (160 : Int32)), (.int (8233 : Int32)), (.int (0 : Int32)), (.int (132 : Int32)), (.int (65535 : Int32))] (.int (0 : Int32)) := Arv.set Ar150 q150 S150 M150 H150 G150 rfl W152 14 rfl (Nat.le_of_ble_eq_true rfl)
  have Z154 := Nat.le_trans Z148 (Keep.of_wr W152).1
  have N155 := Fr.snoc X152 N149 g_b64
  have pre159 := fun (t : State) (k : Steps p.tables e below (T152.setTop (mkF m 101 #[.val (.int p0), .val (.int p1), .val (.ref b64), .val (.int (p0 &&& (15 : Int32))), .unset, .unset, .unset, .unset] [(.int (15 : Int32)), (.int (p0 &&& (15 : Int32)))])) t) => pre0 t (by
    show Steps p.tables e below (s₁.setTop (mkF m 0 #[.val (.int p0), .val (.int p1), .unset, .unset, .unset, .unset, .unset, .unset] [])) _
    refine XS.bipush X0.here hx rfl (hb hby at_0) ?_
    show Steps p.tables e below (s₁.setTop (mkF m 2 #[.val (.int p0), .val (.int p1), .unset, .unset, .unset, .unset, .unset, .unset] [(.int (15 : Int32))])) _
    refine st64 _ ?_
    show Steps p.tables e below (T64.setTop (mkF m 4 #[.val (.int p0), .val (.int p1), .unset, .unset, .unset, .unset, .unset, .unset] [(.ref b64)])) _
    refine XS.dup X64.here hx rfl (hb hby at_4) rfl rfl ?_
    show Steps p.tables e below (T64.setTop (mkF m 5 #[.val (.int p0), .val (.int p1), .unset, .unset, .unset, .unset, .unset, .unset] [(.ref b64), (.ref b64)])) _
    refine XS.iconst X64.here hx rfl (hb hby at_5) ?_
    show Steps p.tables e below (T64.setTop (mkF m 6 #[.val (.int p0), .val (.int p1), .unset, .unset, .unset, .unset, .unset, .unset] [(.int (0 : Int32)), (.ref b64), (.ref b64)])) _
    refine XS.bipush X64.here hx rfl (hb hby at_6) ?_
    show Steps p.tables e below (T64.setTop (mkF m 8 #[.val (.int p0), .val (.int p1), .unset, .unset, .unset, .unset, .unset, .unset] [(.int (32 : Int32)), (.int (0 : Int32)), (.ref b64), (.ref b64)])) _
    refine st68 _ ?_
    show Steps p.tables e below (T68.setTop (mkF m 9 #[.val (.int p0), .val (.int p1), .unset, .unset, .unset, .unset, .unset, .unset] [(.ref b64)])) _
    refine XS.dup X68.here hx rfl (hb hby at_9) rfl rfl ?_
    show Steps p.tables e below (T68.setTop (mkF m 10 #[.val (.int p0), .val (.int p1), .unset, .unset, .unset, .unset, .unset, .unset] [(.ref b64), (.ref b64)])) _
    refine XS.iconst X68.here hx rfl (hb hby at_10) ?_
    show Steps p.tables e below (T68.setTop (mkF m 11 #[.val (.int p0), .val (.int p1), .unset, .unset, .unset, .unset, .unset, .unset] [(.int (1 : Int32)), (.ref b64), (.ref b64)])) _
    refine XS.bipush X68.here hx rfl (hb hby at_11) ?_
    show Steps p.tables e below (T68.setTop (mkF m 13 #[.val (.int p0), .val (.int p1), .unset, .unset, .unset, .unset, .unset, .unset] [(.int (9 : Int32)), (.int (1 : Int32)), (.ref b64), (.ref b64)])) _
    refine st74 _ ?_
    show Steps p.tables e below (T74.setTop (mkF m 14 #[.val (.int p0), .val (.int p1), .unset, .unset, .unset, .unset, .unset, .unset] [(.ref b64)])) _
    refine XS.dup X74.here hx rfl (hb hby at_14) rfl rfl ?_
    show Steps p.tables e below (T74.setTop (mkF m 15 #[.val (.int p0), .val (.int p1), .unset, .unset, .unset, .unset, .unset, .unset] [(.ref b64), (.ref b64)])) _
    refine XS.iconst X74.here hx rfl (hb hby at_15) ?_
    show Steps p.tables e below (T74.setTop (mkF m 16 #[.val (.int p0), .val (.int p1), .unset, .unset, .unset, .unset, .unset, .unset] [(.int (2 : Int32)), (.ref b64), (.ref b64)])) _
    refine XS.bipush X74.here hx rfl (hb hby at_16) ?_
    show Steps p.tables e below (T74.setTop (mkF m 18 #[.val (.int p0), .val (.int p1), .unset, .unset, .unset, .unset, .unset, .unset] [(.int (13 : Int32)), (.int (2 : Int32)), (.ref b64), (.ref b64)])) _
    refine st80 _ ?_
    show Steps p.tables e below (T80.setTop (mkF m 19 #[.val (.int p0), .val (.int p1), .unset, .unset, .unset, .unset, .unset, .unset] [(.ref b64)])) _
    refine XS.dup X80.here hx rfl (hb hby at_19) rfl rfl ?_
    show Steps p.tables e below (T80.setTop (mkF m 20 #[.val (.int p0), .val (.int p1), .unset, .unset, .unset, .unset, .unset, .unset] [(.ref b64), (.ref b64)])) _
    refine XS.iconst X80.here hx rfl (hb hby at_20) ?_
    show Steps p.tables e below (T80.setTop (mkF m 21 #[.val (.int p0), .val (.int p1), .unset, .unset, .unset, .unset, .unset, .unset] [(.int (3 : Int32)), (.ref b64), (.ref b64)])) _
    refine XS.bipush X80.here hx rfl (hb hby at_21) ?_
    show Steps p.tables e below (T80.setTop (mkF m 23 #[.val (.int p0), .val (.int p1), .unset, .unset, .unset, .unset, .unset, .unset] [(.int (10 : Int32)), (.int (3 : Int32)), (.ref b64), (.ref b64)])) _
    refine st86 _ ?_
    show Steps p.tables e below (T86.setTop (mkF m 24 #[.val (.int p0), .val (.int p1), .unset, .unset, .unset, .unset, .unset, .unset] [(.ref b64)])) _
    refine XS.dup X86.here hx rfl (hb hby at_24) rfl rfl ?_
    show Steps p.tables e below (T86.setTop (mkF m 25 #[.val (.int p0), .val (.int p1), .unset, .unset, .unset, .unset, .unset, .unset] [(.ref b64), (.ref b64)])) _
    refine XS.iconst X86.here hx rfl (hb hby at_25) ?_
    show Steps p.tables e below (T86.setTop (mkF m 26 #[.val (.int p0), .val (.int p1), .unset, .unset, .unset, .unset, .unset, .unset] [(.int (4 : Int32)), (.ref b64), (.ref b64)])) _
    refine XS.sipush X86.here hx rfl (hb hby at_26) ?_
    show Steps p.tables e below (T86.setTop (mkF m 29 #[.val (.int p0), .val (.int p1), .unset, .unset, .unset, .unset, .unset, .unset] [(.int (133 : Int32)), (.int (4 : Int32)), (.ref b64), (.ref b64)])) _
    refine st92 _ ?_
    show Steps p.tables e below (T92.setTop (mkF m 30 #[.val (.int p0), .val (.int p1), .unset, .unset, .unset, .unset, .unset, .unset] [(.ref b64)])) _
    refine XS.dup X92.here hx rfl (hb hby at_30) rfl rfl ?_
    show Steps p.tables e below (T92.setTop (mkF m 31 #[.val (.int p0), .val (.int p1), .unset, .unset, .unset, .unset, .unset, .unset] [(.ref b64), (.ref b64)])) _
    refine XS.iconst X92.here hx rfl (hb hby at_31) ?_
    show Steps p.tables e below (T92.setTop (mkF m 32 #[.val (.int p0), .val (.int p1), .unset, .unset, .unset, .unset, .unset, .unset] [(.int (5 : Int32)), (.ref b64), (.ref b64)])) _
    refine XS.sipush X92.here hx rfl (hb hby at_32) ?_
    show Steps p.tables e below (T92.setTop (mkF m 35 #[.val (.int p0), .val (.int p1), .unset, .unset, .unset, .unset, .unset, .unset] [(.int (8232 : Int32)), (.int (5 : Int32)), (.ref b64), (.ref b64)])) _
    refine st98 _ ?_
    show Steps p.tables e below (T98.setTop (mkF m 36 #[.val (.int p0), .val (.int p1), .unset, .unset, .unset, .unset, .unset, .unset] [(.ref b64)])) _
    refine XS.dup X98.here hx rfl (hb hby at_36) rfl rfl ?_
    show Steps p.tables e below (T98.setTop (mkF m 37 #[.val (.int p0), .val (.int p1), .unset, .unset, .unset, .unset, .unset, .unset] [(.ref b64), (.ref b64)])) _
    refine XS.bipush X98.here hx rfl (hb hby at_37) ?_
    show Steps p.tables e below (T98.setTop (mkF m 39 #[.val (.int p0), .val (.int p1), .unset, .unset, .unset, .unset, .unset, .unset] [(.int (6 : Int32)), (.ref b64), (.ref b64)])) _
    refine XS.bipush X98.here hx rfl (hb hby at_39) ?_
    show Steps p.tables e below (T98.setTop (mkF m 41 #[.val (.int p0), .val (.int p1), .unset, .unset, .unset, .unset, .unset, .unset] [(.int (11 : Int32)), (.int (6 : Int32)), (.ref b64), (.ref b64)])) _
    refine st104 _ ?_
    show Steps p.tables e below (T104.setTop (mkF m 42 #[.val (.int p0), .val (.int p1), .unset, .unset, .unset, .unset, .unset, .unset] [(.ref b64)])) _
    refine XS.dup X104.here hx rfl (hb hby at_42) rfl rfl ?_
    show Steps p.tables e below (T104.setTop (mkF m 43 #[.val (.int p0), .val (.int p1), .unset, .unset, .unset, .unset, .unset, .unset] [(.ref b64), (.ref b64)])) _
    refine XS.bipush X104.here hx rfl (hb hby at_43) ?_
    show Steps p.tables e below (T104.setTop (mkF m 45 #[.val (.int p0), .val (.int p1), .unset, .unset, .unset, .unset, .unset, .unset] [(.int (7 : Int32)), (.ref b64), (.ref b64)])) _
    refine XS.bipush X104.here hx rfl (hb hby at_45) ?_
    show Steps p.tables e below (T104.setTop (mkF m 47 #[.val (.int p0), .val (.int p1), .unset, .unset, .unset, .unset, .unset, .unset] [(.int (12 : Int32)), (.int (7 : Int32)), (.ref b64), (.ref b64)])) _
    refine st110 _ ?_
    show Steps p.tables e below (T110.setTop (mkF m 48 #[.val (.int p0), .val (.int p1), .unset, .unset, .unset, .unset, .unset, .unset] [(.ref b64)])) _
    refine XS.dup X110.here hx rfl (hb hby at_48) rfl rfl ?_
    show Steps p.tables e below (T110.setTop (mkF m 49 #[.val (.int p0), .val (.int p1), .unset, .unset, .unset, .unset, .unset, .unset] [(.ref b64), (.ref b64)])) _
    refine XS.bipush X110.here hx rfl (hb hby at_49) ?_
    show Steps p.tables e below (T110.setTop (mkF m 51 #[.val (.int p0), .val (.int p1), .unset, .unset, .unset, .unset, .unset, .unset] [(.int (8 : Int32)), (.ref b64), (.ref b64)])) _
    refine XS.bipush X110.here hx rfl (hb hby at_51) ?_
    show Steps p.tables e below (T110.setTop (mkF m 53 #[.val (.int p0), .val (.int p1), .unset, .unset, .unset, .unset, .unset, .unset] [(.int (31 : Int32)), (.int (8 : Int32)), (.ref b64), (.ref b64)])) _
    refine st116 _ ?_
    show Steps p.tables e below (T116.setTop (mkF m 54 #[.val (.int p0), .val (.int p1), .unset, .unset, .unset, .unset, .unset, .unset] [(.ref b64)])) _
    refine XS.dup X116.here hx rfl (hb hby at_54) rfl rfl ?_
    show Steps p.tables e below (T116.setTop (mkF m 55 #[.val (.int p0), .val (.int p1), .unset, .unset, .unset, .unset, .unset, .unset] [(.ref b64), (.ref b64)])) _
    refine XS.bipush X116.here hx rfl (hb hby at_55) ?_
    show Steps p.tables e below (T116.setTop (mkF m 57 #[.val (.int p0), .val (.int p1), .unset, .unset, .unset, .unset, .unset, .unset] [(.int (9 : Int32)), (.ref b64), (.ref b64)])) _
    refine XS.bipush X116.here hx rfl (hb hby at_57) ?_
    show Steps p.tables e below (T116.setTop (mkF m 59 #[.val (.int p0), .val (.int p1), .unset, .unset, .unset, .unset, .unset, .unset] [(.int (33 : Int32)), (.int (9 : Int32)), (.ref b64), (.ref b64)])) _
    refine st122 _ ?_
    show Steps p.tables e below (T122.setTop (mkF m 60 #[.val (.int p0), .val (.int p1), .unset, .unset, .unset, .unset, .unset, .unset] [(.ref b64)])) _
    refine XS.dup X122.here hx rfl (hb hby at_60) rfl rfl ?_
    show Steps p.tables e below (T122.setTop (mkF m 61 #[.val (.int p0), .val (.int p1), .unset, .unset, .unset, .unset, .unset, .unset] [(.ref b64), (.ref b64)])) _
    refine XS.bipush X122.here hx rfl (hb hby at_61) ?_
    show Steps p.tables e below (T122.setTop (mkF m 63 #[.val (.int p0), .val (.int p1), .unset, .unset, .unset, .unset, .unset, .unset] [(.int (10 : Int32)), (.ref b64), (.ref b64)])) _
    refine XS.sipush X122.here hx rfl (hb hby at_63) ?_
    show Steps p.tables e below (T122.setTop (mkF m 66 #[.val (.int p0), .val (.int p1), .unset, .unset, .unset, .unset, .unset, .unset] [(.int (160 : Int32)), (.int (10 : Int32)), (.ref b64), (.ref b64)])) _
    refine st128 _ ?_
    show Steps p.tables e below (T128.setTop (mkF m 67 #[.val (.int p0), .val (.int p1), .unset, .unset, .unset, .unset, .unset, .unset] [(.ref b64)])) _
    refine XS.dup X128.here hx rfl (hb hby at_67) rfl rfl ?_
    show Steps p.tables e below (T128.setTop (mkF m 68 #[.val (.int p0), .val (.int p1), .unset, .unset, .unset, .unset, .unset, .unset] [(.ref b64), (.ref b64)])) _
    refine XS.bipush X128.here hx rfl (hb hby at_68) ?_
    show Steps p.tables e below (T128.setTop (mkF m 70 #[.val (.int p0), .val (.int p1), .unset, .unset, .unset, .unset, .unset, .unset] [(.int (11 : Int32)), (.ref b64), (.ref b64)])) _
    refine XS.sipush X128.here hx rfl (hb hby at_70) ?_
    show Steps p.tables e below (T128.setTop (mkF m 73 #[.val (.int p0), .val (.int p1), .unset, .unset, .unset, .unset, .unset, .unset] [(.int (8233 : Int32)), (.int (11 : Int32)), (.ref b64), (.ref b64)])) _
    refine st134 _ ?_
    show Steps p.tables e below (T134.setTop (mkF m 74 #[.val (.int p0), .val (.int p1), .unset, .unset, .unset, .unset, .unset, .unset] [(.ref b64)])) _
    refine XS.dup X134.here hx rfl (hb hby at_74) rfl rfl ?_
    show Steps p.tables e below (T134.setTop (mkF m 75 #[.val (.int p0), .val (.int p1), .unset, .unset, .unset, .unset, .unset, .unset] [(.ref b64), (.ref b64)])) _
    refine XS.bipush X134.here hx rfl (hb hby at_75) ?_
    show Steps p.tables e below (T134.setTop (mkF m 77 #[.val (.int p0), .val (.int p1), .unset, .unset, .unset, .unset, .unset, .unset] [(.int (12 : Int32)), (.ref b64), (.ref b64)])) _
    refine XS.iconst X134.here hx rfl (hb hby at_77) ?_
    show Steps p.tables e below (T134.setTop (mkF m 78 #[.val (.int p0), .val (.int p1), .unset, .unset, .unset, .unset, .unset, .unset] [(.int (0 : Int32)), (.int (12 : Int32)), (.ref b64), (.ref b64)])) _
    refine st140 _ ?_
    show Steps p.tables e below (T140.setTop (mkF m 79 #[.val (.int p0), .val (.int p1), .unset, .unset, .unset, .unset, .unset, .unset] [(.ref b64)])) _
    refine XS.dup X140.here hx rfl (hb hby at_79) rfl rfl ?_
    show Steps p.tables e below (T140.setTop (mkF m 80 #[.val (.int p0), .val (.int p1), .unset, .unset, .unset, .unset, .unset, .unset] [(.ref b64), (.ref b64)])) _
    refine XS.bipush X140.here hx rfl (hb hby at_80) ?_
    show Steps p.tables e below (T140.setTop (mkF m 82 #[.val (.int p0), .val (.int p1), .unset, .unset, .unset, .unset, .unset, .unset] [(.int (13 : Int32)), (.ref b64), (.ref b64)])) _
    refine XS.sipush X140.here hx rfl (hb hby at_82) ?_
    show Steps p.tables e below (T140.setTop (mkF m 85 #[.val (.int p0), .val (.int p1), .unset, .unset, .unset, .unset, .unset, .unset] [(.int (132 : Int32)), (.int (13 : Int32)), (.ref b64), (.ref b64)])) _
    refine st146 _ ?_
    show Steps p.tables e below (T146.setTop (mkF m 86 #[.val (.int p0), .val (.int p1), .unset, .unset, .unset, .unset, .unset, .unset] [(.ref b64)])) _
    refine XS.dup X146.here hx rfl (hb hby at_86) rfl rfl ?_
    show Steps p.tables e below (T146.setTop (mkF m 87 #[.val (.int p0), .val (.int p1), .unset, .unset, .unset, .unset, .unset, .unset] [(.ref b64), (.ref b64)])) _
    refine XS.bipush X146.here hx rfl (hb hby at_87) ?_
    show Steps p.tables e below (T146.setTop (mkF m 89 #[.val (.int p0), .val (.int p1), .unset, .unset, .unset, .unset, .unset, .unset] [(.int (14 : Int32)), (.ref b64), (.ref b64)])) _
    refine X146.ldcInt hx hown (mvT hZ (hw _ (List.mem_of_getElem? (i := 1) rfl))) (g := (mkF m 89 #[.val (.int p0), .val (.int p1), .unset, .unset, .unset, .unset, .unset, .unset] [(.int (14 : Int32)), (.ref b64), (.ref b64)])) rfl (hb hby at_89) _ ?_
    show Steps p.tables e below (T146.setTop (mkF m 91 #[.val (.int p0), .val (.int p1), .unset, .unset, .unset, .unset, .unset, .unset] [(.int (65535 : Int32)), (.int (14 : Int32)), (.ref b64), (.ref b64)])) _
    refine st152 _ ?_
    show Steps p.tables e below (T152.setTop (mkF m 92 #[.val (.int p0), .val (.int p1), .unset, .unset, .unset, .unset, .unset, .unset] [(.ref b64)])) _
    refine XS.astoreN X152.here hx rfl (hb hby at_92) rfl rfl (l' := #[.val (.int p0), .val (.int p1), .val (.ref b64), .unset, .unset, .unset, .unset, .unset]) rfl ?_
    show Steps p.tables e below (T152.setTop (mkF m 93 #[.val (.int p0), .val (.int p1), .val (.ref b64), .unset, .unset, .unset, .unset, .unset] [])) _
    refine XS.iloadN X152.here hx rfl (hb hby at_93) rfl ?_
    show Steps p.tables e below (T152.setTop (mkF m 94 #[.val (.int p0), .val (.int p1), .val (.ref b64), .unset, .unset, .unset, .unset, .unset] [(.int p0)])) _
    refine XS.bipush X152.here hx rfl (hb hby at_94) ?_
    show Steps p.tables e below (T152.setTop (mkF m 96 #[.val (.int p0), .val (.int p1), .val (.ref b64), .unset, .unset, .unset, .unset, .unset] [(.int (15 : Int32)), (.int p0)])) _
    refine XS.iand X152.here hx rfl (hb hby at_96) rfl ?_
    show Steps p.tables e below (T152.setTop (mkF m 97 #[.val (.int p0), .val (.int p1), .val (.ref b64), .unset, .unset, .unset, .unset, .unset] [(.int (p0 &&& (15 : Int32)))])) _
    refine XS.istoreN X152.here hx rfl (hb hby at_97) rfl (l' := #[.val (.int p0), .val (.int p1), .val (.ref b64), .val (.int (p0 &&& (15 : Int32))), .unset, .unset, .unset, .unset]) rfl ?_
    show Steps p.tables e below (T152.setTop (mkF m 98 #[.val (.int p0), .val (.int p1), .val (.ref b64), .val (.int (p0 &&& (15 : Int32))), .unset, .unset, .unset, .unset] [])) _
    refine XS.iloadN X152.here hx rfl (hb hby at_98) rfl ?_
    show Steps p.tables e below (T152.setTop (mkF m 99 #[.val (.int p0), .val (.int p1), .val (.ref b64), .val (.int (p0 &&& (15 : Int32))), .unset, .unset, .unset, .unset] [(.int (p0 &&& (15 : Int32)))])) _
    refine XS.bipush X152.here hx rfl (hb hby at_99) ?_
    exact k)
  have pre160 := fun (t : State) (k : Steps p.tables e below (T152.setTop (mkF m 114 #[.val (.int p0), .val (.int p1), .val (.ref b64), .val (.int (p0 &&& (15 : Int32))), .unset, .unset, .unset, .unset] [(.int (j0_0 p0 p1))])) t) => pre159 t (by
    by_cases hc161 : (p0 &&& (15 : Int32)) < (15 : Int32)
    · skip
      obtain ⟨cl162, Ar162, q162, S162, M162, H162, G162⟩ := id V152
      have hin163 : ¬ ((p0 &&& (15 : Int32)) < 0 ∨ cl162.slots.size ≤ ((p0 &&& (15 : Int32))).toNatClampNeg) := inb_of S162 ⟨own_k0 p0, hc161⟩
      have hat164 : cl162.slots[((p0 &&& (15 : Int32))).toNatClampNeg]? = some (.int (own_sp (p0 &&& (15 : Int32)))) := H162.at hin163 (own_get (p0 &&& (15 : Int32)))
      show Steps p.tables e below (T152.setTop (mkF m 101 #[.val (.int p0), .val (.int p1), .val (.ref b64), .val (.int (p0 &&& (15 : Int32))), .unset, .unset, .unset, .unset] [(.int (15 : Int32)), (.int (p0 &&& (15 : Int32)))])) _
      refine XS.icmpNo X152.here hx rfl (hb hby at_101) rfl (tlt hc161).2.1 ?_
      show Steps p.tables e below (T152.setTop (mkF m 104 #[.val (.int p0), .val (.int p1), .val (.ref b64), .val (.int (p0 &&& (15 : Int32))), .unset, .unset, .unset, .unset] [])) _
      refine XS.aloadN X152.here hx rfl (hb hby at_104) rfl rfl ?_
      show Steps p.tables e below (T152.setTop (mkF m 105 #[.val (.int p0), .val (.int p1), .val (.ref b64), .val (.int (p0 &&& (15 : Int32))), .unset, .unset, .unset, .unset] [(.ref b64)])) _
      refine XS.iloadN X152.here hx rfl (hb hby at_105) rfl ?_
      show Steps p.tables e below (T152.setTop (mkF m 106 #[.val (.int p0), .val (.int p1), .val (.ref b64), .val (.int (p0 &&& (15 : Int32))), .unset, .unset, .unset, .unset] [(.int (p0 &&& (15 : Int32))), (.ref b64)])) _
      refine X152.iaload hx (j := (p0 &&& (15 : Int32))) (v := (.int (own_sp (p0 &&& (15 : Int32))))) (by rw [e152]; exact Ar162.1) (State.isArrayOf_alike hZ.alike Ar162.2.1) Ar162.2.2 hin163 hat164 (g := (mkF m 106 #[.val (.int p0), .val (.int p1), .val (.ref b64), .val (.int (p0 &&& (15 : Int32))), .unset, .unset, .unset, .unset] [(.int (p0 &&& (15 : Int32))), (.ref b64)])) rfl rfl (hb hby at_106) _ ?_
      show Steps p.tables e below (T152.setTop (mkF m 107 #[.val (.int p0), .val (.int p1), .val (.ref b64), .val (.int (p0 &&& (15 : Int32))), .unset, .unset, .unset, .unset] [(.int (own_sp (p0 &&& (15 : Int32))))])) _
      refine XS.goto X152.here hx rfl (pc0 := 107) (pc' := 114) rfl (hb hby at_107) (by decide) (by decide) ?_
      have hj165 : (j0_0 p0 p1) = (own_sp (p0 &&& (15 : Int32))) := by unfold j0_0; first | (rw [if_pos hc161]) | (simp only [if_pos hc161])
      rw [hj165] at k
      exact k
    · skip
      show Steps p.tables e below (T152.setTop (mkF m 101 #[.val (.int p0), .val (.int p1), .val (.ref b64), .val (.int (p0 &&& (15 : Int32))), .unset, .unset, .unset, .unset] [(.int (15 : Int32)), (.int (p0 &&& (15 : Int32)))])) _
      refine XS.icmpYes X152.here hx rfl (pc0 := 101) (pc' := 110) rfl (hb hby at_101) rfl (flt hc161).2.1 (by decide) (by decide) ?_
      show Steps p.tables e below (T152.setTop (mkF m 110 #[.val (.int p0), .val (.int p1), .val (.ref b64), .val (.int (p0 &&& (15 : Int32))), .unset, .unset, .unset, .unset] [])) _
      refine XS.iloadN X152.here hx rfl (hb hby at_110) rfl ?_
      show Steps p.tables e below (T152.setTop (mkF m 111 #[.val (.int p0), .val (.int p1), .val (.ref b64), .val (.int (p0 &&& (15 : Int32))), .unset, .unset, .unset, .unset] [(.int p1)])) _
      refine X152.ldcInt hx hown (mvT hZ (hw _ (List.mem_of_getElem? (i := 1) rfl))) (g := (mkF m 111 #[.val (.int p0), .val (.int p1), .val (.ref b64), .val (.int (p0 &&& (15 : Int32))), .unset, .unset, .unset, .unset] [(.int p1)])) rfl (hb hby at_111) _ ?_
      show Steps p.tables e below (T152.setTop (mkF m 113 #[.val (.int p0), .val (.int p1), .val (.ref b64), .val (.int (p0 &&& (15 : Int32))), .unset, .unset, .unset, .unset] [(.int (65535 : Int32)), (.int p1)])) _
      refine XS.iand X152.here hx rfl (hb hby at_113) rfl ?_
      have hj166 : (j0_0 p0 p1) = (p1 &&& (65535 : Int32)) := by unfold j0_0; first | (rw [if_neg hc161]) | (simp only [if_neg hc161])
      rw [hj166] at k
      exact k)
  obtain ⟨_, _, ⟨T167, L167, k167, n167⟩, -, X167, ⟨Lc167, hQ167, l167, y167, z167⟩, st167⟩ := Jvm.LawKit.callS X152 hx (y := (⟨"com/example/kapsam/kapsam/reader/SubsetScanner", "isSpace", "(CZ)Z"⟩ : MethodName)) hown (mvT hZ (hw _ (List.mem_of_getElem? (i := 2) rfl))) (mvT hZ (hw _ (List.mem_of_getElem? (i := 3) rfl))) (mvT hZ (hw _ (List.mem_of_getElem? (i := 4) rfl))) (mvT hZ (hw _ (List.mem_of_getElem? (i := 5) rfl))) (by decide) (backOf (W := 0) (rm1 l Z aw hw [] (((j0_0 p0 p1).toUInt32.toUInt16.toUInt32.toInt32)) ((0 : Int32)) h152 n0 Z154 ) hZ (hw _ (List.mem_of_getElem? (i := 5) rfl)) (hw _ (List.mem_of_getElem? (i := 4) rfl)) (by decide) (by decide)) (g := (mkF m 124 #[.val (.int p0), .val (.int p1), .val (.ref b64), .val (.int (p0 &&& (15 : Int32))), .val (.int (j0_0 p0 p1)), .val (.int ((j0_0 p0 p1).toUInt32.toUInt16.toUInt32.toInt32)), .unset, .unset] [(.int (0 : Int32)), (.int ((j0_0 p0 p1).toUInt32.toUInt16.toUInt32.toInt32))])) rfl (by rw [hml]; rfl) (argsL := [(.int ((j0_0 p0 p1).toUInt32.toUInt16.toUInt32.toInt32)), (.int (0 : Int32))]) (rest := []) (lenOf pd_2 rfl) rfl (by show 2 * 0 + _ ≤ _; exact Nat.le_of_eq rfl) (hb hby at_124) (fun _ _ => ⟨rfl, e152, (by decide : 1 + 0 ≤ _), (by decide : 15 + 0 ≤ _)⟩)
  dsimp only [Pt.U, Pt.locs, Pt.cells, Pt.slots] at X167 l167 y167 z167 st167 hQ167
  subst l167 y167 z167
  obtain ⟨rfl, N167q, e167⟩ := hQ167
  have N167 := Fr.app N155 N167q
  obtain ⟨_, _, ⟨T168, L168, k168, n168⟩, -, X168, ⟨Lc168, hQ168, l168, y168, z168⟩, st168⟩ := Jvm.LawKit.callS X167 hx (y := (⟨"com/example/kapsam/kapsam/reader/SubsetScanner", "isSpace", "(CZ)Z"⟩ : MethodName)) hown (mvT hZ (hw _ (List.mem_of_getElem? (i := 2) rfl))) (mvT hZ (hw _ (List.mem_of_getElem? (i := 3) rfl))) (mvT hZ (hw _ (List.mem_of_getElem? (i := 4) rfl))) (mvT hZ (hw _ (List.mem_of_getElem? (i := 5) rfl))) (by decide) (backOf (W := 0) (rm1 l Z aw hw [] (((j0_0 p0 p1).toUInt32.toUInt16.toUInt32.toInt32)) ((1 : Int32)) h152 n0 Z154 ) hZ (hw _ (List.mem_of_getElem? (i := 5) rfl)) (hw _ (List.mem_of_getElem? (i := 4) rfl)) (by decide) (by decide)) (g := (mkF m 132 #[.val (.int p0), .val (.int p1), .val (.ref b64), .val (.int (p0 &&& (15 : Int32))), .val (.int (j0_0 p0 p1)), .val (.int ((j0_0 p0 p1).toUInt32.toUInt16.toUInt32.toInt32)), .val (.int (nar .boolean (j1_0 ((j0_0 p0 p1).toUInt32.toUInt16.toUInt32.toInt32) (0 : Int32)))), .unset] [(.int (1 : Int32)), (.int ((j0_0 p0 p1).toUInt32.toUInt16.toUInt32.toInt32))])) rfl (by rw [hml]; rfl) (argsL := [(.int ((j0_0 p0 p1).toUInt32.toUInt16.toUInt32.toInt32)), (.int (1 : Int32))]) (rest := []) (lenOf pd_2 rfl) rfl (by show 2 * 0 + _ ≤ _; exact Nat.le_of_eq rfl) (hb hby at_132) (fun _ _ => ⟨rfl, e167, (by decide : 1 + 0 ≤ _), (by decide : 15 + 0 ≤ _)⟩)
  dsimp only [Pt.U, Pt.locs, Pt.cells, Pt.slots] at X168 l168 y168 z168 st168 hQ168
  subst l168 y168 z168
  obtain ⟨rfl, N168q, e168⟩ := hQ168
  have N168 := Fr.app N167 N168q
  obtain ⟨_, _, ⟨T169, L169, k169, n169⟩, -, X169, ⟨Lc169, hQ169, l169, y169, z169⟩, st169⟩ := Jvm.LawKit.callS X168 hx (y := (⟨"com/example/kapsam/kapsam/reader/SubsetScannerIsSpacePinLaw", "reference", "(IZ)Z"⟩ : MethodName)) hown (mvT hZ (hw _ (List.mem_of_getElem? (i := 6) rfl))) (mvT hZ (hw _ (List.mem_of_getElem? (i := 7) rfl))) (mvT hZ (hw _ (List.mem_of_getElem? (i := 8) rfl))) (mvT hZ (hw _ (List.mem_of_getElem? (i := 9) rfl))) (by decide) (backOf (W := 1) (rm2 l Z aw hw [] ((j0_0 p0 p1)) ((0 : Int32)) h152 n0 Z154 ) hZ (hw _ (List.mem_of_getElem? (i := 9) rfl)) (hw _ (List.mem_of_getElem? (i := 8) rfl)) (by decide) (by decide)) (g := (mkF m 142 #[.val (.int p0), .val (.int p1), .val (.ref b64), .val (.int (p0 &&& (15 : Int32))), .val (.int (j0_0 p0 p1)), .val (.int ((j0_0 p0 p1).toUInt32.toUInt16.toUInt32.toInt32)), .val (.int (nar .boolean (j1_0 ((j0_0 p0 p1).toUInt32.toUInt16.toUInt32.toInt32) (0 : Int32)))), .val (.int (nar .boolean (j1_0 ((j0_0 p0 p1).toUInt32.toUInt16.toUInt32.toInt32) (1 : Int32))))] [(.int (0 : Int32)), (.int (j0_0 p0 p1)), (.int (nar .boolean (j1_0 ((j0_0 p0 p1).toUInt32.toUInt16.toUInt32.toInt32) (0 : Int32))))])) rfl (by rw [hml]; rfl) (argsL := [(.int (j0_0 p0 p1)), (.int (0 : Int32))]) (rest := [(.int (nar .boolean (j1_0 ((j0_0 p0 p1).toUInt32.toUInt16.toUInt32.toInt32) (0 : Int32))))]) (lenOf pd_3 rfl) rfl (by show 2 * 0 + _ ≤ _; exact Nat.le_of_eq rfl) (hb hby at_142) (fun _ _ => ⟨rfl, e168, (by decide : 1 + 0 ≤ _), (by decide : 15 + 0 ≤ _)⟩)
  dsimp only [Pt.U, Pt.locs, Pt.cells, Pt.slots] at X169 l169 y169 z169 st169 hQ169
  subst l169 y169 z169
  obtain ⟨rfl, N169q, e169⟩ := hQ169
  have N169 := Fr.app N168 N169q
  have pre177 := fun (t : State) (k : Steps p.tables e below (T169.setTop (mkF m 145 #[.val (.int p0), .val (.int p1), .val (.ref b64), .val (.int (p0 &&& (15 : Int32))), .val (.int (j0_0 p0 p1)), .val (.int ((j0_0 p0 p1).toUInt32.toUInt16.toUInt32.toInt32)), .val (.int (nar .boolean (j1_0 ((j0_0 p0 p1).toUInt32.toUInt16.toUInt32.toInt32) (0 : Int32)))), .val (.int (nar .boolean (j1_0 ((j0_0 p0 p1).toUInt32.toUInt16.toUInt32.toInt32) (1 : Int32))))] [(.int (v2 (j0_0 p0 p1) (0 : Int32))), (.int (nar .boolean (j1_0 ((j0_0 p0 p1).toUInt32.toUInt16.toUInt32.toInt32) (0 : Int32))))])) t) => pre160 t (by
    show Steps p.tables e below (T152.setTop (mkF m 114 #[.val (.int p0), .val (.int p1), .val (.ref b64), .val (.int (p0 &&& (15 : Int32))), .unset, .unset, .unset, .unset] [(.int (j0_0 p0 p1))])) _
    refine XS.istore X152.here hx rfl (hb hby at_114) rfl (l' := #[.val (.int p0), .val (.int p1), .val (.ref b64), .val (.int (p0 &&& (15 : Int32))), .val (.int (j0_0 p0 p1)), .unset, .unset, .unset]) rfl ?_
    show Steps p.tables e below (T152.setTop (mkF m 116 #[.val (.int p0), .val (.int p1), .val (.ref b64), .val (.int (p0 &&& (15 : Int32))), .val (.int (j0_0 p0 p1)), .unset, .unset, .unset] [])) _
    refine XS.iload X152.here hx rfl (hb hby at_116) rfl ?_
    show Steps p.tables e below (T152.setTop (mkF m 118 #[.val (.int p0), .val (.int p1), .val (.ref b64), .val (.int (p0 &&& (15 : Int32))), .val (.int (j0_0 p0 p1)), .unset, .unset, .unset] [(.int (j0_0 p0 p1))])) _
    refine XS.i2c X152.here hx rfl (hb hby at_118) rfl ?_
    show Steps p.tables e below (T152.setTop (mkF m 119 #[.val (.int p0), .val (.int p1), .val (.ref b64), .val (.int (p0 &&& (15 : Int32))), .val (.int (j0_0 p0 p1)), .unset, .unset, .unset] [(.int ((j0_0 p0 p1).toUInt32.toUInt16.toUInt32.toInt32))])) _
    refine XS.istore X152.here hx rfl (hb hby at_119) rfl (l' := #[.val (.int p0), .val (.int p1), .val (.ref b64), .val (.int (p0 &&& (15 : Int32))), .val (.int (j0_0 p0 p1)), .val (.int ((j0_0 p0 p1).toUInt32.toUInt16.toUInt32.toInt32)), .unset, .unset]) rfl ?_
    show Steps p.tables e below (T152.setTop (mkF m 121 #[.val (.int p0), .val (.int p1), .val (.ref b64), .val (.int (p0 &&& (15 : Int32))), .val (.int (j0_0 p0 p1)), .val (.int ((j0_0 p0 p1).toUInt32.toUInt16.toUInt32.toInt32)), .unset, .unset] [])) _
    refine XS.iload X152.here hx rfl (hb hby at_121) rfl ?_
    show Steps p.tables e below (T152.setTop (mkF m 123 #[.val (.int p0), .val (.int p1), .val (.ref b64), .val (.int (p0 &&& (15 : Int32))), .val (.int (j0_0 p0 p1)), .val (.int ((j0_0 p0 p1).toUInt32.toUInt16.toUInt32.toInt32)), .unset, .unset] [(.int ((j0_0 p0 p1).toUInt32.toUInt16.toUInt32.toInt32))])) _
    refine XS.iconst X152.here hx rfl (hb hby at_123) ?_
    show Steps p.tables e below (T152.setTop (mkF m 124 #[.val (.int p0), .val (.int p1), .val (.ref b64), .val (.int (p0 &&& (15 : Int32))), .val (.int (j0_0 p0 p1)), .val (.int ((j0_0 p0 p1).toUInt32.toUInt16.toUInt32.toInt32)), .unset, .unset] [(.int (0 : Int32)), (.int ((j0_0 p0 p1).toUInt32.toUInt16.toUInt32.toInt32))])) _
    refine st167 _ ?_
    show Steps p.tables e below (T167.setTop (mkF m 127 #[.val (.int p0), .val (.int p1), .val (.ref b64), .val (.int (p0 &&& (15 : Int32))), .val (.int (j0_0 p0 p1)), .val (.int ((j0_0 p0 p1).toUInt32.toUInt16.toUInt32.toInt32)), .unset, .unset] [(.int (nar .boolean (j1_0 ((j0_0 p0 p1).toUInt32.toUInt16.toUInt32.toInt32) (0 : Int32))))])) _
    refine XS.istore X167.here hx rfl (hb hby at_127) rfl (l' := #[.val (.int p0), .val (.int p1), .val (.ref b64), .val (.int (p0 &&& (15 : Int32))), .val (.int (j0_0 p0 p1)), .val (.int ((j0_0 p0 p1).toUInt32.toUInt16.toUInt32.toInt32)), .val (.int (nar .boolean (j1_0 ((j0_0 p0 p1).toUInt32.toUInt16.toUInt32.toInt32) (0 : Int32)))), .unset]) rfl ?_
    show Steps p.tables e below (T167.setTop (mkF m 129 #[.val (.int p0), .val (.int p1), .val (.ref b64), .val (.int (p0 &&& (15 : Int32))), .val (.int (j0_0 p0 p1)), .val (.int ((j0_0 p0 p1).toUInt32.toUInt16.toUInt32.toInt32)), .val (.int (nar .boolean (j1_0 ((j0_0 p0 p1).toUInt32.toUInt16.toUInt32.toInt32) (0 : Int32)))), .unset] [])) _
    refine XS.iload X167.here hx rfl (hb hby at_129) rfl ?_
    show Steps p.tables e below (T167.setTop (mkF m 131 #[.val (.int p0), .val (.int p1), .val (.ref b64), .val (.int (p0 &&& (15 : Int32))), .val (.int (j0_0 p0 p1)), .val (.int ((j0_0 p0 p1).toUInt32.toUInt16.toUInt32.toInt32)), .val (.int (nar .boolean (j1_0 ((j0_0 p0 p1).toUInt32.toUInt16.toUInt32.toInt32) (0 : Int32)))), .unset] [(.int ((j0_0 p0 p1).toUInt32.toUInt16.toUInt32.toInt32))])) _
    refine XS.iconst X167.here hx rfl (hb hby at_131) ?_
    show Steps p.tables e below (T167.setTop (mkF m 132 #[.val (.int p0), .val (.int p1), .val (.ref b64), .val (.int (p0 &&& (15 : Int32))), .val (.int (j0_0 p0 p1)), .val (.int ((j0_0 p0 p1).toUInt32.toUInt16.toUInt32.toInt32)), .val (.int (nar .boolean (j1_0 ((j0_0 p0 p1).toUInt32.toUInt16.toUInt32.toInt32) (0 : Int32)))), .unset] [(.int (1 : Int32)), (.int ((j0_0 p0 p1).toUInt32.toUInt16.toUInt32.toInt32))])) _
    refine st168 _ ?_
    show Steps p.tables e below (T168.setTop (mkF m 135 #[.val (.int p0), .val (.int p1), .val (.ref b64), .val (.int (p0 &&& (15 : Int32))), .val (.int (j0_0 p0 p1)), .val (.int ((j0_0 p0 p1).toUInt32.toUInt16.toUInt32.toInt32)), .val (.int (nar .boolean (j1_0 ((j0_0 p0 p1).toUInt32.toUInt16.toUInt32.toInt32) (0 : Int32)))), .unset] [(.int (nar .boolean (j1_0 ((j0_0 p0 p1).toUInt32.toUInt16.toUInt32.toInt32) (1 : Int32))))])) _
    refine XS.istore X168.here hx rfl (hb hby at_135) rfl (l' := #[.val (.int p0), .val (.int p1), .val (.ref b64), .val (.int (p0 &&& (15 : Int32))), .val (.int (j0_0 p0 p1)), .val (.int ((j0_0 p0 p1).toUInt32.toUInt16.toUInt32.toInt32)), .val (.int (nar .boolean (j1_0 ((j0_0 p0 p1).toUInt32.toUInt16.toUInt32.toInt32) (0 : Int32)))), .val (.int (nar .boolean (j1_0 ((j0_0 p0 p1).toUInt32.toUInt16.toUInt32.toInt32) (1 : Int32))))]) rfl ?_
    show Steps p.tables e below (T168.setTop (mkF m 137 #[.val (.int p0), .val (.int p1), .val (.ref b64), .val (.int (p0 &&& (15 : Int32))), .val (.int (j0_0 p0 p1)), .val (.int ((j0_0 p0 p1).toUInt32.toUInt16.toUInt32.toInt32)), .val (.int (nar .boolean (j1_0 ((j0_0 p0 p1).toUInt32.toUInt16.toUInt32.toInt32) (0 : Int32)))), .val (.int (nar .boolean (j1_0 ((j0_0 p0 p1).toUInt32.toUInt16.toUInt32.toInt32) (1 : Int32))))] [])) _
    refine XS.iload X168.here hx rfl (hb hby at_137) rfl ?_
    show Steps p.tables e below (T168.setTop (mkF m 139 #[.val (.int p0), .val (.int p1), .val (.ref b64), .val (.int (p0 &&& (15 : Int32))), .val (.int (j0_0 p0 p1)), .val (.int ((j0_0 p0 p1).toUInt32.toUInt16.toUInt32.toInt32)), .val (.int (nar .boolean (j1_0 ((j0_0 p0 p1).toUInt32.toUInt16.toUInt32.toInt32) (0 : Int32)))), .val (.int (nar .boolean (j1_0 ((j0_0 p0 p1).toUInt32.toUInt16.toUInt32.toInt32) (1 : Int32))))] [(.int (nar .boolean (j1_0 ((j0_0 p0 p1).toUInt32.toUInt16.toUInt32.toInt32) (0 : Int32))))])) _
    refine XS.iload X168.here hx rfl (hb hby at_139) rfl ?_
    show Steps p.tables e below (T168.setTop (mkF m 141 #[.val (.int p0), .val (.int p1), .val (.ref b64), .val (.int (p0 &&& (15 : Int32))), .val (.int (j0_0 p0 p1)), .val (.int ((j0_0 p0 p1).toUInt32.toUInt16.toUInt32.toInt32)), .val (.int (nar .boolean (j1_0 ((j0_0 p0 p1).toUInt32.toUInt16.toUInt32.toInt32) (0 : Int32)))), .val (.int (nar .boolean (j1_0 ((j0_0 p0 p1).toUInt32.toUInt16.toUInt32.toInt32) (1 : Int32))))] [(.int (j0_0 p0 p1)), (.int (nar .boolean (j1_0 ((j0_0 p0 p1).toUInt32.toUInt16.toUInt32.toInt32) (0 : Int32))))])) _
    refine XS.iconst X168.here hx rfl (hb hby at_141) ?_
    show Steps p.tables e below (T168.setTop (mkF m 142 #[.val (.int p0), .val (.int p1), .val (.ref b64), .val (.int (p0 &&& (15 : Int32))), .val (.int (j0_0 p0 p1)), .val (.int ((j0_0 p0 p1).toUInt32.toUInt16.toUInt32.toInt32)), .val (.int (nar .boolean (j1_0 ((j0_0 p0 p1).toUInt32.toUInt16.toUInt32.toInt32) (0 : Int32)))), .val (.int (nar .boolean (j1_0 ((j0_0 p0 p1).toUInt32.toUInt16.toUInt32.toInt32) (1 : Int32))))] [(.int (0 : Int32)), (.int (j0_0 p0 p1)), (.int (nar .boolean (j1_0 ((j0_0 p0 p1).toUInt32.toUInt16.toUInt32.toInt32) (0 : Int32))))])) _
    refine st169 _ ?_
    exact k)
  obtain ⟨T178, L178, X178, e178, N178, pre178⟩ : ∃ (T178 : State) (L178 : List Loc), Stand p l e room_1 s m #[(.int p0), (.int p1)] below meth c T178 L178 1 15 ∧ T178.heap = h152 ∧ Fr n0 L178 ∧ ∀ t, Steps p.tables e below (T178.setTop (mkF m 174 #[.val (.int p0), .val (.int p1), .val (.ref b64), .val (.int (p0 &&& (15 : Int32))), .val (.int (j0_0 p0 p1)), .val (.int ((j0_0 p0 p1).toUInt32.toUInt16.toUInt32.toInt32)), .val (.int (nar .boolean (j1_0 ((j0_0 p0 p1).toUInt32.toUInt16.toUInt32.toInt32) (0 : Int32)))), .val (.int (nar .boolean (j1_0 ((j0_0 p0 p1).toUInt32.toUInt16.toUInt32.toInt32) (1 : Int32))))] [(.int (j0_1 p0 p1))])) t → Steps p.tables e below (s₁.setTop (entryFrame m #[(.int p0), (.int p1)] maxLocals)) t := by
    by_cases hc179 : (nar .boolean (j1_0 ((j0_0 p0 p1).toUInt32.toUInt16.toUInt32.toInt32) (0 : Int32))) = (v2 (j0_0 p0 p1) (0 : Int32))
    · skip
      obtain ⟨_, _, ⟨T180, L180, k180, n180⟩, -, X180, ⟨Lc180, hQ180, l180, y180, z180⟩, st180⟩ := Jvm.LawKit.callS X169 hx (y := (⟨"com/example/kapsam/kapsam/reader/SubsetScannerIsSpacePinLaw", "reference", "(IZ)Z"⟩ : MethodName)) hown (mvT hZ (hw _ (List.mem_of_getElem? (i := 6) rfl))) (mvT hZ (hw _ (List.mem_of_getElem? (i := 7) rfl))) (mvT hZ (hw _ (List.mem_of_getElem? (i := 8) rfl))) (mvT hZ (hw _ (List.mem_of_getElem? (i := 9) rfl))) (by decide) (backOf (W := 1) (rm2 l Z aw hw [] ((j0_0 p0 p1)) ((1 : Int32)) h152 n0 Z154 ) hZ (hw _ (List.mem_of_getElem? (i := 9) rfl)) (hw _ (List.mem_of_getElem? (i := 8) rfl)) (by decide) (by decide)) (g := (mkF m 153 #[.val (.int p0), .val (.int p1), .val (.ref b64), .val (.int (p0 &&& (15 : Int32))), .val (.int (j0_0 p0 p1)), .val (.int ((j0_0 p0 p1).toUInt32.toUInt16.toUInt32.toInt32)), .val (.int (nar .boolean (j1_0 ((j0_0 p0 p1).toUInt32.toUInt16.toUInt32.toInt32) (0 : Int32)))), .val (.int (nar .boolean (j1_0 ((j0_0 p0 p1).toUInt32.toUInt16.toUInt32.toInt32) (1 : Int32))))] [(.int (1 : Int32)), (.int (j0_0 p0 p1)), (.int (nar .boolean (j1_0 ((j0_0 p0 p1).toUInt32.toUInt16.toUInt32.toInt32) (1 : Int32))))])) rfl (by rw [hml]; rfl) (argsL := [(.int (j0_0 p0 p1)), (.int (1 : Int32))]) (rest := [(.int (nar .boolean (j1_0 ((j0_0 p0 p1).toUInt32.toUInt16.toUInt32.toInt32) (1 : Int32))))]) (lenOf pd_3 rfl) rfl (by show 2 * 0 + _ ≤ _; exact Nat.le_of_eq rfl) (hb hby at_153) (fun _ _ => ⟨rfl, e169, (by decide : 1 + 0 ≤ _), (by decide : 15 + 0 ≤ _)⟩)
      dsimp only [Pt.U, Pt.locs, Pt.cells, Pt.slots] at X180 l180 y180 z180 st180 hQ180
      subst l180 y180 z180
      obtain ⟨rfl, N180q, e180⟩ := hQ180
      have N180 := Fr.app N169 N180q
      have pre182 := fun (t : State) (k : Steps p.tables e below (T180.setTop (mkF m 156 #[.val (.int p0), .val (.int p1), .val (.ref b64), .val (.int (p0 &&& (15 : Int32))), .val (.int (j0_0 p0 p1)), .val (.int ((j0_0 p0 p1).toUInt32.toUInt16.toUInt32.toInt32)), .val (.int (nar .boolean (j1_0 ((j0_0 p0 p1).toUInt32.toUInt16.toUInt32.toInt32) (0 : Int32)))), .val (.int (nar .boolean (j1_0 ((j0_0 p0 p1).toUInt32.toUInt16.toUInt32.toInt32) (1 : Int32))))] [(.int (v2 (j0_0 p0 p1) (1 : Int32))), (.int (nar .boolean (j1_0 ((j0_0 p0 p1).toUInt32.toUInt16.toUInt32.toInt32) (1 : Int32))))])) t) => pre177 t (by
        show Steps p.tables e below (T169.setTop (mkF m 145 #[.val (.int p0), .val (.int p1), .val (.ref b64), .val (.int (p0 &&& (15 : Int32))), .val (.int (j0_0 p0 p1)), .val (.int ((j0_0 p0 p1).toUInt32.toUInt16.toUInt32.toInt32)), .val (.int (nar .boolean (j1_0 ((j0_0 p0 p1).toUInt32.toUInt16.toUInt32.toInt32) (0 : Int32)))), .val (.int (nar .boolean (j1_0 ((j0_0 p0 p1).toUInt32.toUInt16.toUInt32.toInt32) (1 : Int32))))] [(.int (v2 (j0_0 p0 p1) (0 : Int32))), (.int (nar .boolean (j1_0 ((j0_0 p0 p1).toUInt32.toUInt16.toUInt32.toInt32) (0 : Int32))))])) _
        refine XS.icmpNo X169.here hx rfl (hb hby at_145) rfl (teq hc179).2 ?_
        show Steps p.tables e below (T169.setTop (mkF m 148 #[.val (.int p0), .val (.int p1), .val (.ref b64), .val (.int (p0 &&& (15 : Int32))), .val (.int (j0_0 p0 p1)), .val (.int ((j0_0 p0 p1).toUInt32.toUInt16.toUInt32.toInt32)), .val (.int (nar .boolean (j1_0 ((j0_0 p0 p1).toUInt32.toUInt16.toUInt32.toInt32) (0 : Int32)))), .val (.int (nar .boolean (j1_0 ((j0_0 p0 p1).toUInt32.toUInt16.toUInt32.toInt32) (1 : Int32))))] [])) _
        refine XS.iload X169.here hx rfl (hb hby at_148) rfl ?_
        show Steps p.tables e below (T169.setTop (mkF m 150 #[.val (.int p0), .val (.int p1), .val (.ref b64), .val (.int (p0 &&& (15 : Int32))), .val (.int (j0_0 p0 p1)), .val (.int ((j0_0 p0 p1).toUInt32.toUInt16.toUInt32.toInt32)), .val (.int (nar .boolean (j1_0 ((j0_0 p0 p1).toUInt32.toUInt16.toUInt32.toInt32) (0 : Int32)))), .val (.int (nar .boolean (j1_0 ((j0_0 p0 p1).toUInt32.toUInt16.toUInt32.toInt32) (1 : Int32))))] [(.int (nar .boolean (j1_0 ((j0_0 p0 p1).toUInt32.toUInt16.toUInt32.toInt32) (1 : Int32))))])) _
        refine XS.iload X169.here hx rfl (hb hby at_150) rfl ?_
        show Steps p.tables e below (T169.setTop (mkF m 152 #[.val (.int p0), .val (.int p1), .val (.ref b64), .val (.int (p0 &&& (15 : Int32))), .val (.int (j0_0 p0 p1)), .val (.int ((j0_0 p0 p1).toUInt32.toUInt16.toUInt32.toInt32)), .val (.int (nar .boolean (j1_0 ((j0_0 p0 p1).toUInt32.toUInt16.toUInt32.toInt32) (0 : Int32)))), .val (.int (nar .boolean (j1_0 ((j0_0 p0 p1).toUInt32.toUInt16.toUInt32.toInt32) (1 : Int32))))] [(.int (j0_0 p0 p1)), (.int (nar .boolean (j1_0 ((j0_0 p0 p1).toUInt32.toUInt16.toUInt32.toInt32) (1 : Int32))))])) _
        refine XS.iconst X169.here hx rfl (hb hby at_152) ?_
        show Steps p.tables e below (T169.setTop (mkF m 153 #[.val (.int p0), .val (.int p1), .val (.ref b64), .val (.int (p0 &&& (15 : Int32))), .val (.int (j0_0 p0 p1)), .val (.int ((j0_0 p0 p1).toUInt32.toUInt16.toUInt32.toInt32)), .val (.int (nar .boolean (j1_0 ((j0_0 p0 p1).toUInt32.toUInt16.toUInt32.toInt32) (0 : Int32)))), .val (.int (nar .boolean (j1_0 ((j0_0 p0 p1).toUInt32.toUInt16.toUInt32.toInt32) (1 : Int32))))] [(.int (1 : Int32)), (.int (j0_0 p0 p1)), (.int (nar .boolean (j1_0 ((j0_0 p0 p1).toUInt32.toUInt16.toUInt32.toInt32) (1 : Int32))))])) _
        refine st180 _ ?_
        exact k)
      by_cases hc181 : (nar .boolean (j1_0 ((j0_0 p0 p1).toUInt32.toUInt16.toUInt32.toInt32) (1 : Int32))) = (v2 (j0_0 p0 p1) (1 : Int32))
      · skip
        have pre184 := fun (t : State) (k : Steps p.tables e below (T180.setTop (mkF m 161 #[.val (.int p0), .val (.int p1), .val (.ref b64), .val (.int (p0 &&& (15 : Int32))), .val (.int (j0_0 p0 p1)), .val (.int ((j0_0 p0 p1).toUInt32.toUInt16.toUInt32.toInt32)), .val (.int (nar .boolean (j1_0 ((j0_0 p0 p1).toUInt32.toUInt16.toUInt32.toInt32) (0 : Int32)))), .val (.int (nar .boolean (j1_0 ((j0_0 p0 p1).toUInt32.toUInt16.toUInt32.toInt32) (1 : Int32))))] [(.int (nar .boolean (j1_0 ((j0_0 p0 p1).toUInt32.toUInt16.toUInt32.toInt32) (0 : Int32))))])) t) => pre182 t (by
          show Steps p.tables e below (T180.setTop (mkF m 156 #[.val (.int p0), .val (.int p1), .val (.ref b64), .val (.int (p0 &&& (15 : Int32))), .val (.int (j0_0 p0 p1)), .val (.int ((j0_0 p0 p1).toUInt32.toUInt16.toUInt32.toInt32)), .val (.int (nar .boolean (j1_0 ((j0_0 p0 p1).toUInt32.toUInt16.toUInt32.toInt32) (0 : Int32)))), .val (.int (nar .boolean (j1_0 ((j0_0 p0 p1).toUInt32.toUInt16.toUInt32.toInt32) (1 : Int32))))] [(.int (v2 (j0_0 p0 p1) (1 : Int32))), (.int (nar .boolean (j1_0 ((j0_0 p0 p1).toUInt32.toUInt16.toUInt32.toInt32) (1 : Int32))))])) _
          refine XS.icmpNo X180.here hx rfl (hb hby at_156) rfl (teq hc181).2 ?_
          show Steps p.tables e below (T180.setTop (mkF m 159 #[.val (.int p0), .val (.int p1), .val (.ref b64), .val (.int (p0 &&& (15 : Int32))), .val (.int (j0_0 p0 p1)), .val (.int ((j0_0 p0 p1).toUInt32.toUInt16.toUInt32.toInt32)), .val (.int (nar .boolean (j1_0 ((j0_0 p0 p1).toUInt32.toUInt16.toUInt32.toInt32) (0 : Int32)))), .val (.int (nar .boolean (j1_0 ((j0_0 p0 p1).toUInt32.toUInt16.toUInt32.toInt32) (1 : Int32))))] [])) _
          refine XS.iload X180.here hx rfl (hb hby at_159) rfl ?_
          exact k)
        by_cases hc183 : (nar .boolean (j1_0 ((j0_0 p0 p1).toUInt32.toUInt16.toUInt32.toInt32) (0 : Int32))) = (0 : Int32)
        · skip
          have pre185 := fun (t : State) (k : Steps p.tables e below (T180.setTop (mkF m 174 #[.val (.int p0), .val (.int p1), .val (.ref b64), .val (.int (p0 &&& (15 : Int32))), .val (.int (j0_0 p0 p1)), .val (.int ((j0_0 p0 p1).toUInt32.toUInt16.toUInt32.toInt32)), .val (.int (nar .boolean (j1_0 ((j0_0 p0 p1).toUInt32.toUInt16.toUInt32.toInt32) (0 : Int32)))), .val (.int (nar .boolean (j1_0 ((j0_0 p0 p1).toUInt32.toUInt16.toUInt32.toInt32) (1 : Int32))))] [(.int (1 : Int32))])) t) => pre184 t (by
            show Steps p.tables e below (T180.setTop (mkF m 161 #[.val (.int p0), .val (.int p1), .val (.ref b64), .val (.int (p0 &&& (15 : Int32))), .val (.int (j0_0 p0 p1)), .val (.int ((j0_0 p0 p1).toUInt32.toUInt16.toUInt32.toInt32)), .val (.int (nar .boolean (j1_0 ((j0_0 p0 p1).toUInt32.toUInt16.toUInt32.toInt32) (0 : Int32)))), .val (.int (nar .boolean (j1_0 ((j0_0 p0 p1).toUInt32.toUInt16.toUInt32.toInt32) (1 : Int32))))] [(.int (nar .boolean (j1_0 ((j0_0 p0 p1).toUInt32.toUInt16.toUInt32.toInt32) (0 : Int32))))])) _
            refine XS.ifYes X180.here hx rfl (pc0 := 161) (pc' := 169) rfl (hb hby at_161) rfl ((if0 _ _).trans (teq hc183).1) (by decide) (by decide) ?_
            show Steps p.tables e below (T180.setTop (mkF m 169 #[.val (.int p0), .val (.int p1), .val (.ref b64), .val (.int (p0 &&& (15 : Int32))), .val (.int (j0_0 p0 p1)), .val (.int ((j0_0 p0 p1).toUInt32.toUInt16.toUInt32.toInt32)), .val (.int (nar .boolean (j1_0 ((j0_0 p0 p1).toUInt32.toUInt16.toUInt32.toInt32) (0 : Int32)))), .val (.int (nar .boolean (j1_0 ((j0_0 p0 p1).toUInt32.toUInt16.toUInt32.toInt32) (1 : Int32))))] [])) _
            refine XS.iconst X180.here hx rfl (hb hby at_169) ?_
            show Steps p.tables e below (T180.setTop (mkF m 170 #[.val (.int p0), .val (.int p1), .val (.ref b64), .val (.int (p0 &&& (15 : Int32))), .val (.int (j0_0 p0 p1)), .val (.int ((j0_0 p0 p1).toUInt32.toUInt16.toUInt32.toInt32)), .val (.int (nar .boolean (j1_0 ((j0_0 p0 p1).toUInt32.toUInt16.toUInt32.toInt32) (0 : Int32)))), .val (.int (nar .boolean (j1_0 ((j0_0 p0 p1).toUInt32.toUInt16.toUInt32.toInt32) (1 : Int32))))] [(.int (1 : Int32))])) _
            refine XS.goto X180.here hx rfl (pc0 := 170) (pc' := 174) rfl (hb hby at_170) (by decide) (by decide) ?_
            exact k)
          have hj186 : (j0_1 p0 p1) = (1 : Int32) := by unfold j0_1; first | (rw [if_pos hc179, if_pos hc181, if_pos hc183]) | (simp only [if_pos hc179, if_pos hc181, if_pos hc183])
          exact ⟨T180, _, X180, e180, N180, fun t k => pre185 t (by rw [hj186] at k; exact k)⟩
        · skip
          have pre188 := fun (t : State) (k : Steps p.tables e below (T180.setTop (mkF m 166 #[.val (.int p0), .val (.int p1), .val (.ref b64), .val (.int (p0 &&& (15 : Int32))), .val (.int (j0_0 p0 p1)), .val (.int ((j0_0 p0 p1).toUInt32.toUInt16.toUInt32.toInt32)), .val (.int (nar .boolean (j1_0 ((j0_0 p0 p1).toUInt32.toUInt16.toUInt32.toInt32) (0 : Int32)))), .val (.int (nar .boolean (j1_0 ((j0_0 p0 p1).toUInt32.toUInt16.toUInt32.toInt32) (1 : Int32))))] [(.int (nar .boolean (j1_0 ((j0_0 p0 p1).toUInt32.toUInt16.toUInt32.toInt32) (1 : Int32))))])) t) => pre184 t (by
            show Steps p.tables e below (T180.setTop (mkF m 161 #[.val (.int p0), .val (.int p1), .val (.ref b64), .val (.int (p0 &&& (15 : Int32))), .val (.int (j0_0 p0 p1)), .val (.int ((j0_0 p0 p1).toUInt32.toUInt16.toUInt32.toInt32)), .val (.int (nar .boolean (j1_0 ((j0_0 p0 p1).toUInt32.toUInt16.toUInt32.toInt32) (0 : Int32)))), .val (.int (nar .boolean (j1_0 ((j0_0 p0 p1).toUInt32.toUInt16.toUInt32.toInt32) (1 : Int32))))] [(.int (nar .boolean (j1_0 ((j0_0 p0 p1).toUInt32.toUInt16.toUInt32.toInt32) (0 : Int32))))])) _
            refine XS.ifNo X180.here hx rfl (hb hby at_161) rfl ((if0 _ _).trans (feq hc183).1) ?_
            show Steps p.tables e below (T180.setTop (mkF m 164 #[.val (.int p0), .val (.int p1), .val (.ref b64), .val (.int (p0 &&& (15 : Int32))), .val (.int (j0_0 p0 p1)), .val (.int ((j0_0 p0 p1).toUInt32.toUInt16.toUInt32.toInt32)), .val (.int (nar .boolean (j1_0 ((j0_0 p0 p1).toUInt32.toUInt16.toUInt32.toInt32) (0 : Int32)))), .val (.int (nar .boolean (j1_0 ((j0_0 p0 p1).toUInt32.toUInt16.toUInt32.toInt32) (1 : Int32))))] [])) _
            refine XS.iload X180.here hx rfl (hb hby at_164) rfl ?_
            exact k)
          by_cases hc187 : (nar .boolean (j1_0 ((j0_0 p0 p1).toUInt32.toUInt16.toUInt32.toInt32) (1 : Int32))) = (0 : Int32)
          · skip
            have pre189 := fun (t : State) (k : Steps p.tables e below (T180.setTop (mkF m 174 #[.val (.int p0), .val (.int p1), .val (.ref b64), .val (.int (p0 &&& (15 : Int32))), .val (.int (j0_0 p0 p1)), .val (.int ((j0_0 p0 p1).toUInt32.toUInt16.toUInt32.toInt32)), .val (.int (nar .boolean (j1_0 ((j0_0 p0 p1).toUInt32.toUInt16.toUInt32.toInt32) (0 : Int32)))), .val (.int (nar .boolean (j1_0 ((j0_0 p0 p1).toUInt32.toUInt16.toUInt32.toInt32) (1 : Int32))))] [(.int (0 : Int32))])) t) => pre188 t (by
              show Steps p.tables e below (T180.setTop (mkF m 166 #[.val (.int p0), .val (.int p1), .val (.ref b64), .val (.int (p0 &&& (15 : Int32))), .val (.int (j0_0 p0 p1)), .val (.int ((j0_0 p0 p1).toUInt32.toUInt16.toUInt32.toInt32)), .val (.int (nar .boolean (j1_0 ((j0_0 p0 p1).toUInt32.toUInt16.toUInt32.toInt32) (0 : Int32)))), .val (.int (nar .boolean (j1_0 ((j0_0 p0 p1).toUInt32.toUInt16.toUInt32.toInt32) (1 : Int32))))] [(.int (nar .boolean (j1_0 ((j0_0 p0 p1).toUInt32.toUInt16.toUInt32.toInt32) (1 : Int32))))])) _
              refine XS.ifYes X180.here hx rfl (pc0 := 166) (pc' := 173) rfl (hb hby at_166) rfl ((if0 _ _).trans (teq hc187).1) (by decide) (by decide) ?_
              show Steps p.tables e below (T180.setTop (mkF m 173 #[.val (.int p0), .val (.int p1), .val (.ref b64), .val (.int (p0 &&& (15 : Int32))), .val (.int (j0_0 p0 p1)), .val (.int ((j0_0 p0 p1).toUInt32.toUInt16.toUInt32.toInt32)), .val (.int (nar .boolean (j1_0 ((j0_0 p0 p1).toUInt32.toUInt16.toUInt32.toInt32) (0 : Int32)))), .val (.int (nar .boolean (j1_0 ((j0_0 p0 p1).toUInt32.toUInt16.toUInt32.toInt32) (1 : Int32))))] [])) _
              refine XS.iconst X180.here hx rfl (hb hby at_173) ?_
              exact k)
            have hj190 : (j0_1 p0 p1) = (0 : Int32) := by unfold j0_1; first | (rw [if_pos hc179, if_pos hc181, if_neg hc183, if_pos hc187]) | (simp only [if_pos hc179, if_pos hc181, if_neg hc183, if_pos hc187])
            exact ⟨T180, _, X180, e180, N180, fun t k => pre189 t (by rw [hj190] at k; exact k)⟩
          · skip
            have pre191 := fun (t : State) (k : Steps p.tables e below (T180.setTop (mkF m 174 #[.val (.int p0), .val (.int p1), .val (.ref b64), .val (.int (p0 &&& (15 : Int32))), .val (.int (j0_0 p0 p1)), .val (.int ((j0_0 p0 p1).toUInt32.toUInt16.toUInt32.toInt32)), .val (.int (nar .boolean (j1_0 ((j0_0 p0 p1).toUInt32.toUInt16.toUInt32.toInt32) (0 : Int32)))), .val (.int (nar .boolean (j1_0 ((j0_0 p0 p1).toUInt32.toUInt16.toUInt32.toInt32) (1 : Int32))))] [(.int (1 : Int32))])) t) => pre188 t (by
              show Steps p.tables e below (T180.setTop (mkF m 166 #[.val (.int p0), .val (.int p1), .val (.ref b64), .val (.int (p0 &&& (15 : Int32))), .val (.int (j0_0 p0 p1)), .val (.int ((j0_0 p0 p1).toUInt32.toUInt16.toUInt32.toInt32)), .val (.int (nar .boolean (j1_0 ((j0_0 p0 p1).toUInt32.toUInt16.toUInt32.toInt32) (0 : Int32)))), .val (.int (nar .boolean (j1_0 ((j0_0 p0 p1).toUInt32.toUInt16.toUInt32.toInt32) (1 : Int32))))] [(.int (nar .boolean (j1_0 ((j0_0 p0 p1).toUInt32.toUInt16.toUInt32.toInt32) (1 : Int32))))])) _
              refine XS.ifNo X180.here hx rfl (hb hby at_166) rfl ((if0 _ _).trans (feq hc187).1) ?_
              show Steps p.tables e below (T180.setTop (mkF m 169 #[.val (.int p0), .val (.int p1), .val (.ref b64), .val (.int (p0 &&& (15 : Int32))), .val (.int (j0_0 p0 p1)), .val (.int ((j0_0 p0 p1).toUInt32.toUInt16.toUInt32.toInt32)), .val (.int (nar .boolean (j1_0 ((j0_0 p0 p1).toUInt32.toUInt16.toUInt32.toInt32) (0 : Int32)))), .val (.int (nar .boolean (j1_0 ((j0_0 p0 p1).toUInt32.toUInt16.toUInt32.toInt32) (1 : Int32))))] [])) _
              refine XS.iconst X180.here hx rfl (hb hby at_169) ?_
              show Steps p.tables e below (T180.setTop (mkF m 170 #[.val (.int p0), .val (.int p1), .val (.ref b64), .val (.int (p0 &&& (15 : Int32))), .val (.int (j0_0 p0 p1)), .val (.int ((j0_0 p0 p1).toUInt32.toUInt16.toUInt32.toInt32)), .val (.int (nar .boolean (j1_0 ((j0_0 p0 p1).toUInt32.toUInt16.toUInt32.toInt32) (0 : Int32)))), .val (.int (nar .boolean (j1_0 ((j0_0 p0 p1).toUInt32.toUInt16.toUInt32.toInt32) (1 : Int32))))] [(.int (1 : Int32))])) _
              refine XS.goto X180.here hx rfl (pc0 := 170) (pc' := 174) rfl (hb hby at_170) (by decide) (by decide) ?_
              exact k)
            have hj192 : (j0_1 p0 p1) = (1 : Int32) := by unfold j0_1; first | (rw [if_pos hc179, if_pos hc181, if_neg hc183, if_neg hc187]) | (simp only [if_pos hc179, if_pos hc181, if_neg hc183, if_neg hc187])
            exact ⟨T180, _, X180, e180, N180, fun t k => pre191 t (by rw [hj192] at k; exact k)⟩
      · skip
        have pre193 := fun (t : State) (k : Steps p.tables e below (T180.setTop (mkF m 174 #[.val (.int p0), .val (.int p1), .val (.ref b64), .val (.int (p0 &&& (15 : Int32))), .val (.int (j0_0 p0 p1)), .val (.int ((j0_0 p0 p1).toUInt32.toUInt16.toUInt32.toInt32)), .val (.int (nar .boolean (j1_0 ((j0_0 p0 p1).toUInt32.toUInt16.toUInt32.toInt32) (0 : Int32)))), .val (.int (nar .boolean (j1_0 ((j0_0 p0 p1).toUInt32.toUInt16.toUInt32.toInt32) (1 : Int32))))] [(.int (0 : Int32))])) t) => pre182 t (by
          show Steps p.tables e below (T180.setTop (mkF m 156 #[.val (.int p0), .val (.int p1), .val (.ref b64), .val (.int (p0 &&& (15 : Int32))), .val (.int (j0_0 p0 p1)), .val (.int ((j0_0 p0 p1).toUInt32.toUInt16.toUInt32.toInt32)), .val (.int (nar .boolean (j1_0 ((j0_0 p0 p1).toUInt32.toUInt16.toUInt32.toInt32) (0 : Int32)))), .val (.int (nar .boolean (j1_0 ((j0_0 p0 p1).toUInt32.toUInt16.toUInt32.toInt32) (1 : Int32))))] [(.int (v2 (j0_0 p0 p1) (1 : Int32))), (.int (nar .boolean (j1_0 ((j0_0 p0 p1).toUInt32.toUInt16.toUInt32.toInt32) (1 : Int32))))])) _
          refine XS.icmpYes X180.here hx rfl (pc0 := 156) (pc' := 173) rfl (hb hby at_156) rfl (feq hc181).2 (by decide) (by decide) ?_
          show Steps p.tables e below (T180.setTop (mkF m 173 #[.val (.int p0), .val (.int p1), .val (.ref b64), .val (.int (p0 &&& (15 : Int32))), .val (.int (j0_0 p0 p1)), .val (.int ((j0_0 p0 p1).toUInt32.toUInt16.toUInt32.toInt32)), .val (.int (nar .boolean (j1_0 ((j0_0 p0 p1).toUInt32.toUInt16.toUInt32.toInt32) (0 : Int32)))), .val (.int (nar .boolean (j1_0 ((j0_0 p0 p1).toUInt32.toUInt16.toUInt32.toInt32) (1 : Int32))))] [])) _
          refine XS.iconst X180.here hx rfl (hb hby at_173) ?_
          exact k)
        have hj194 : (j0_1 p0 p1) = (0 : Int32) := by unfold j0_1; first | (rw [if_pos hc179, if_neg hc181]) | (simp only [if_pos hc179, if_neg hc181])
        exact ⟨T180, _, X180, e180, N180, fun t k => pre193 t (by rw [hj194] at k; exact k)⟩
    · skip
      have pre195 := fun (t : State) (k : Steps p.tables e below (T169.setTop (mkF m 174 #[.val (.int p0), .val (.int p1), .val (.ref b64), .val (.int (p0 &&& (15 : Int32))), .val (.int (j0_0 p0 p1)), .val (.int ((j0_0 p0 p1).toUInt32.toUInt16.toUInt32.toInt32)), .val (.int (nar .boolean (j1_0 ((j0_0 p0 p1).toUInt32.toUInt16.toUInt32.toInt32) (0 : Int32)))), .val (.int (nar .boolean (j1_0 ((j0_0 p0 p1).toUInt32.toUInt16.toUInt32.toInt32) (1 : Int32))))] [(.int (0 : Int32))])) t) => pre177 t (by
        show Steps p.tables e below (T169.setTop (mkF m 145 #[.val (.int p0), .val (.int p1), .val (.ref b64), .val (.int (p0 &&& (15 : Int32))), .val (.int (j0_0 p0 p1)), .val (.int ((j0_0 p0 p1).toUInt32.toUInt16.toUInt32.toInt32)), .val (.int (nar .boolean (j1_0 ((j0_0 p0 p1).toUInt32.toUInt16.toUInt32.toInt32) (0 : Int32)))), .val (.int (nar .boolean (j1_0 ((j0_0 p0 p1).toUInt32.toUInt16.toUInt32.toInt32) (1 : Int32))))] [(.int (v2 (j0_0 p0 p1) (0 : Int32))), (.int (nar .boolean (j1_0 ((j0_0 p0 p1).toUInt32.toUInt16.toUInt32.toInt32) (0 : Int32))))])) _
        refine XS.icmpYes X169.here hx rfl (pc0 := 145) (pc' := 173) rfl (hb hby at_145) rfl (feq hc179).2 (by decide) (by decide) ?_
        show Steps p.tables e below (T169.setTop (mkF m 173 #[.val (.int p0), .val (.int p1), .val (.ref b64), .val (.int (p0 &&& (15 : Int32))), .val (.int (j0_0 p0 p1)), .val (.int ((j0_0 p0 p1).toUInt32.toUInt16.toUInt32.toInt32)), .val (.int (nar .boolean (j1_0 ((j0_0 p0 p1).toUInt32.toUInt16.toUInt32.toInt32) (0 : Int32)))), .val (.int (nar .boolean (j1_0 ((j0_0 p0 p1).toUInt32.toUInt16.toUInt32.toInt32) (1 : Int32))))] [])) _
        refine XS.iconst X169.here hx rfl (hb hby at_173) ?_
        exact k)
      have hj196 : (j0_1 p0 p1) = (0 : Int32) := by unfold j0_1; first | (rw [if_neg hc179]) | (simp only [if_neg hc179])
      exact ⟨T169, _, X169, e169, N169, fun t k => pre195 t (by rw [hj196] at k; exact k)⟩
  obtain ⟨fs, hr, hrun, hended, hW, hsame⟩ := X178.leave (v := some (.int (nar .boolean (j0_1 p0 p1)))) (fun h => by rw [Bd.returns] at h; cases h)
  refine ⟨_, _, pre178 _ ?_, hrun, hended, _, _, rfl, ?_, ⟨_, rfl⟩, hW, hsame.mono (by decide) (by decide)⟩
  · skip
    show Steps p.tables e below (T178.setTop (mkF m 174 #[.val (.int p0), .val (.int p1), .val (.ref b64), .val (.int (p0 &&& (15 : Int32))), .val (.int (j0_0 p0 p1)), .val (.int ((j0_0 p0 p1).toUInt32.toUInt16.toUInt32.toInt32)), .val (.int (nar .boolean (j1_0 ((j0_0 p0 p1).toUInt32.toUInt16.toUInt32.toInt32) (0 : Int32)))), .val (.int (nar .boolean (j1_0 ((j0_0 p0 p1).toUInt32.toUInt16.toUInt32.toInt32) (1 : Int32))))] [(.int (j0_1 p0 p1))])) _
    exact retN X178 hx (t := .boolean) Bd.returns (by simp) (hb hby at_174) hr
  · show Q0 Z p0 p1 h0 n0 _ T178.heap _
    rw [e178]
    exact ⟨rfl, N178⟩
theorem own_spr (k : Int32) : 0 ≤ (own_sp k).toInt ∧ (own_sp k).toInt < 65536 := by
  unfold own_sp
  by_cases h : k.toNatClampNeg < 15
  · have : ∀ m : Fin 15, 0 ≤ (own_l.getD m.1 0).toInt ∧ (own_l.getD m.1 0).toInt < 65536 := by decide
    exact this ⟨_, h⟩
  · have e : own_l.getD k.toNatClampNeg 0 = 0 := by
      rw [List.getD_eq_getElem?_getD, List.getElem?_eq_none (by show 15 ≤ _; omega)]; rfl
    rw [e]; decide
theorem own_char (c : Int32) (h0 : 0 ≤ c.toInt) (h1 : c.toInt < 65536) : c.toUInt32.toUInt16.toUInt32.toInt32 = c := by
  apply Int32.toBitVec_inj.mp
  simp only [UInt32.toBitVec_toInt32, UInt16.toBitVec_toUInt32, UInt32.toBitVec_toUInt16, Int32.toBitVec_toUInt32]
  apply BitVec.eq_of_toNat_eq
  have hb := c.toBitVec.isLt
  have e : c.toInt = c.toBitVec.toInt := rfl
  rw [e, BitVec.toInt_eq_toNat_cond] at h0 h1
  simp only [BitVec.toNat_setWidth]
  split at h0 <;> omega
theorem own_core (c : Int32) : nar .boolean (j1_0 c 0) = v2 c 0 ∧ nar .boolean (j1_0 c 1) = v2 c 1 ∧ (nar .boolean (j1_0 c 0) = 0 ∨ ¬ nar .boolean (j1_0 c 1) = 0) := by
  have n0 : nar .boolean 0 = 0 := rfl
  have n1 : nar .boolean 1 = 1 := rfl
  have q : ¬ (1 : Int32) = 0 := by decide
  unfold v2 j2_0 j2_1 j1_0
  rw [if_pos rfl, if_neg q, if_pos rfl, if_neg q]
  refine ⟨?_, ?_, ?_⟩
  · repeat' split
    all_goals first | rfl | (exfalso; simp only [Int32.lt_iff_toInt_lt, ← Int32.toInt_inj, Int32.reduceToInt, n0, n1, not_true_eq_false] at * <;> omega)
  · repeat' split
    all_goals first | rfl | (exfalso; simp only [Int32.lt_iff_toInt_lt, ← Int32.toInt_inj, Int32.reduceToInt, n0, n1, not_true_eq_false] at * <;> omega)
  · by_cases h : (32 : Int32) < c
    · rw [if_pos h]; exact Or.inl rfl
    · rw [if_neg h, if_neg h]
      repeat' split
      all_goals first | exact Or.inl rfl | exact Or.inr q
theorem own_code (p0 p1 : Int32) : 0 ≤ (j0_0 p0 p1).toInt ∧ (j0_0 p0 p1).toInt < 65536 := by
  unfold j0_0
  split
  · exact own_spr _
  · rw [Jvm.Kit.i32_mask p1 65535 (k := 16) (by decide) (by decide)]; omega
theorem law_one (p0 p1 : Int32) : (nar .boolean (j0_1 p0 p1)) = 1 := by
  obtain ⟨h0, h1⟩ := own_code p0 p1
  obtain ⟨c1, c2, c3⟩ := own_core (j0_0 p0 p1)
  unfold j0_1
  rw [own_char _ h0 h1, if_pos c1, if_pos c2]
  rcases c3 with c3 | c3
  · rw [if_pos c3]; rfl
  · rw [if_neg c3]; split <;> rfl
set_option maxRecDepth 65536 in
set_option maxHeartbeats 40000000 in
theorem comes_1 {Post : Tables → Env → Array Value → State → Outcome → State → Prop} (hpost : ∀ tb e args s v u, (limb_1_1.after args s (.returned v) u = true ∧ limb_1_2.after args s (.returned v) u = true ∧ True) → FrameEnd s (.returned v) u (Jvm.fieldLocs frame_1_writes args s ++ Jvm.arrayLocs frame_1_arrays args s ++ Jvm.staticLocs frame_1_statics s) 16 128 → Post tb e args s (.returned v) u) :
    ArmFor flags0 classFile x code maxLocals ret World_1 tables_1 room_1 Calls_1 rest_1 Pre_1 Post := by
  intro l hfl _ _ p e ha hc hk s m args below hf hA hF happ hP
  obtain ⟨hcalls, hrest, hpre⟩ := hP
  obtain ⟨-, -, -, hnamed, -, -, -, hat⟩ := (Spec.applies_iff hf).mp happ
  obtain ⟨hg, hn⟩ := and_e (Cond.before_iff.mp (show (Jvm.Cond.and given_1 narrow_1).before args s = true from hpre))
  obtain ⟨hcount, r0⟩ := and_e hg
  obtain ⟨k0, r1⟩ := and_e r0
  have k1 := r1
  obtain ⟨w0, w1, rfl⟩ : ∃ w0 w1 : Value, args = #[w0, w1] := by
    have hs : args.size = 2 := by simpa [Cond.value, given_1] using hcount
    obtain ⟨L⟩ := args
    match L, hs with
    | [w0, w1], _ => exact ⟨w0, w1, rfl⟩
  have hw := fun d (hd : d ∈ tables_1) => atoms_spec (ws := Jvm.Cond.code x code maxLocals ret :: tables_1) hat d (List.mem_cons_of_mem _ hd)
  obtain ⟨i0, ei0⟩ := is_v k0
  obtain rfl : w0 = (.int i0) := Option.some.inj ei0
  obtain ⟨i1, ei1⟩ := is_v k1
  obtain rfl : w1 = (.int i1) := Option.some.inj ei1
  obtain ⟨n, o, h1, h2, h3, v, L, rfl, ⟨hv, N⟩, hq⟩ := rm0 l s _ hw tables_1 i0 i1 s.heap s.heap.size (Nat.le_refl _) p e ha hc hk s m _ below hf ((Spec.applies_iff_loose hf).mp happ).1 ⟨rfl, State.Warmed39.refl s, rfl⟩ trivial
  rw [law_one i0 i1] at hv
  subst hv
  refine ⟨n, _, h1, h2, h3, hpost _ _ _ _ _ _ ⟨Cond.after_iff.mpr rfl, Cond.after_iff.mpr (eq_i res_at (Term.int_eval (1)) rfl), trivial⟩ ⟨hq.1, hq.2.1, (hq.2.2.sift fun y hy => Or.inr (N y hy)).mono (by decide) (by decide)⟩⟩
theorem main_1_1 : Claimed_1_1 := comes_1 fun _ _ _ _ _ _ h hF => ⟨h.1, hF⟩
theorem main_1_2 : Claimed_1_2 := comes_1 fun _ _ _ _ _ _ h hF => ⟨h.2.1, hF⟩
end Jvm.Pilot.@@N@@
namespace Jvm.Pilot.@@N@@
open Jvm Jvm.ClassFile Sem Op Lib Jvm.Free Jvm.Stand Jvm.Pilot.@@N@@.Jvm.D
/-! MADE BY PROGRAM (witnessworld.py) out of the Statement's table words and the real class files: 9 classes; the members and pool entries that the words name. The judged class is class 1, her method 2. -/
namespace start1
open Jvm.ClassFile
def u (s : String) : CpInfo := .utf8 (stringToUtf16 s)
/-- a pool by its gaps: so many unusable entries, then the entry; so many at the end -/
def gap : Nat → List CpInfo → List CpInfo
  | 0, r => r
  | n + 1, r => .unusable :: gap n r
def poolList (es : List (Nat × CpInfo)) (last : Nat) : List CpInfo := es.foldr (fun e r => gap e.1 (e.2 :: r)) (gap last [])
def pool (es : List (Nat × CpInfo)) (last : Nat) : Array CpInfo := ⟨poolList es last⟩
def fileOf (pool : Array CpInfo) (this : Nat) (attrs : Array Attribute := #[]) (ms : Array MethodInfo := #[]) (fl : Nat := 33) (sup : Nat := 0) (ifs : Array Nat := #[]) (fds : Array FieldInfo := #[]) : ClassFile where
  minorVersion := 0
  majorVersion := 65
  constantPool := pool
  accessFlags := fl
  thisClass := this
  superClass := sup
  interfaces := ifs
  fields := fds
  methods := ms
  attributes := attrs
def plain (name : String) (sup : Option ClassId) : Class where
  name := name
  kind := .ordinary
  loader := none
  accessFlags := 33
  super := sup
  interfaces := #[]
  cf := none
  fields := #[]
  methods := #[]
  instanceTypes := #[]
  staticTypes := #[]
  resolved := #[]
  callSites := []
  init := .initialized
  statics := none
  mirror := none

def pool0 : Array CpInfo := pool [(5, u "<init>"), (0, u "()V"), (1, .class_ 10), (1, u "java/lang/Object")] 113

def k0m0 : Method := { name := "<init>", desc := "()V", sig := { parameters := [], returnType := none }, accessFlags := 1, code := none }
/-- java/lang/Object -/
def k0 : Class := { plain "java/lang/Object" none with
  accessFlags := 33
  interfaces := #[]
  cf := some (fileOf pool0 8 #[] #[{ accessFlags := 1, nameIndex := 5, descriptorIndex := 6, attributes := #[] }] 33 0 #[] #[])
  fields := #[]
  methods := #[k0m0]
  instanceTypes := #[]
  staticTypes := #[]
  resolved := Array.replicate 124 none
  statics := none }

def pool1 : Array CpInfo := pool [(2, .class_ 4), (1, u "java/lang/Object"), (0, u "<init>"), (0, u "()V"), (0, .integer 65535), (0, .methodref 9 10), (0, .class_ 11), (0, .nameAndType 12 13), (0, u "com/example/kapsam/kapsam/reader/SubsetScanner"), (0, u "isSpace"), (0, u "(CZ)Z"), (0, .methodref 15 16), (0, .class_ 17), (0, .nameAndType 18 19), (0, u "com/example/kapsam/kapsam/reader/SubsetScannerIsSpacePinLaw"), (0, u "reference"), (0, u "(IZ)Z"), (3, u "law"), (0, u "(II)Z")] 4

def k1m0 : Method := { name := "<init>", desc := "()V", sig := { parameters := [], returnType := none }, accessFlags := 2, code := none }
def k1c1 : Code := { maxStack := 2, maxLocals := 4, code := method_2_code, exceptionTable := #[], attributes := #[] }
def k1m1 : Method := { name := "reference", desc := "(IZ)Z", sig := { parameters := [.int, .boolean], returnType := some .boolean }, accessFlags := 10, code := some k1c1 }
def k1c2 : Code := { maxStack := 4, maxLocals := 8, code := code, exceptionTable := #[], attributes := #[] }
def k1m2 : Method := { name := "law", desc := "(II)Z", sig := { parameters := [.int, .int], returnType := some .boolean }, accessFlags := 9, code := some k1c2 }
/-- com/example/kapsam/kapsam/reader/SubsetScannerIsSpacePinLaw -/
def k1 : Class := { plain "com/example/kapsam/kapsam/reader/SubsetScannerIsSpacePinLaw" (some 0) with
  accessFlags := 49
  interfaces := #[]
  cf := some (fileOf pool1 15 #[] #[{ accessFlags := 2, nameIndex := 5, descriptorIndex := 6, attributes := #[] }, { accessFlags := 10, nameIndex := 18, descriptorIndex := 19, attributes := #[] }, { accessFlags := 9, nameIndex := 23, descriptorIndex := 24, attributes := #[] }] 49 2 #[] #[])
  fields := #[]
  methods := #[k1m0, k1m1, k1m2]
  instanceTypes := #[]
  staticTypes := #[]
  resolved := Array.replicate 29 none
  statics := none }

def pool2 : Array CpInfo := pool [(2, .class_ 4), (1, u "java/lang/Object"), (3, .class_ 10), (1, u "com/example/kapsam/kapsam/reader/SubsetScanner$State"), (1, u "Lcom/example/kapsam/kapsam/reader/SubsetScanner$State;"), (1, .class_ 16), (1, u "com/example/kapsam/kapsam/reader/SubsetScanner"), (0, u "state"), (5, u "name"), (0, u "Lcom/example/kapsam/kapsam/reader/CharacterBuffer;"), (2, u "data"), (5, u "commentText"), (0, u "Ljava/lang/StringBuilder;"), (2, u "boundsReported"), (0, u "Z"), (2, u "boundsKnown"), (1, .class_ 45), (1, u "com/example/kapsam/kapsam/reader/SubsetScanner$Withheld"), (1, u "Lcom/example/kapsam/kapsam/reader/SubsetScanner$Withheld;"), (2, u "withheld"), (1, .class_ 54), (1, u "com/example/kapsam/kapsam/reader/SubsetScanner$EntityCopy"), (0, u "Lcom/example/kapsam/kapsam/reader/SubsetScanner$EntityCopy;"), (2, u "entityCopy"), (2, u "value"), (2, u "valueReference"), (8, u "uncountedBefore"), (0, u "Ljava/util/Map;"), (2, u "found"), (0, u "Ljava/util/Queue;"), (2, u "inSubset"), (2, u "xml11"), (2, u "readerText"), (0, u "Lcom/example/kapsam/kapsam/reader/SubsetScanner$ReaderText;"), (2, u "entities"), (0, u "Lcom/example/kapsam/kapsam/reader/SubsetEntities;"), (2, u "attributes"), (0, u "Lcom/example/kapsam/kapsam/reader/SubsetAttributes;"), (2, u "lexical"), (7, u "position"), (0, u "Lcom/example/kapsam/kapsam/reader/TextPosition;"), (21, u "documentText"), (2, u "literalOwner"), (0, u "Lcom/example/kapsam/kapsam/reader/SubsetScanner;"), (3, .class_ 139), (0, u "com/example/kapsam/kapsam/reader/SubsetScanner$Unread"), (6, u "walking"), (20, u "steps"), (0, u "Lcom/example/kapsam/kapsam/reader/SubsetScanner$Steps;"), (24, u "withholding"), (2, u "lastWithheldList"), (0, u "Lcom/example/kapsam/kapsam/reader/SubsetMarkup;"), (1, .class_ 201), (1, u "com/example/kapsam/kapsam/reader/SubsetScanner$ReaderText"), (113, u "nested"), (2, u "parent"), (4, .class_ 325), (1, u "com/example/kapsam/kapsam/reader/SubsetScanner$Steps"), (60, .class_ 388), (1, u "com/example/kapsam/kapsam/reader/SubsetScanner$Fate"), (1, u "Lcom/example/kapsam/kapsam/reader/SubsetScanner$Fate;"), (2, u "given"), (5, u "attributeList"), (0, u "Lcom/example/kapsam/kapsam/reader/AttributeListScanner;"), (16, u "isSpace"), (35, u "dueAtBoundary"), (5, u "boundsOwed"), (0, u "Lcom/example/kapsam/kapsam/reader/CopiedText;"), (15, u "afterHighSurrogate"), (14, u "copyingStart"), (6, u "givenStart"), (5, u "(CZ)Z"), (46, u "heldFrom"), (0, u "I"), (4, u "asciiName"), (8, u "dashes"), (4, u "heldOpener"), (2, u "heldDashes"), (2, u "commentWithheld"), (8, u "entityOpener"), (5, u "bareTarget"), (42, u "referenceWithheld"), (4, u "ATTLIST"), (32, u "publicRead"), (10, u "parameterEntity"), (5, u "entityName"), (0, u "Ljava/lang/String;"), (11, u "quote"), (0, u "C"), (11, u "literalRead"), (5, u "publicLines"), (15, u "literalDepth"), (4, .class_ 745), (1, u "com/example/kapsam/kapsam/reader/SubsetScanner$Piece"), (11, u "commentLines"), (119, u "boundsOwedPiece"), (39, u "ENTITY"), (4, u "DOCTYPE"), (2, u "inDoctype"), (6, u "ELEMENT"), (1, u "NOTATION"), (2, u "elementOrNotation"), (7, u "PUBLIC"), (8, u "unparsed"), (2, u "entityKind"), (0, u "Lcom/example/kapsam/kapsam/reader/SubsetEntities$Kind;"), (16, u "entityQuote"), (4, u "valueLines"), (2, u "valueRun"), (2, u "inValueReference"), (2, u "valueRead"), (8, u "entityStart"), (12, u "literalEmptied"), (2, u "valueWalked"), (2, u "walkedBefore"), (2, u "valueAdded"), (0, u "Lcom/example/kapsam/kapsam/reader/AddedBrackets;"), (2, u "pendingFrom"), (5, u "valueText"), (0, u "Lcom/example/kapsam/kapsam/reader/SubsetScanner$Unread;"), (6, u "valueScanner"), (7, u "valueMarkup"), (0, u "Lcom/example/kapsam/kapsam/reader/MarkupWalk;"), (11, u "referenceFrom"), (78, u "pendingRepeatable"), (3, u "repeatableCopy"), (10, u "repeatableWalked"), (16, u "pendingHeld"), (2, u "pendingCopied"), (24, u "followedEntity"), (8, u "events"), (11, u "expandedBefore"), (0, u "J"), (5, u "textBefore"), (53, u "replacement"), (0, u "Ljava/nio/CharBuffer;"), (22, u "expandedUnfollowed"), (2, u "textUnfollowed"), (17, .class_ 1327), (1, u "com/example/kapsam/kapsam/reader/SubsetScanner$1"), (49, u "ASCII_NAME"), (0, u "[B"), (5, u "COMMENT_OPENER"), (1, u "RESERVED_TARGET"), (0, u "LITERAL_DEPTH"), (1, u "LITERAL_KEPT"), (0, u "NAME_PART"), (0, u "B"), (1, u "NAME_START")] 89

def k2c0 : Code := { maxStack := 2, maxLocals := 2, code := prog_87_method_104_code, exceptionTable := #[], attributes := #[] }
def k2m0 : Method := { name := "isSpace", desc := "(CZ)Z", sig := { parameters := [.char, .boolean], returnType := some .boolean }, accessFlags := 8, code := some k2c0 }
/-- com/example/kapsam/kapsam/reader/SubsetScanner -/
def k2 : Class := { plain "com/example/kapsam/kapsam/reader/SubsetScanner" (some 0) with
  accessFlags := 32
  interfaces := #[]
  cf := some (fileOf pool2 14 #[.nestMembers #[1325, 138, 52, 386, 43, 8, 323, 743, 199]] #[{ accessFlags := 8, nameIndex := 417, descriptorIndex := 504, attributes := #[] }] 32 2 #[] #[{ accessFlags := 26, nameIndex := 922, descriptorIndex := 691, attributes := #[] }, { accessFlags := 26, nameIndex := 640, descriptorIndex := 691, attributes := #[] }, { accessFlags := 26, nameIndex := 1384, descriptorIndex := 552, attributes := #[] }, { accessFlags := 26, nameIndex := 917, descriptorIndex := 691, attributes := #[] }, { accessFlags := 26, nameIndex := 932, descriptorIndex := 691, attributes := #[] }, { accessFlags := 26, nameIndex := 934, descriptorIndex := 691, attributes := #[] }, { accessFlags := 26, nameIndex := 945, descriptorIndex := 691, attributes := #[] }, { accessFlags := 26, nameIndex := 1386, descriptorIndex := 691, attributes := #[] }, { accessFlags := 26, nameIndex := 1387, descriptorIndex := 552, attributes := #[] }, { accessFlags := 26, nameIndex := 1389, descriptorIndex := 552, attributes := #[] }, { accessFlags := 26, nameIndex := 1390, descriptorIndex := 1391, attributes := #[] }, { accessFlags := 26, nameIndex := 1393, descriptorIndex := 1391, attributes := #[] }, { accessFlags := 26, nameIndex := 1377, descriptorIndex := 1378, attributes := #[] }, { accessFlags := 18, nameIndex := 77, descriptorIndex := 78, attributes := #[] }, { accessFlags := 18, nameIndex := 84, descriptorIndex := 38, attributes := #[] }, { accessFlags := 18, nameIndex := 99, descriptorIndex := 38, attributes := #[] }, { accessFlags := 2, nameIndex := 17, descriptorIndex := 12, attributes := #[] }, { accessFlags := 2, nameIndex := 81, descriptorIndex := 38, attributes := #[] }, { accessFlags := 2, nameIndex := 925, descriptorIndex := 38, attributes := #[] }, { accessFlags := 2, nameIndex := 703, descriptorIndex := 704, attributes := #[] }, { accessFlags := 2, nameIndex := 673, descriptorIndex := 552, attributes := #[] }, { accessFlags := 2, nameIndex := 722, descriptorIndex := 108, attributes := #[] }, { accessFlags := 2, nameIndex := 566, descriptorIndex := 552, attributes := #[] }, { accessFlags := 18, nameIndex := 23, descriptorIndex := 24, attributes := #[] }, { accessFlags := 18, nameIndex := 27, descriptorIndex := 24, attributes := #[] }, { accessFlags := 18, nameIndex := 33, descriptorIndex := 34, attributes := #[] }, { accessFlags := 2, nameIndex := 757, descriptorIndex := 108, attributes := #[] }, { accessFlags := 2, nameIndex := 577, descriptorIndex := 38, attributes := #[] }, { accessFlags := 2, nameIndex := 37, descriptorIndex := 38, attributes := #[] }, { accessFlags := 2, nameIndex := 459, descriptorIndex := 460, attributes := #[] }, { accessFlags := 2, nameIndex := 877, descriptorIndex := 552, attributes := #[] }, { accessFlags := 2, nameIndex := 41, descriptorIndex := 38, attributes := #[] }, { accessFlags := 2, nameIndex := 1207, descriptorIndex := 552, attributes := #[] }, { accessFlags := 2, nameIndex := 937, descriptorIndex := 38, attributes := #[] }, { accessFlags := 2, nameIndex := 716, descriptorIndex := 38, attributes := #[] }, { accessFlags := 2, nameIndex := 954, descriptorIndex := 38, attributes := #[] }, { accessFlags := 18, nameIndex := 107, descriptorIndex := 108, attributes := #[] }, { accessFlags := 18, nameIndex := 87, descriptorIndex := 88, attributes := #[] }, { accessFlags := 2, nameIndex := 193, descriptorIndex := 38, attributes := #[] }, { accessFlags := 2, nameIndex := 50, descriptorIndex := 47, attributes := #[] }, { accessFlags := 2, nameIndex := 571, descriptorIndex := 552, attributes := #[] }, { accessFlags := 2, nameIndex := 574, descriptorIndex := 552, attributes := #[] }, { accessFlags := 2, nameIndex := 592, descriptorIndex := 38, attributes := #[] }, { accessFlags := 2, nameIndex := 393, descriptorIndex := 390, attributes := #[] }, { accessFlags := 2, nameIndex := 476, descriptorIndex := 38, attributes := #[] }, { accessFlags := 18, nameIndex := 91, descriptorIndex := 92, attributes := #[] }, { accessFlags := 18, nameIndex := 95, descriptorIndex := 96, attributes := #[] }, { accessFlags := 2, nameIndex := 399, descriptorIndex := 400, attributes := #[] }, { accessFlags := 2, nameIndex := 196, descriptorIndex := 197, attributes := #[] }, { accessFlags := 2, nameIndex := 453, descriptorIndex := 38, attributes := #[] }, { accessFlags := 2, nameIndex := 491, descriptorIndex := 38, attributes := #[] }, { accessFlags := 2, nameIndex := 498, descriptorIndex := 460, attributes := #[] }, { accessFlags := 2, nameIndex := 551, descriptorIndex := 552, attributes := #[] }, { accessFlags := 2, nameIndex := 58, descriptorIndex := 55, attributes := #[] }, { accessFlags := 2, nameIndex := 586, descriptorIndex := 460, attributes := #[] }, { accessFlags := 2, nameIndex := 998, descriptorIndex := 460, attributes := #[] }, { accessFlags := 2, nameIndex := 975, descriptorIndex := 460, attributes := #[] }, { accessFlags := 2, nameIndex := 1011, descriptorIndex := 460, attributes := #[] }, { accessFlags := 2, nameIndex := 690, descriptorIndex := 691, attributes := #[] }, { accessFlags := 2, nameIndex := 684, descriptorIndex := 38, attributes := #[] }, { accessFlags := 2, nameIndex := 957, descriptorIndex := 958, attributes := #[] }, { accessFlags := 18, nameIndex := 61, descriptorIndex := 34, attributes := #[] }, { accessFlags := 18, nameIndex := 64, descriptorIndex := 34, attributes := #[] }, { accessFlags := 2, nameIndex := 980, descriptorIndex := 108, attributes := #[] }, { accessFlags := 2, nameIndex := 983, descriptorIndex := 38, attributes := #[] }, { accessFlags := 2, nameIndex := 986, descriptorIndex := 38, attributes := #[] }, { accessFlags := 2, nameIndex := 1038, descriptorIndex := 134, attributes := #[] }, { accessFlags := 2, nameIndex := 1030, descriptorIndex := 1031, attributes := #[] }, { accessFlags := 2, nameIndex := 1046, descriptorIndex := 1047, attributes := #[] }, { accessFlags := 2, nameIndex := 1014, descriptorIndex := 552, attributes := #[] }, { accessFlags := 2, nameIndex := 989, descriptorIndex := 552, attributes := #[] }, { accessFlags := 2, nameIndex := 1059, descriptorIndex := 552, attributes := #[] }, { accessFlags := 2, nameIndex := 133, descriptorIndex := 134, attributes := #[] }, { accessFlags := 2, nameIndex := 738, descriptorIndex := 552, attributes := #[] }, { accessFlags := 2, nameIndex := 1024, descriptorIndex := 552, attributes := #[] }, { accessFlags := 2, nameIndex := 1170, descriptorIndex := 38, attributes := #[] }, { accessFlags := 2, nameIndex := 1173, descriptorIndex := 38, attributes := #[] }, { accessFlags := 2, nameIndex := 1138, descriptorIndex := 38, attributes := #[] }, { accessFlags := 2, nameIndex := 1142, descriptorIndex := 460, attributes := #[] }, { accessFlags := 2, nameIndex := 1017, descriptorIndex := 552, attributes := #[] }, { accessFlags := 2, nameIndex := 1153, descriptorIndex := 552, attributes := #[] }, { accessFlags := 2, nameIndex := 1020, descriptorIndex := 1021, attributes := #[] }, { accessFlags := 2, nameIndex := 635, descriptorIndex := 38, attributes := #[] }, { accessFlags := 2, nameIndex := 1219, descriptorIndex := 1220, attributes := #[] }, { accessFlags := 2, nameIndex := 1304, descriptorIndex := 1220, attributes := #[] }, { accessFlags := 2, nameIndex := 1226, descriptorIndex := 1220, attributes := #[] }, { accessFlags := 2, nameIndex := 1307, descriptorIndex := 1220, attributes := #[] }, { accessFlags := 2, nameIndex := 73, descriptorIndex := 74, attributes := #[] }, { accessFlags := 2, nameIndex := 557, descriptorIndex := 38, attributes := #[] }, { accessFlags := 2, nameIndex := 130, descriptorIndex := 38, attributes := #[] }, { accessFlags := 2, nameIndex := 318, descriptorIndex := 134, attributes := #[] }, { accessFlags := 2, nameIndex := 1198, descriptorIndex := 691, attributes := #[] }, { accessFlags := 2, nameIndex := 1280, descriptorIndex := 1281, attributes := #[] }, { accessFlags := 2, nameIndex := 315, descriptorIndex := 134, attributes := #[] }, { accessFlags := 2, nameIndex := 167, descriptorIndex := 168, attributes := #[] }, { accessFlags := 2, nameIndex := 146, descriptorIndex := 134, attributes := #[] }])
  fields := #[{ name := "DOCTYPE", type := (.object "java/lang/String"), accessFlags := 26, slot := 0, constantValue := 0 }, { name := "ATTLIST", type := (.object "java/lang/String"), accessFlags := 26, slot := 1, constantValue := 0 }, { name := "COMMENT_OPENER", type := .int, accessFlags := 26, slot := 2, constantValue := 0 }, { name := "ENTITY", type := (.object "java/lang/String"), accessFlags := 26, slot := 3, constantValue := 0 }, { name := "ELEMENT", type := (.object "java/lang/String"), accessFlags := 26, slot := 4, constantValue := 0 }, { name := "NOTATION", type := (.object "java/lang/String"), accessFlags := 26, slot := 5, constantValue := 0 }, { name := "PUBLIC", type := (.object "java/lang/String"), accessFlags := 26, slot := 6, constantValue := 0 }, { name := "RESERVED_TARGET", type := (.object "java/lang/String"), accessFlags := 26, slot := 7, constantValue := 0 }, { name := "LITERAL_DEPTH", type := .int, accessFlags := 26, slot := 8, constantValue := 0 }, { name := "LITERAL_KEPT", type := .int, accessFlags := 26, slot := 9, constantValue := 0 }, { name := "NAME_PART", type := .byte, accessFlags := 26, slot := 10, constantValue := 0 }, { name := "NAME_START", type := .byte, accessFlags := 26, slot := 11, constantValue := 0 }, { name := "ASCII_NAME", type := (.array .byte), accessFlags := 26, slot := 12, constantValue := 0 }, { name := "found", type := (.object "java/util/Queue"), accessFlags := 18, slot := 0, constantValue := 0 }, { name := "xml11", type := .boolean, accessFlags := 18, slot := 1, constantValue := 0 }, { name := "lexical", type := .boolean, accessFlags := 18, slot := 2, constantValue := 0 }, { name := "state", type := (.object "com/example/kapsam/kapsam/reader/SubsetScanner$State"), accessFlags := 2, slot := 3, constantValue := 0 }, { name := "inSubset", type := .boolean, accessFlags := 2, slot := 4, constantValue := 0 }, { name := "inDoctype", type := .boolean, accessFlags := 2, slot := 5, constantValue := 0 }, { name := "quote", type := .char, accessFlags := 2, slot := 6, constantValue := 0 }, { name := "publicRead", type := .int, accessFlags := 2, slot := 7, constantValue := 0 }, { name := "publicLines", type := (.object "com/example/kapsam/kapsam/reader/TextPosition"), accessFlags := 2, slot := 8, constantValue := 0 }, { name := "dashes", type := .int, accessFlags := 2, slot := 9, constantValue := 0 }, { name := "name", type := (.object "com/example/kapsam/kapsam/reader/CharacterBuffer"), accessFlags := 18, slot := 10, constantValue := 0 }, { name := "data", type := (.object "com/example/kapsam/kapsam/reader/CharacterBuffer"), accessFlags := 18, slot := 11, constantValue := 0 }, { name := "commentText", type := (.object "java/lang/StringBuilder"), accessFlags := 18, slot := 12, constantValue := 0 }, { name := "commentLines", type := (.object "com/example/kapsam/kapsam/reader/TextPosition"), accessFlags := 2, slot := 13, constantValue := 0 }, { name := "commentWithheld", type := .boolean, accessFlags := 2, slot := 14, constantValue := 0 }, { name := "boundsReported", type := .boolean, accessFlags := 2, slot := 15, constantValue := 0 }, { name := "boundsOwed", type := (.object "com/example/kapsam/kapsam/reader/CopiedText"), accessFlags := 2, slot := 16, constantValue := 0 }, { name := "boundsOwedPiece", type := .int, accessFlags := 2, slot := 17, constantValue := 0 }, { name := "boundsKnown", type := .boolean, accessFlags := 2, slot := 18, constantValue := 0 }, { name := "events", type := .int, accessFlags := 2, slot := 19, constantValue := 0 }, { name := "elementOrNotation", type := .boolean, accessFlags := 2, slot := 20, constantValue := 0 }, { name := "literalRead", type := .boolean, accessFlags := 2, slot := 21, constantValue := 0 }, { name := "unparsed", type := .boolean, accessFlags := 2, slot := 22, constantValue := 0 }, { name := "position", type := (.object "com/example/kapsam/kapsam/reader/TextPosition"), accessFlags := 18, slot := 23, constantValue := 0 }, { name := "readerText", type := (.object "com/example/kapsam/kapsam/reader/SubsetScanner$ReaderText"), accessFlags := 18, slot := 24, constantValue := 0 }, { name := "withholding", type := .boolean, accessFlags := 2, slot := 25, constantValue := 0 }, { name := "withheld", type := (.object "com/example/kapsam/kapsam/reader/SubsetScanner$Withheld"), accessFlags := 2, slot := 26, constantValue := 0 }, { name := "heldOpener", type := .int, accessFlags := 2, slot := 27, constantValue := 0 }, { name := "heldDashes", type := .int, accessFlags := 2, slot := 28, constantValue := 0 }, { name := "bareTarget", type := .boolean, accessFlags := 2, slot := 29, constantValue := 0 }, { name := "given", type := (.object "com/example/kapsam/kapsam/reader/SubsetScanner$Fate"), accessFlags := 2, slot := 30, constantValue := 0 }, { name := "afterHighSurrogate", type := .boolean, accessFlags := 2, slot := 31, constantValue := 0 }, { name := "entities", type := (.object "com/example/kapsam/kapsam/reader/SubsetEntities"), accessFlags := 18, slot := 32, constantValue := 0 }, { name := "attributes", type := (.object "com/example/kapsam/kapsam/reader/SubsetAttributes"), accessFlags := 18, slot := 33, constantValue := 0 }, { name := "attributeList", type := (.object "com/example/kapsam/kapsam/reader/AttributeListScanner"), accessFlags := 2, slot := 34, constantValue := 0 }, { name := "lastWithheldList", type := (.object "com/example/kapsam/kapsam/reader/SubsetMarkup"), accessFlags := 2, slot := 35, constantValue := 0 }, { name := "dueAtBoundary", type := .boolean, accessFlags := 2, slot := 36, constantValue := 0 }, { name := "copyingStart", type := .boolean, accessFlags := 2, slot := 37, constantValue := 0 }, { name := "givenStart", type := (.object "com/example/kapsam/kapsam/reader/CopiedText"), accessFlags := 2, slot := 38, constantValue := 0 }, { name := "heldFrom", type := .int, accessFlags := 2, slot := 39, constantValue := 0 }, { name := "entityCopy", type := (.object "com/example/kapsam/kapsam/reader/SubsetScanner$EntityCopy"), accessFlags := 2, slot := 40, constantValue := 0 }, { name := "entityOpener", type := (.object "com/example/kapsam/kapsam/reader/CopiedText"), accessFlags := 2, slot := 41, constantValue := 0 }, { name := "entityStart", type := (.object "com/example/kapsam/kapsam/reader/CopiedText"), accessFlags := 2, slot := 42, constantValue := 0 }, { name := "entityQuote", type := (.object "com/example/kapsam/kapsam/reader/CopiedText"), accessFlags := 2, slot := 43, constantValue := 0 }, { name := "literalEmptied", type := (.object "com/example/kapsam/kapsam/reader/CopiedText"), accessFlags := 2, slot := 44, constantValue := 0 }, { name := "entityName", type := (.object "java/lang/String"), accessFlags := 2, slot := 45, constantValue := 0 }, { name := "parameterEntity", type := .boolean, accessFlags := 2, slot := 46, constantValue := 0 }, { name := "entityKind", type := (.object "com/example/kapsam/kapsam/reader/SubsetEntities$Kind"), accessFlags := 2, slot := 47, constantValue := 0 }, { name := "value", type := (.object "java/lang/StringBuilder"), accessFlags := 18, slot := 48, constantValue := 0 }, { name := "valueReference", type := (.object "java/lang/StringBuilder"), accessFlags := 18, slot := 49, constantValue := 0 }, { name := "valueLines", type := (.object "com/example/kapsam/kapsam/reader/TextPosition"), accessFlags := 2, slot := 50, constantValue := 0 }, { name := "valueRun", type := .boolean, accessFlags := 2, slot := 51, constantValue := 0 }, { name := "inValueReference", type := .boolean, accessFlags := 2, slot := 52, constantValue := 0 }, { name := "valueScanner", type := (.object "com/example/kapsam/kapsam/reader/SubsetScanner"), accessFlags := 2, slot := 53, constantValue := 0 }, { name := "valueText", type := (.object "com/example/kapsam/kapsam/reader/SubsetScanner$Unread"), accessFlags := 2, slot := 54, constantValue := 0 }, { name := "valueMarkup", type := (.object "com/example/kapsam/kapsam/reader/MarkupWalk"), accessFlags := 2, slot := 55, constantValue := 0 }, { name := "valueWalked", type := .int, accessFlags := 2, slot := 56, constantValue := 0 }, { name := "valueRead", type := .int, accessFlags := 2, slot := 57, constantValue := 0 }, { name := "referenceFrom", type := .int, accessFlags := 2, slot := 58, constantValue := 0 }, { name := "literalOwner", type := (.object "com/example/kapsam/kapsam/reader/SubsetScanner"), accessFlags := 2, slot := 59, constantValue := 0 }, { name := "literalDepth", type := .int, accessFlags := 2, slot := 60, constantValue := 0 }, { name := "pendingFrom", type := .int, accessFlags := 2, slot := 61, constantValue := 0 }, { name := "pendingHeld", type := .boolean, accessFlags := 2, slot := 62, constantValue := 0 }, { name := "pendingCopied", type := .boolean, accessFlags := 2, slot := 63, constantValue := 0 }, { name := "pendingRepeatable", type := .boolean, accessFlags := 2, slot := 64, constantValue := 0 }, { name := "repeatableCopy", type := (.object "com/example/kapsam/kapsam/reader/CopiedText"), accessFlags := 2, slot := 65, constantValue := 0 }, { name := "walkedBefore", type := .int, accessFlags := 2, slot := 66, constantValue := 0 }, { name := "repeatableWalked", type := .int, accessFlags := 2, slot := 67, constantValue := 0 }, { name := "valueAdded", type := (.object "com/example/kapsam/kapsam/reader/AddedBrackets"), accessFlags := 2, slot := 68, constantValue := 0 }, { name := "referenceWithheld", type := .boolean, accessFlags := 2, slot := 69, constantValue := 0 }, { name := "expandedBefore", type := .long, accessFlags := 2, slot := 70, constantValue := 0 }, { name := "expandedUnfollowed", type := .long, accessFlags := 2, slot := 71, constantValue := 0 }, { name := "textBefore", type := .long, accessFlags := 2, slot := 72, constantValue := 0 }, { name := "textUnfollowed", type := .long, accessFlags := 2, slot := 73, constantValue := 0 }, { name := "uncountedBefore", type := (.object "java/util/Map"), accessFlags := 2, slot := 74, constantValue := 0 }, { name := "asciiName", type := .boolean, accessFlags := 2, slot := 75, constantValue := 0 }, { name := "documentText", type := .boolean, accessFlags := 2, slot := 76, constantValue := 0 }, { name := "parent", type := (.object "com/example/kapsam/kapsam/reader/SubsetScanner"), accessFlags := 2, slot := 77, constantValue := 0 }, { name := "followedEntity", type := (.object "java/lang/String"), accessFlags := 2, slot := 78, constantValue := 0 }, { name := "replacement", type := (.object "java/nio/CharBuffer"), accessFlags := 2, slot := 79, constantValue := 0 }, { name := "nested", type := (.object "com/example/kapsam/kapsam/reader/SubsetScanner"), accessFlags := 2, slot := 80, constantValue := 0 }, { name := "steps", type := (.object "com/example/kapsam/kapsam/reader/SubsetScanner$Steps"), accessFlags := 2, slot := 81, constantValue := 0 }, { name := "walking", type := (.object "com/example/kapsam/kapsam/reader/SubsetScanner"), accessFlags := 2, slot := 82, constantValue := 0 }]
  methods := #[k2m0]
  instanceTypes := #[(.object "java/util/Queue"), .boolean, .boolean, (.object "com/example/kapsam/kapsam/reader/SubsetScanner$State"), .boolean, .boolean, .char, .int, (.object "com/example/kapsam/kapsam/reader/TextPosition"), .int, (.object "com/example/kapsam/kapsam/reader/CharacterBuffer"), (.object "com/example/kapsam/kapsam/reader/CharacterBuffer"), (.object "java/lang/StringBuilder"), (.object "com/example/kapsam/kapsam/reader/TextPosition"), .boolean, .boolean, (.object "com/example/kapsam/kapsam/reader/CopiedText"), .int, .boolean, .int, .boolean, .boolean, .boolean, (.object "com/example/kapsam/kapsam/reader/TextPosition"), (.object "com/example/kapsam/kapsam/reader/SubsetScanner$ReaderText"), .boolean, (.object "com/example/kapsam/kapsam/reader/SubsetScanner$Withheld"), .int, .int, .boolean, (.object "com/example/kapsam/kapsam/reader/SubsetScanner$Fate"), .boolean, (.object "com/example/kapsam/kapsam/reader/SubsetEntities"), (.object "com/example/kapsam/kapsam/reader/SubsetAttributes"), (.object "com/example/kapsam/kapsam/reader/AttributeListScanner"), (.object "com/example/kapsam/kapsam/reader/SubsetMarkup"), .boolean, .boolean, (.object "com/example/kapsam/kapsam/reader/CopiedText"), .int, (.object "com/example/kapsam/kapsam/reader/SubsetScanner$EntityCopy"), (.object "com/example/kapsam/kapsam/reader/CopiedText"), (.object "com/example/kapsam/kapsam/reader/CopiedText"), (.object "com/example/kapsam/kapsam/reader/CopiedText"), (.object "com/example/kapsam/kapsam/reader/CopiedText"), (.object "java/lang/String"), .boolean, (.object "com/example/kapsam/kapsam/reader/SubsetEntities$Kind"), (.object "java/lang/StringBuilder"), (.object "java/lang/StringBuilder"), (.object "com/example/kapsam/kapsam/reader/TextPosition"), .boolean, .boolean, (.object "com/example/kapsam/kapsam/reader/SubsetScanner"), (.object "com/example/kapsam/kapsam/reader/SubsetScanner$Unread"), (.object "com/example/kapsam/kapsam/reader/MarkupWalk"), .int, .int, .int, (.object "com/example/kapsam/kapsam/reader/SubsetScanner"), .int, .int, .boolean, .boolean, .boolean, (.object "com/example/kapsam/kapsam/reader/CopiedText"), .int, .int, (.object "com/example/kapsam/kapsam/reader/AddedBrackets"), .boolean, .long, .long, .long, .long, (.object "java/util/Map"), .boolean, .boolean, (.object "com/example/kapsam/kapsam/reader/SubsetScanner"), (.object "java/lang/String"), (.object "java/nio/CharBuffer"), (.object "com/example/kapsam/kapsam/reader/SubsetScanner"), (.object "com/example/kapsam/kapsam/reader/SubsetScanner$Steps"), (.object "com/example/kapsam/kapsam/reader/SubsetScanner")]
  staticTypes := #[(.object "java/lang/String"), (.object "java/lang/String"), .int, (.object "java/lang/String"), (.object "java/lang/String"), (.object "java/lang/String"), (.object "java/lang/String"), (.object "java/lang/String"), .int, .int, .byte, .byte, (.array .byte)]
  resolved := Array.replicate 1483 none
  statics := none }

def pool3 : Array CpInfo := pool [(1, u "java/lang/Cloneable"), (0, .class_ 1), (0, u "java/lang/Object"), (0, .class_ 3)] 3

/-- java/lang/Cloneable -/
def k3 : Class := { plain "java/lang/Cloneable" (some 0) with
  accessFlags := 1537
  interfaces := #[]
  cf := some (fileOf pool3 2 #[] #[] 1537 4 #[] #[])
  fields := #[]
  methods := #[]
  instanceTypes := #[]
  staticTypes := #[]
  resolved := Array.replicate 8 none
  statics := none }

def pool4 : Array CpInfo := pool [(1, u "java/io/Serializable"), (0, .class_ 1), (0, u "java/lang/Object"), (0, .class_ 3)] 3

/-- java/io/Serializable -/
def k4 : Class := { plain "java/io/Serializable" (some 0) with
  accessFlags := 1537
  interfaces := #[]
  cf := some (fileOf pool4 2 #[] #[] 1537 4 #[] #[])
  fields := #[]
  methods := #[]
  instanceTypes := #[]
  staticTypes := #[]
  resolved := Array.replicate 8 none
  statics := none }

/-- the primitive byte -/
def k5 : Class := { plain "byte" none with kind := .primitive 'B', accessFlags := 0x411 }
/-- [B -/
def k6 : Class := { plain "[B" (some 0) with kind := .array 5 .byte, interfaces := #[3, 4], accessFlags := 1041 }

/-- the primitive int -/
def k7 : Class := { plain "int" none with kind := .primitive 'I', accessFlags := 0x411 }
/-- [I -/
def k8 : Class := { plain "[I" (some 0) with kind := .array 7 .int, interfaces := #[3, 4], accessFlags := 1041 }

def heap : Heap := #[]
def classes : Array Class := #[k0, k1, k2, k3, k4, k5, k6, k7, k8]
def interned : List (Array UInt16 × Addr) := []
def slotsUsed : Nat := 0
def theMethod : MethodId := ⟨1, 2⟩
def args0 : Array Value := #[.int 5, .int 5]
def aboutOver (below : List Frame) : State where
  vm := { classes := classes, interned := interned.toArray }
  heap := heap
  slotsUsed := slotsUsed
  threads := #[{ frames := .invoking theMethod args0 :: below }]
def below0 : List Frame := [.native { method := ⟨0, 0⟩, args := #[] }]
def about1 : State := aboutOver below0
def p0 : Program := .bare "" "" ""
def e0 : Env := launch0.env 0 0 0
theorem w_frames : about1.frames = Frame.invoking theMethod args0 :: below0 := rfl
set_option maxRecDepth 65536 in
theorem w_args : argsFit about1.vm theMethod args0 = true := by decide +kernel
set_option maxRecDepth 65536 in
theorem w_heap : heapFits about1 = true := by decide +kernel
set_option maxRecDepth 65536 in
theorem w_runnable : about1.curStatus? = some .runnable := by decide +kernel
set_option maxRecDepth 65536 in
theorem w_alone : about1.alone = true := by decide +kernel
set_option maxRecDepth 65536 in
theorem w_named : about1.methodNamed? x = some theMethod := by decide +kernel
set_option maxRecDepth 65536 in
theorem w_hears : about1.hears theMethod below0 = true := by decide +kernel
set_option maxRecDepth 65536 in
theorem w_ripe : about1.ripe theMethod args0 below0 = true := by decide +kernel
theorem w_running : about1.status = .running := rfl
set_option maxRecDepth 65536 in
theorem w_room : about1.hasRoom e0.platform room_1 = true :=
  launch0.hasRoom_least _ room_1 (by decide +kernel) (by decide +kernel) (by decide +kernel) (by decide +kernel) (by decide +kernel) (by decide +kernel)
theorem allAtoms_all (ts : List Jvm.Cond) (a : Array Jvm.Value) (st : Jvm.State) : (allAtoms ts).before a st = ts.all (fun c => c.before a st) := by
  induction ts with
  | nil => rfl
  | cons c t ih =>
    show (Jvm.Cond.and c (allAtoms t)).before a st = _
    rw [Jvm.Cond.before_and, ih, List.all_cons]
def words1 : List Jvm.Cond := Jvm.Cond.code x code maxLocals ret :: tables_1
/-- a 'code' word, met by the world's own term for the bytes: nothing is compared byte by byte -/
theorem code_word {y : MethodName} {bytes : ByteArray} {mx : Nat} {rt : Option FieldType} {a : Array Value} {s : State} {m : MethodId} {meth : Method} {c : Code} (h1 : s.methodNamed? y = some m) (h2 : s.vm.method? m = some meth) (h3 : meth.code = some c) (h4 : c.code = bytes)
    (h5 : (c.maxLocals == mx && c.exceptionTable.isEmpty && decide (c.maxStack ≤ mostOperands) && decide (meth.sig.returnType = rt) && !meth.locks && decide (parseMethodDescriptor y.desc = some meth.sig)) = true) : (Jvm.Cond.code y bytes mx rt).before a s = true := by
  simp only [Bool.and_eq_true, beq_iff_eq, Bool.not_eq_true', decide_eq_true_eq] at h5
  obtain ⟨⟨⟨⟨⟨g1, g2⟩, g3⟩, g4⟩, g5⟩, g6⟩ := h5
  simp [Cond.before, Cond.holds, Cond.value, h1, h2, h3, h4, g1, g2, g3, g4, g5, g6]
def isCode : Jvm.Cond → Bool
  | .code _ _ _ _ => true
  | _ => false
theorem all_split {L : List Jvm.Cond} {P : Jvm.Cond → Bool} (h1 : L.all (fun c => isCode c || P c) = true) (h2 : ∀ c ∈ L.filter isCode, P c = true) : L.all P = true := by
  refine List.all_eq_true.mpr fun c hc => ?_
  have h := List.all_eq_true.mp h1 c hc
  rcases Bool.eq_false_or_eq_true (isCode c) with hi | hi
  · exact h2 c (List.mem_filter.mpr ⟨hc, hi⟩)
  · simpa [hi] using h
set_option maxRecDepth 65536 in
theorem w_c0 : (Jvm.Cond.code x code maxLocals ret).before args0 about1 = true := code_word (m := ⟨1, 2⟩) (meth := k1m2) (c := k1c2) (by decide +kernel) rfl rfl rfl (by decide +kernel)
set_option maxRecDepth 65536 in
theorem w_c1 : (Jvm.Cond.code ({ cls := "com/example/kapsam/kapsam/reader/SubsetScanner", name := "isSpace", desc := "(CZ)Z" } : Jvm.MethodName) prog_87_method_104_code (2 : Nat) (Option.some Jvm.ClassFile.FieldType.boolean)).before args0 about1 = true := code_word (m := ⟨2, 0⟩) (meth := k2m0) (c := k2c0) (by decide +kernel) rfl rfl rfl (by decide +kernel)
set_option maxRecDepth 65536 in
theorem w_c2 : (Jvm.Cond.code ({ cls := "com/example/kapsam/kapsam/reader/SubsetScannerIsSpacePinLaw", name := "reference", desc := "(IZ)Z" } : Jvm.MethodName) method_2_code (4 : Nat) (Option.some Jvm.ClassFile.FieldType.boolean)).before args0 about1 = true := code_word (m := ⟨1, 1⟩) (meth := k1m1) (c := k1c1) (by decide +kernel) rfl rfl rfl (by decide +kernel)
def codes1 : List Jvm.Cond := [Jvm.Cond.code x code maxLocals ret, Jvm.Cond.code ({ cls := "com/example/kapsam/kapsam/reader/SubsetScanner", name := "isSpace", desc := "(CZ)Z" } : Jvm.MethodName) prog_87_method_104_code (2 : Nat) (Option.some Jvm.ClassFile.FieldType.boolean), Jvm.Cond.code ({ cls := "com/example/kapsam/kapsam/reader/SubsetScannerIsSpacePinLaw", name := "reference", desc := "(IZ)Z" } : Jvm.MethodName) method_2_code (4 : Nat) (Option.some Jvm.ClassFile.FieldType.boolean)]
set_option maxRecDepth 65536 in
theorem codes_eq : words1.filter isCode = codes1 := rfl
theorem w_codes : ∀ c ∈ words1.filter isCode, c.before args0 about1 = true := by
  rw [codes_eq]
  intro c hc
  simp only [codes1, List.mem_cons, List.not_mem_nil, or_false] at hc
  rcases hc with rfl | rfl | rfl
  · exact w_c0
  · exact w_c1
  · exact w_c2
set_option maxRecDepth 65536 in
theorem w_t1 : words1.all (fun c => isCode c || c.before args0 about1) = true := by decide +kernel
theorem w_tables : (allAtoms (Jvm.Cond.code x code maxLocals ret :: tables_1)).before args0 about1 = true := by
  rw [allAtoms_all]
  show words1.all (fun c => c.before args0 about1) = true
  refine all_split ?_ w_codes
  rw [w_t1]
set_option maxRecDepth 65536 in
theorem w_case : (Jvm.Cond.and given_1 narrow_1).before args0 about1 = true := by decide +kernel
theorem w_applies : (headSpec (Jvm.Cond.code x code maxLocals ret :: tables_1) room_1).applies x e0.platform about1 = true :=
  (Spec.applies_iff w_frames).mpr ⟨w_running, w_runnable, w_alone, w_named, w_hears, w_ripe, w_room, w_tables⟩
theorem atStart : AtStart classFile x code maxLocals ret World_1 tables_1 room_1 Calls_1 rest_1 Pre_1 launch0 p0 e0 about1 theMethod args0 below0 :=
  ⟨lists_1, trivial, launch0.admits_env _ _ _, launch0.least_env, fairChoices_fair.cas, fairChoices_fair.clock, w_frames, w_args, w_heap, w_applies, trivial, trivial, w_case⟩
end start1
theorem witness_1 : WitnessClaimed_1 := ⟨start1.p0, start1.e0, start1.about1, start1.theMethod, start1.args0, start1.below0, start1.atStart⟩
end Jvm.Pilot.@@N@@
