import JvmDerived
import JvmDerived.Pilot.@@N@@Statement
import JvmDerived.Pilot.@@N@@Code
set_option linter.unusedVariables false
set_option linter.unusedSimpArgs false
@@BLOCK:NumsL.lean.txt@@
namespace Jvm.Pilot.@@N@@
open Jvm Jvm.ClassFile Sem Op Lib Jvm.Free Jvm.Stand Jvm.LawKit Jvm.RoadKit Bundle Jvm.Pilot.@@N@@.Jvm.D
theorem own_m {Z : State} {aw : Array Value} (hw : ∀ d ∈ tables_1, d.before aw Z = true) (i : Nat) {d : Jvm.Cond} (h : tables_1[i]? = some d) : d.before aw Z = true := hw d (List.mem_of_getElem? h)
theorem own_tnc (x : Int32) : x.toNatClampNeg = x.toInt.toNat := rfl
theorem own_lc (x y : Int64) : lcmpW x y = if x > y then 1 else if x = y then 0 else -1 := rfl
theorem own_lt (x y : Int64) : lcmpW x y < 0 ↔ x < y := by
  rw [own_lc]; split
  · rename_i h; exact ⟨fun q => absurd q (by decide), fun q => absurd h (Int64.lt_asymm q)⟩
  · split
    · rename_i h1 h2; subst h2; exact ⟨fun q => absurd q (by decide), fun q => absurd q Int64.lt_irrefl⟩
    · rename_i h1 h2; exact ⟨fun _ => (Int64.lt_or_lt_of_ne h2).resolve_right h1, fun _ => by decide⟩
theorem own_gt (x y : Int64) : 0 < lcmpW x y ↔ y < x := by
  rw [own_lc]; split
  · rename_i h; exact ⟨fun _ => h, fun _ => by decide⟩
  · split
    · rename_i h1 h2; exact ⟨fun q => absurd q (by decide), fun q => absurd q h1⟩
    · rename_i h1 h2; exact ⟨fun q => absurd q (by decide), fun q => absurd q h1⟩
theorem own_eq (x y : Int64) : lcmpW x y = 0 ↔ x = y := by
  rw [own_lc]; split
  · rename_i h; exact ⟨fun q => absurd q (by decide), fun q => absurd (q ▸ h) Int64.lt_irrefl⟩
  · split
    · rename_i h1 h2; exact ⟨fun _ => h2, fun _ => rfl⟩
    · rename_i h1 h2; exact ⟨fun q => absurd q (by decide), fun q => absurd q h2⟩
theorem d2_0 : decode prog_3_method_10_code 0 = .ok (.iload_n 0, 1) := by decide +kernel
theorem d2_1 : decode prog_3_method_10_code 1 = .ok (.iconst 1, 1) := by decide +kernel
theorem d2_2 : decode prog_3_method_10_code 2 = .ok (.if_icmp .lt 22, 3) := by decide +kernel
theorem d2_5 : decode prog_3_method_10_code 5 = .ok (.iload_n 1, 1) := by decide +kernel
theorem d2_6 : decode prog_3_method_10_code 6 = .ok (.iconst 1, 1) := by decide +kernel
theorem d2_7 : decode prog_3_method_10_code 7 = .ok (.if_icmp .lt 17, 3) := by decide +kernel
theorem d2_10 : decode prog_3_method_10_code 10 = .ok (.iload_n 0, 1) := by decide +kernel
theorem d2_11 : decode prog_3_method_10_code 11 = .ok (.sipush 16384, 3) := by decide +kernel
theorem d2_14 : decode prog_3_method_10_code 14 = .ok (.if_icmp .gt 10, 3) := by decide +kernel
theorem d2_17 : decode prog_3_method_10_code 17 = .ok (.iload_n 1, 1) := by decide +kernel
theorem d2_18 : decode prog_3_method_10_code 18 = .ok (.sipush 16384, 3) := by decide +kernel
theorem d2_21 : decode prog_3_method_10_code 21 = .ok (.if_icmp .le 18, 3) := by decide +kernel
theorem d2_39 : decode prog_3_method_10_code 39 = .ok (.return_, 1) := by decide +kernel
theorem pn_1 : plainName "com/example/streamwarden/streamwarden/detect/Frame" = true := by first | (simp [plainName, overriddenIn]; done) | decide +kernel
theorem ef2 (m : MethodId) (x0 : Int32) (x1 : Int32) : entryFrame m #[(.int x0), (.int x1)] 2 = mkF m 0 #[.val (.int x0), .val (.int x1)] [] := by first | (simp [entryFrame, mkF, argsToLocals, Value.category]; done) | rfl
abbrev rr2 : Room := { frames := 0, cells := 0, slots := 0, locals := 0 }
def Q2 (Z : State) (p0 : Int32) (p1 : Int32) (h0 : Heap) (n0 : Nat) (v : Option Value) (h : Heap) (L : List Loc) : Prop := v = none ∧ Fr n0 L ∧ h = h0
set_option maxRecDepth 65536 in
set_option maxHeartbeats 40000000 in
theorem rm2 (l : Launch) (Z : State) (aw : Array Value) (hw : ∀ d ∈ tables_1, d.before aw Z = true) (ws : List Jvm.Cond) (p0 : Int32) (p1 : Int32) (h0 : Heap) (n0 : Nat) (Z0 : n0 ≤ h0.size) (c1 : ¬ p0 < (1 : Int32)) (c2 : ¬ p1 < (1 : Int32)) (c3 : ¬ (16384 : Int32) < p0) (c4 : ¬ (16384 : Int32) < p1) :
    MetFree l (⟨"com/example/streamwarden/streamwarden/detect/Frame", "checkSize", "(II)V"⟩ : MethodName) (head1 (Jvm.Cond.code (⟨"com/example/streamwarden/streamwarden/detect/Frame", "checkSize", "(II)V"⟩ : MethodName) prog_3_method_10_code 2 none :: ws) rr2) (fun a U => a = #[(.int p0), (.int p1)] ∧ Z.Warmed39 U.vm ∧ U.heap = h0) (fun _ _ _ _ _ => True) (fun _ U o U' => ∃ v L, o = .returned v ∧ Q2 Z p0 p1 h0 n0 v U'.heap L ∧ FrameEnd U o U' L rr2.cells rr2.slots) := by
  refine MetFree.of_bodySF (plainFor_of_name pn_1) hisR ?_
  intro p e s m args below meth c s₁ Bd hml0 hP hK
  obtain ⟨rfl, hZ, hh⟩ := hP
  have hx := Bd.exec
  have hby := Bd.bytes
  have hml : c.maxLocals = 2 := hml0
  have hown : s.vm.findClass "com/example/streamwarden/streamwarden/detect/Frame" = some m.cls := findClass_of_methodNamed Bd.named
  have hnm := (name_of_methodNamed Bd.named Bd.method).1
  have X0 : Stand p l e rr2 s m #[(.int p0), (.int p1)] below meth c s₁ [] 0 0 := Stand.of_body Bd
  have e0 : s₁.heap = h0 := by rw [← hh, Bd.state]; rfl
  have N0 := Fr.nil n0
  have pre0 : ∀ t, Steps p.tables e below (s₁.setTop (mkF m 0 #[.val (.int p0), .val (.int p1)] [])) t → Steps p.tables e below (s₁.setTop (entryFrame m #[(.int p0), (.int p1)] 2)) t := fun t k => castTop (ef2 m p0 p1) k
  obtain ⟨fs, hr, hrun, hended, hW, hsame⟩ := X0.leave (v := none) (fun _ => rfl)
  refine ⟨_, _, pre0 _ ?_, hrun, hended, _, _, rfl, ?_, ⟨_, rfl⟩, hW, hsame.mono (by decide) (by decide)⟩
  · skip
    show Steps p.tables e below (s₁.setTop (mkF m 0 #[.val (.int p0), .val (.int p1)] [])) _
    refine XS.iloadN X0.here hx rfl (hb hby d2_0) rfl ?_
    show Steps p.tables e below (s₁.setTop (mkF m 1 #[.val (.int p0), .val (.int p1)] [(.int p0)])) _
    refine XS.iconst X0.here hx rfl (hb hby d2_1) ?_
    show Steps p.tables e below (s₁.setTop (mkF m 2 #[.val (.int p0), .val (.int p1)] [(.int (1 : Int32)), (.int p0)])) _
    refine XS.icmpNo X0.here hx rfl (hb hby d2_2) rfl (flt c1).1 ?_
    show Steps p.tables e below (s₁.setTop (mkF m 5 #[.val (.int p0), .val (.int p1)] [])) _
    refine XS.iloadN X0.here hx rfl (hb hby d2_5) rfl ?_
    show Steps p.tables e below (s₁.setTop (mkF m 6 #[.val (.int p0), .val (.int p1)] [(.int p1)])) _
    refine XS.iconst X0.here hx rfl (hb hby d2_6) ?_
    show Steps p.tables e below (s₁.setTop (mkF m 7 #[.val (.int p0), .val (.int p1)] [(.int (1 : Int32)), (.int p1)])) _
    refine XS.icmpNo X0.here hx rfl (hb hby d2_7) rfl (flt c2).1 ?_
    show Steps p.tables e below (s₁.setTop (mkF m 10 #[.val (.int p0), .val (.int p1)] [])) _
    refine XS.iloadN X0.here hx rfl (hb hby d2_10) rfl ?_
    show Steps p.tables e below (s₁.setTop (mkF m 11 #[.val (.int p0), .val (.int p1)] [(.int p0)])) _
    refine XS.sipush X0.here hx rfl (hb hby d2_11) ?_
    show Steps p.tables e below (s₁.setTop (mkF m 14 #[.val (.int p0), .val (.int p1)] [(.int (16384 : Int32)), (.int p0)])) _
    refine XS.icmpNo X0.here hx rfl (hb hby d2_14) rfl (flt c3).2.2.1 ?_
    show Steps p.tables e below (s₁.setTop (mkF m 17 #[.val (.int p0), .val (.int p1)] [])) _
    refine XS.iloadN X0.here hx rfl (hb hby d2_17) rfl ?_
    show Steps p.tables e below (s₁.setTop (mkF m 18 #[.val (.int p0), .val (.int p1)] [(.int p1)])) _
    refine XS.sipush X0.here hx rfl (hb hby d2_18) ?_
    show Steps p.tables e below (s₁.setTop (mkF m 21 #[.val (.int p0), .val (.int p1)] [(.int (16384 : Int32)), (.int p1)])) _
    refine XS.icmpYes X0.here hx rfl (pc0 := 21) (pc' := 39) rfl (hb hby d2_21) rfl (flt c4).2.2.2 (by decide) (by decide) ?_
    show Steps p.tables e below (s₁.setTop (mkF m 39 #[.val (.int p0), .val (.int p1)] [])) _
    exact X0.returnOut hx Bd.returns (hb hby d2_39) hr
  · show Q2 Z p0 p1 h0 n0 _ s₁.heap _
    rw [e0]
    exact ⟨rfl, N0, rfl⟩
theorem d3_0 : decode prog_3_method_11_code 0 = .ok (.iload_n 0, 1) := by decide +kernel
theorem d3_1 : decode prog_3_method_11_code 1 = .ok (.iconst 1, 1) := by decide +kernel
theorem d3_2 : decode prog_3_method_11_code 2 = .ok (.iadd, 1) := by decide +kernel
theorem d3_3 : decode prog_3_method_11_code 3 = .ok (.iconst 2, 1) := by decide +kernel
theorem d3_4 : decode prog_3_method_11_code 4 = .ok (.idiv, 1) := by decide +kernel
theorem d3_5 : decode prog_3_method_11_code 5 = .ok (.iload_n 1, 1) := by decide +kernel
theorem d3_6 : decode prog_3_method_11_code 6 = .ok (.iconst 1, 1) := by decide +kernel
theorem d3_7 : decode prog_3_method_11_code 7 = .ok (.iadd, 1) := by decide +kernel
theorem d3_8 : decode prog_3_method_11_code 8 = .ok (.iconst 2, 1) := by decide +kernel
theorem d3_9 : decode prog_3_method_11_code 9 = .ok (.idiv, 1) := by decide +kernel
theorem d3_10 : decode prog_3_method_11_code 10 = .ok (.imul, 1) := by decide +kernel
theorem d3_11 : decode prog_3_method_11_code 11 = .ok (.ireturn, 1) := by decide +kernel
theorem ef3 (m : MethodId) (x0 : Int32) (x1 : Int32) : entryFrame m #[(.int x0), (.int x1)] 2 = mkF m 0 #[.val (.int x0), .val (.int x1)] [] := by first | (simp [entryFrame, mkF, argsToLocals, Value.category]; done) | rfl
abbrev rr3 : Room := { frames := 0, cells := 0, slots := 0, locals := 0 }
def Q3 (Z : State) (p0 : Int32) (p1 : Int32) (h0 : Heap) (n0 : Nat) (v : Option Value) (h : Heap) (L : List Loc) : Prop := v = some (.int (((p0 + (1 : Int32)) / (2 : Int32)) * ((p1 + (1 : Int32)) / (2 : Int32)))) ∧ Fr n0 L ∧ h = h0
set_option maxRecDepth 65536 in
set_option maxHeartbeats 40000000 in
theorem rm3 (l : Launch) (Z : State) (aw : Array Value) (hw : ∀ d ∈ tables_1, d.before aw Z = true) (ws : List Jvm.Cond) (p0 : Int32) (p1 : Int32) (h0 : Heap) (n0 : Nat) (Z0 : n0 ≤ h0.size)  :
    MetFree l (⟨"com/example/streamwarden/streamwarden/detect/Frame", "chromaSize", "(II)I"⟩ : MethodName) (head1 (Jvm.Cond.code (⟨"com/example/streamwarden/streamwarden/detect/Frame", "chromaSize", "(II)I"⟩ : MethodName) prog_3_method_11_code 2 (some .int) :: ws) rr3) (fun a U => a = #[(.int p0), (.int p1)] ∧ Z.Warmed39 U.vm ∧ U.heap = h0) (fun _ _ _ _ _ => True) (fun _ U o U' => ∃ v L, o = .returned v ∧ Q3 Z p0 p1 h0 n0 v U'.heap L ∧ FrameEnd U o U' L rr3.cells rr3.slots) := by
  refine MetFree.of_bodySF (plainFor_of_name pn_1) hisR ?_
  intro p e s m args below meth c s₁ Bd hml0 hP hK
  obtain ⟨rfl, hZ, hh⟩ := hP
  have hx := Bd.exec
  have hby := Bd.bytes
  have hml : c.maxLocals = 2 := hml0
  have hown : s.vm.findClass "com/example/streamwarden/streamwarden/detect/Frame" = some m.cls := findClass_of_methodNamed Bd.named
  have hnm := (name_of_methodNamed Bd.named Bd.method).1
  have X0 : Stand p l e rr3 s m #[(.int p0), (.int p1)] below meth c s₁ [] 0 0 := Stand.of_body Bd
  have e0 : s₁.heap = h0 := by rw [← hh, Bd.state]; rfl
  have N0 := Fr.nil n0
  have pre0 : ∀ t, Steps p.tables e below (s₁.setTop (mkF m 0 #[.val (.int p0), .val (.int p1)] [])) t → Steps p.tables e below (s₁.setTop (entryFrame m #[(.int p0), (.int p1)] 2)) t := fun t k => castTop (ef3 m p0 p1) k
  obtain ⟨fs, hr, hrun, hended, hW, hsame⟩ := X0.leave (v := some (.int (((p0 + (1 : Int32)) / (2 : Int32)) * ((p1 + (1 : Int32)) / (2 : Int32))))) (fun h => by rw [Bd.returns] at h; cases h)
  refine ⟨_, _, pre0 _ ?_, hrun, hended, _, _, rfl, ?_, ⟨_, rfl⟩, hW, hsame.mono (by decide) (by decide)⟩
  · skip
    show Steps p.tables e below (s₁.setTop (mkF m 0 #[.val (.int p0), .val (.int p1)] [])) _
    refine XS.iloadN X0.here hx rfl (hb hby d3_0) rfl ?_
    show Steps p.tables e below (s₁.setTop (mkF m 1 #[.val (.int p0), .val (.int p1)] [(.int p0)])) _
    refine XS.iconst X0.here hx rfl (hb hby d3_1) ?_
    show Steps p.tables e below (s₁.setTop (mkF m 2 #[.val (.int p0), .val (.int p1)] [(.int (1 : Int32)), (.int p0)])) _
    refine XS.iadd X0.here hx rfl (hb hby d3_2) rfl ?_
    show Steps p.tables e below (s₁.setTop (mkF m 3 #[.val (.int p0), .val (.int p1)] [(.int (p0 + (1 : Int32)))])) _
    refine XS.iconst X0.here hx rfl (hb hby d3_3) ?_
    show Steps p.tables e below (s₁.setTop (mkF m 4 #[.val (.int p0), .val (.int p1)] [(.int (2 : Int32)), (.int (p0 + (1 : Int32)))])) _
    refine XS.idiv X0.here hx rfl (hb hby d3_4) rfl (by decide) ?_
    show Steps p.tables e below (s₁.setTop (mkF m 5 #[.val (.int p0), .val (.int p1)] [(.int ((p0 + (1 : Int32)) / (2 : Int32)))])) _
    refine XS.iloadN X0.here hx rfl (hb hby d3_5) rfl ?_
    show Steps p.tables e below (s₁.setTop (mkF m 6 #[.val (.int p0), .val (.int p1)] [(.int p1), (.int ((p0 + (1 : Int32)) / (2 : Int32)))])) _
    refine XS.iconst X0.here hx rfl (hb hby d3_6) ?_
    show Steps p.tables e below (s₁.setTop (mkF m 7 #[.val (.int p0), .val (.int p1)] [(.int (1 : Int32)), (.int p1), (.int ((p0 + (1 : Int32)) / (2 : Int32)))])) _
    refine XS.iadd X0.here hx rfl (hb hby d3_7) rfl ?_
    show Steps p.tables e below (s₁.setTop (mkF m 8 #[.val (.int p0), .val (.int p1)] [(.int (p1 + (1 : Int32))), (.int ((p0 + (1 : Int32)) / (2 : Int32)))])) _
    refine XS.iconst X0.here hx rfl (hb hby d3_8) ?_
    show Steps p.tables e below (s₁.setTop (mkF m 9 #[.val (.int p0), .val (.int p1)] [(.int (2 : Int32)), (.int (p1 + (1 : Int32))), (.int ((p0 + (1 : Int32)) / (2 : Int32)))])) _
    refine XS.idiv X0.here hx rfl (hb hby d3_9) rfl (by decide) ?_
    show Steps p.tables e below (s₁.setTop (mkF m 10 #[.val (.int p0), .val (.int p1)] [(.int ((p1 + (1 : Int32)) / (2 : Int32))), (.int ((p0 + (1 : Int32)) / (2 : Int32)))])) _
    refine XS.imul X0.here hx rfl (hb hby d3_10) rfl ?_
    show Steps p.tables e below (s₁.setTop (mkF m 11 #[.val (.int p0), .val (.int p1)] [(.int (((p0 + (1 : Int32)) / (2 : Int32)) * ((p1 + (1 : Int32)) / (2 : Int32))))])) _
    exact retOut X0 hx Bd.returns rfl (Or.inl ⟨rfl, Or.inl rfl, _, rfl⟩) (hb hby d3_11) hr
  · show Q3 Z p0 p1 h0 n0 _ s₁.heap _
    rw [e0]
    exact ⟨rfl, N0, rfl⟩
theorem d1_0 : decode prog_3_method_2_code 0 = .ok (.iload_n 0, 1) := by decide +kernel
theorem d1_1 : decode prog_3_method_2_code 1 = .ok (.iload_n 1, 1) := by decide +kernel
theorem pd_1 : parseMethodDescriptor "(II)V" = some ⟨[.int, .int], none⟩ := by decide +kernel
theorem d1_2 : decode prog_3_method_2_code 2 = .ok (.invokestatic 33, 3) := by decide +kernel
theorem d1_5 : decode prog_3_method_2_code 5 = .ok (.iload_n 0, 1) := by decide +kernel
theorem d1_6 : decode prog_3_method_2_code 6 = .ok (.iload_n 1, 1) := by decide +kernel
theorem d1_7 : decode prog_3_method_2_code 7 = .ok (.imul, 1) := by decide +kernel
theorem d1_8 : decode prog_3_method_2_code 8 = .ok (.iconst 2, 1) := by decide +kernel
theorem d1_9 : decode prog_3_method_2_code 9 = .ok (.iload_n 0, 1) := by decide +kernel
theorem d1_10 : decode prog_3_method_2_code 10 = .ok (.iload_n 1, 1) := by decide +kernel
theorem pd_2 : parseMethodDescriptor "(II)I" = some ⟨[.int, .int], some .int⟩ := by decide +kernel
theorem d1_11 : decode prog_3_method_2_code 11 = .ok (.invokestatic 37, 3) := by decide +kernel
theorem d1_14 : decode prog_3_method_2_code 14 = .ok (.imul, 1) := by decide +kernel
theorem d1_15 : decode prog_3_method_2_code 15 = .ok (.iadd, 1) := by decide +kernel
theorem d1_16 : decode prog_3_method_2_code 16 = .ok (.ireturn, 1) := by decide +kernel
theorem ef1 (m : MethodId) (x0 : Int32) (x1 : Int32) : entryFrame m #[(.int x0), (.int x1)] 2 = mkF m 0 #[.val (.int x0), .val (.int x1)] [] := by first | (simp [entryFrame, mkF, argsToLocals, Value.category]; done) | rfl
abbrev rr1 : Room := { frames := 1, cells := 0, slots := 0, locals := 15 }
def Q1 (Z : State) (p0 : Int32) (p1 : Int32) (h0 : Heap) (n0 : Nat) (v : Option Value) (h : Heap) (L : List Loc) : Prop := v = some (.int ((p0 * p1) + ((2 : Int32) * (((p0 + (1 : Int32)) / (2 : Int32)) * ((p1 + (1 : Int32)) / (2 : Int32)))))) ∧ Fr n0 L ∧ h = h0
set_option maxRecDepth 65536 in
set_option maxHeartbeats 40000000 in
theorem rm1 (l : Launch) (Z : State) (aw : Array Value) (hw : ∀ d ∈ tables_1, d.before aw Z = true) (ws : List Jvm.Cond) (p0 : Int32) (p1 : Int32) (h0 : Heap) (n0 : Nat) (Z0 : n0 ≤ h0.size) (c1 : ¬ p0 < (1 : Int32)) (c2 : ¬ p1 < (1 : Int32)) (c3 : ¬ (16384 : Int32) < p0) (c4 : ¬ (16384 : Int32) < p1) :
    MetFree l (⟨"com/example/streamwarden/streamwarden/detect/Frame", "byteCount", "(II)I"⟩ : MethodName) (head1 (Jvm.Cond.code (⟨"com/example/streamwarden/streamwarden/detect/Frame", "byteCount", "(II)I"⟩ : MethodName) prog_3_method_2_code 2 (some .int) :: ws) rr1) (fun a U => a = #[(.int p0), (.int p1)] ∧ Z.Warmed39 U.vm ∧ U.heap = h0) (fun _ _ _ _ _ => True) (fun _ U o U' => ∃ v L, o = .returned v ∧ Q1 Z p0 p1 h0 n0 v U'.heap L ∧ FrameEnd U o U' L rr1.cells rr1.slots) := by
  refine MetFree.of_bodySF (plainFor_of_name pn_1) hisR ?_
  intro p e s m args below meth c s₁ Bd hml0 hP hK
  obtain ⟨rfl, hZ, hh⟩ := hP
  have hx := Bd.exec
  have hby := Bd.bytes
  have hml : c.maxLocals = 2 := hml0
  have hown : s.vm.findClass "com/example/streamwarden/streamwarden/detect/Frame" = some m.cls := findClass_of_methodNamed Bd.named
  have hnm := (name_of_methodNamed Bd.named Bd.method).1
  have X0 : Stand p l e rr1 s m #[(.int p0), (.int p1)] below meth c s₁ [] 0 0 := Stand.of_body Bd
  have e0 : s₁.heap = h0 := by rw [← hh, Bd.state]; rfl
  have N0 := Fr.nil n0
  have pre0 : ∀ t, Steps p.tables e below (s₁.setTop (mkF m 0 #[.val (.int p0), .val (.int p1)] [])) t → Steps p.tables e below (s₁.setTop (entryFrame m #[(.int p0), (.int p1)] 2)) t := fun t k => castTop (ef1 m p0 p1) k
  obtain ⟨_, _, ⟨T1, L1, k1, n1⟩, -, X1, ⟨Lc1, hQ1, l1, y1, z1⟩, st1⟩ := Jvm.LawKit.callS X0 hx (y := (⟨"com/example/streamwarden/streamwarden/detect/Frame", "checkSize", "(II)V"⟩ : MethodName)) hown (mvT hZ (hw _ (List.mem_of_getElem? (i := 4) rfl))) (mvT hZ (hw _ (List.mem_of_getElem? (i := 5) rfl))) (mvT hZ (hw _ (List.mem_of_getElem? (i := 2) rfl))) (mvT hZ (hw _ (List.mem_of_getElem? (i := 6) rfl))) (by decide) (backOf (W := 0) (rm2 l Z aw hw [] p0 p1 h0 n0 Z0 c1 c2 c3 c4) hZ (hw _ (List.mem_of_getElem? (i := 6) rfl)) (hw _ (List.mem_of_getElem? (i := 2) rfl)) (by decide) (by decide)) (g := (mkF m 2 #[.val (.int p0), .val (.int p1)] [(.int p1), (.int p0)])) rfl (by rw [hml]; rfl) (argsL := [(.int p0), (.int p1)]) (rest := []) (lenOf pd_1 rfl) rfl (by show 2 * 0 + _ ≤ _; exact Nat.le_of_eq rfl) (hb hby d1_2) (fun _ _ => ⟨rfl, e0, (by decide : 0 + 0 ≤ _), (by decide : 0 + 0 ≤ _)⟩)
  dsimp only [Pt.U, Pt.locs, Pt.cells, Pt.slots] at X1 l1 y1 z1 st1 hQ1
  subst l1 y1 z1
  obtain ⟨rfl, N1q, e1⟩ := hQ1
  have N1 := Fr.app N0 N1q
  obtain ⟨_, _, ⟨T2, L2, k2, n2⟩, -, X2, ⟨Lc2, hQ2, l2, y2, z2⟩, st2⟩ := Jvm.LawKit.callS X1 hx (y := (⟨"com/example/streamwarden/streamwarden/detect/Frame", "chromaSize", "(II)I"⟩ : MethodName)) hown (mvT hZ (hw _ (List.mem_of_getElem? (i := 7) rfl))) (mvT hZ (hw _ (List.mem_of_getElem? (i := 8) rfl))) (mvT hZ (hw _ (List.mem_of_getElem? (i := 2) rfl))) (mvT hZ (hw _ (List.mem_of_getElem? (i := 9) rfl))) (by decide) (backOf (W := 2) (rm3 l Z aw hw [] p0 p1 h0 n0 Z0 ) hZ (hw _ (List.mem_of_getElem? (i := 9) rfl)) (hw _ (List.mem_of_getElem? (i := 2) rfl)) (by decide) (by decide)) (g := (mkF m 11 #[.val (.int p0), .val (.int p1)] [(.int p1), (.int p0), (.int (2 : Int32)), (.int (p0 * p1))])) rfl (by rw [hml]; rfl) (argsL := [(.int p0), (.int p1)]) (rest := [(.int (2 : Int32)), (.int (p0 * p1))]) (lenOf pd_2 rfl) rfl (by show 2 * 0 + _ ≤ _; exact Nat.le_of_eq rfl) (hb hby d1_11) (fun _ _ => ⟨rfl, e1, (by decide : 0 + 0 ≤ _), (by decide : 0 + 0 ≤ _)⟩)
  dsimp only [Pt.U, Pt.locs, Pt.cells, Pt.slots] at X2 l2 y2 z2 st2 hQ2
  subst l2 y2 z2
  obtain ⟨rfl, N2q, e2⟩ := hQ2
  have N2 := Fr.app N1 N2q
  obtain ⟨fs, hr, hrun, hended, hW, hsame⟩ := X2.leave (v := some (.int ((p0 * p1) + ((2 : Int32) * (((p0 + (1 : Int32)) / (2 : Int32)) * ((p1 + (1 : Int32)) / (2 : Int32))))))) (fun h => by rw [Bd.returns] at h; cases h)
  refine ⟨_, _, pre0 _ ?_, hrun, hended, _, _, rfl, ?_, ⟨_, rfl⟩, hW, hsame.mono (by decide) (by decide)⟩
  · skip
    show Steps p.tables e below (s₁.setTop (mkF m 0 #[.val (.int p0), .val (.int p1)] [])) _
    refine XS.iloadN X0.here hx rfl (hb hby d1_0) rfl ?_
    show Steps p.tables e below (s₁.setTop (mkF m 1 #[.val (.int p0), .val (.int p1)] [(.int p0)])) _
    refine XS.iloadN X0.here hx rfl (hb hby d1_1) rfl ?_
    show Steps p.tables e below (s₁.setTop (mkF m 2 #[.val (.int p0), .val (.int p1)] [(.int p1), (.int p0)])) _
    refine st1 _ ?_
    show Steps p.tables e below (T1.setTop (mkF m 5 #[.val (.int p0), .val (.int p1)] [])) _
    refine XS.iloadN X1.here hx rfl (hb hby d1_5) rfl ?_
    show Steps p.tables e below (T1.setTop (mkF m 6 #[.val (.int p0), .val (.int p1)] [(.int p0)])) _
    refine XS.iloadN X1.here hx rfl (hb hby d1_6) rfl ?_
    show Steps p.tables e below (T1.setTop (mkF m 7 #[.val (.int p0), .val (.int p1)] [(.int p1), (.int p0)])) _
    refine XS.imul X1.here hx rfl (hb hby d1_7) rfl ?_
    show Steps p.tables e below (T1.setTop (mkF m 8 #[.val (.int p0), .val (.int p1)] [(.int (p0 * p1))])) _
    refine XS.iconst X1.here hx rfl (hb hby d1_8) ?_
    show Steps p.tables e below (T1.setTop (mkF m 9 #[.val (.int p0), .val (.int p1)] [(.int (2 : Int32)), (.int (p0 * p1))])) _
    refine XS.iloadN X1.here hx rfl (hb hby d1_9) rfl ?_
    show Steps p.tables e below (T1.setTop (mkF m 10 #[.val (.int p0), .val (.int p1)] [(.int p0), (.int (2 : Int32)), (.int (p0 * p1))])) _
    refine XS.iloadN X1.here hx rfl (hb hby d1_10) rfl ?_
    show Steps p.tables e below (T1.setTop (mkF m 11 #[.val (.int p0), .val (.int p1)] [(.int p1), (.int p0), (.int (2 : Int32)), (.int (p0 * p1))])) _
    refine st2 _ ?_
    show Steps p.tables e below (T2.setTop (mkF m 14 #[.val (.int p0), .val (.int p1)] [(.int (((p0 + (1 : Int32)) / (2 : Int32)) * ((p1 + (1 : Int32)) / (2 : Int32)))), (.int (2 : Int32)), (.int (p0 * p1))])) _
    refine XS.imul X2.here hx rfl (hb hby d1_14) rfl ?_
    show Steps p.tables e below (T2.setTop (mkF m 15 #[.val (.int p0), .val (.int p1)] [(.int ((2 : Int32) * (((p0 + (1 : Int32)) / (2 : Int32)) * ((p1 + (1 : Int32)) / (2 : Int32))))), (.int (p0 * p1))])) _
    refine XS.iadd X2.here hx rfl (hb hby d1_15) rfl ?_
    show Steps p.tables e below (T2.setTop (mkF m 16 #[.val (.int p0), .val (.int p1)] [(.int ((p0 * p1) + ((2 : Int32) * (((p0 + (1 : Int32)) / (2 : Int32)) * ((p1 + (1 : Int32)) / (2 : Int32))))))])) _
    exact retOut X2 hx Bd.returns rfl (Or.inl ⟨rfl, Or.inl rfl, _, rfl⟩) (hb hby d1_16) hr
  · show Q1 Z p0 p1 h0 n0 _ T2.heap _
    rw [e2]
    exact ⟨rfl, N2, rfl⟩
theorem d4_0 : decode prog_3_method_1_code 0 = .ok (.aload_n 0, 1) := by decide +kernel
theorem d4_1 : decode prog_3_method_1_code 1 = .ok (.invokespecial 3, 3) := by decide +kernel
theorem d4_4 : decode prog_3_method_1_code 4 = .ok (.aload_n 3, 1) := by decide +kernel
theorem d4_5 : decode prog_3_method_1_code 5 = .ok (.arraylength, 1) := by decide +kernel
theorem d4_6 : decode prog_3_method_1_code 6 = .ok (.iload_n 1, 1) := by decide +kernel
theorem d4_7 : decode prog_3_method_1_code 7 = .ok (.iload_n 2, 1) := by decide +kernel
theorem d4_8 : decode prog_3_method_1_code 8 = .ok (.invokestatic 9, 3) := by decide +kernel
theorem d4_11 : decode prog_3_method_1_code 11 = .ok (.if_icmp .eq 25, 3) := by decide +kernel
theorem d4_36 : decode prog_3_method_1_code 36 = .ok (.aload_n 0, 1) := by decide +kernel
theorem d4_37 : decode prog_3_method_1_code 37 = .ok (.iload_n 1, 1) := by decide +kernel
theorem d4_38 : decode prog_3_method_1_code 38 = .ok (.putfield 22, 3) := by decide +kernel
theorem d4_41 : decode prog_3_method_1_code 41 = .ok (.aload_n 0, 1) := by decide +kernel
theorem d4_42 : decode prog_3_method_1_code 42 = .ok (.iload_n 2, 1) := by decide +kernel
theorem d4_43 : decode prog_3_method_1_code 43 = .ok (.putfield 26, 3) := by decide +kernel
theorem d4_46 : decode prog_3_method_1_code 46 = .ok (.aload_n 0, 1) := by decide +kernel
theorem d4_47 : decode prog_3_method_1_code 47 = .ok (.aload_n 3, 1) := by decide +kernel
theorem d4_48 : decode prog_3_method_1_code 48 = .ok (.putfield 29, 3) := by decide +kernel
theorem d4_51 : decode prog_3_method_1_code 51 = .ok (.return_, 1) := by decide +kernel
theorem ef4 (m : MethodId) (x0 : Addr) (x1 : Int32) (x2 : Int32) (x3 : Addr) : entryFrame m #[(.ref x0), (.int x1), (.int x2), (.ref x3)] 4 = mkF m 0 #[.val (.ref x0), .val (.int x1), .val (.int x2), .val (.ref x3)] [] := by first | (simp [entryFrame, mkF, argsToLocals, Value.category]; done) | rfl
abbrev rr4 : Room := { frames := 2, cells := 0, slots := 0, locals := 29 }
def Q4 (Z : State) (a0 : Addr) (p1 : Int32) (p2 : Int32) (a3 : Addr) (k_a3 : ClassId) (h0 : Heap) (n0 : Nat) (v : Option Value) (h : Heap) (L : List Loc) : Prop := v = none ∧ Fr n0 L ∧ Keep h0 h [a0] ∧ Exa Z h a0 "com/example/streamwarden/streamwarden/detect/Frame" ∧ Fld Z h a0 "com/example/streamwarden/streamwarden/detect/Frame" "width" "I" (.int p1) ∧ Fld Z h a0 "com/example/streamwarden/streamwarden/detect/Frame" "height" "I" (.int p2) ∧ Fld Z h a0 "com/example/streamwarden/streamwarden/detect/Frame" "samples" "[B" (.ref a3)
set_option maxRecDepth 65536 in
set_option maxHeartbeats 40000000 in
theorem rm4 (l : Launch) (Z : State) (aw : Array Value) (hw : ∀ d ∈ tables_1, d.before aw Z = true) (ws : List Jvm.Cond) (a0 : Addr) (p1 : Int32) (p2 : Int32) (a3 : Addr) (k_a3 : ClassId) (h0 : Heap) (n0 : Nat) (Z0 : n0 ≤ h0.size) (E_a0 : Exa Z h0 a0 "com/example/streamwarden/streamwarden/detect/Frame") (F_width_a0 : Fld Z h0 a0 "com/example/streamwarden/streamwarden/detect/Frame" "width" "I" (.int (0 : Int32))) (F_height_a0 : Fld Z h0 a0 "com/example/streamwarden/streamwarden/detect/Frame" "height" "I" (.int (0 : Int32))) (F_samples_a0 : Fld Z h0 a0 "com/example/streamwarden/streamwarden/detect/Frame" "samples" "[B" .null) (V_a3 : Arv Z h0 a3 k_a3 .byte ((p1 * p2) + ((2 : Int32) * (((p1 + (1 : Int32)) / (2 : Int32)) * ((p2 + (1 : Int32)) / (2 : Int32))))) [] (.int (0 : Int32))) (g_a0 : n0 ≤ a0) (ne_a0_a3 : a0 ≠ a3) (c1 : ¬ p1 < (1 : Int32)) (c2 : ¬ p2 < (1 : Int32)) (c3 : ¬ (16384 : Int32) < p1) (c4 : ¬ (16384 : Int32) < p2) :
    MetFree l (⟨"com/example/streamwarden/streamwarden/detect/Frame", "<init>", "(II[B)V"⟩ : MethodName) (head1 (Jvm.Cond.code (⟨"com/example/streamwarden/streamwarden/detect/Frame", "<init>", "(II[B)V"⟩ : MethodName) prog_3_method_1_code 4 none :: ws) rr4) (fun a U => a = #[(.ref a0), (.int p1), (.int p2), (.ref a3)] ∧ Z.Warmed39 U.vm ∧ U.heap = h0) (fun _ _ _ _ _ => True) (fun _ U o U' => ∃ v L, o = .returned v ∧ Q4 Z a0 p1 p2 a3 k_a3 h0 n0 v U'.heap L ∧ FrameEnd U o U' L rr4.cells rr4.slots) := by
  refine MetFree.of_bodySF (plainFor_of_name pn_1) hisR ?_
  intro p e s m args below meth c s₁ Bd hml0 hP hK
  obtain ⟨rfl, hZ, hh⟩ := hP
  have hx := Bd.exec
  have hby := Bd.bytes
  have hml : c.maxLocals = 4 := hml0
  have hown : s.vm.findClass "com/example/streamwarden/streamwarden/detect/Frame" = some m.cls := findClass_of_methodNamed Bd.named
  have hnm := (name_of_methodNamed Bd.named Bd.method).1
  have X0 : Stand p l e rr4 s m #[(.ref a0), (.int p1), (.int p2), (.ref a3)] below meth c s₁ [] 0 0 := Stand.of_body Bd
  have e0 : s₁.heap = h0 := by rw [← hh, Bd.state]; rfl
  have N0 := Fr.nil n0
  have K0 := Keep.refl h0 [a0]
  have pre0 : ∀ t, Steps p.tables e below (s₁.setTop (mkF m 0 #[.val (.ref a0), .val (.int p1), .val (.int p2), .val (.ref a3)] [])) t → Steps p.tables e below (s₁.setTop (entryFrame m #[(.ref a0), (.int p1), (.int p2), (.ref a3)] 4)) t := fun t k => castTop (ef4 m a0 p1 p2 a3) k
  obtain ⟨T3, X3, e3, st3⟩ := initO X0 hx hZ hown (hw _ (List.mem_of_getElem? (i := 16) rfl)) (hw _ (List.mem_of_getElem? (i := 17) rfl)) (hw _ (List.mem_of_getElem? (i := 18) rfl)) e0 (g := (mkF m 1 #[.val (.ref a0), .val (.int p1), .val (.int p2), .val (.ref a3)] [(.ref a0)])) rfl (by rw [hml]; rfl) rfl (hb hby d4_1) (by decide) (W := 0) (by show 2 * 0 + _ ≤ _; exact Nat.le_of_eq rfl) (by decide)
  obtain ⟨cl4, Ar4, q4, S4, M4, H4, G4⟩ := id V_a3
  obtain ⟨_, _, ⟨T5, L5, k5, n5⟩, -, X5, ⟨Lc5, hQ5, l5, y5, z5⟩, st5⟩ := Jvm.LawKit.callS X3 hx (y := (⟨"com/example/streamwarden/streamwarden/detect/Frame", "byteCount", "(II)I"⟩ : MethodName)) hown (mvT hZ (hw _ (List.mem_of_getElem? (i := 19) rfl))) (mvT hZ (hw _ (List.mem_of_getElem? (i := 1) rfl))) (mvT hZ (hw _ (List.mem_of_getElem? (i := 2) rfl))) (mvT hZ (hw _ (List.mem_of_getElem? (i := 3) rfl))) (by decide) (backOf (W := 1) (rm1 l Z aw hw [] p1 p2 h0 n0 Z0 c1 c2 c3 c4) hZ (hw _ (List.mem_of_getElem? (i := 3) rfl)) (hw _ (List.mem_of_getElem? (i := 2) rfl)) (by decide) (by decide)) (g := (mkF m 8 #[.val (.ref a0), .val (.int p1), .val (.int p2), .val (.ref a3)] [(.int p2), (.int p1), (.int ((p1 * p2) + ((2 : Int32) * (((p1 + (1 : Int32)) / (2 : Int32)) * ((p2 + (1 : Int32)) / (2 : Int32))))))])) rfl (by rw [hml]; rfl) (argsL := [(.int p1), (.int p2)]) (rest := [(.int ((p1 * p2) + ((2 : Int32) * (((p1 + (1 : Int32)) / (2 : Int32)) * ((p2 + (1 : Int32)) / (2 : Int32))))))]) (lenOf pd_2 rfl) rfl (by show 2 * 0 + _ ≤ _; exact Nat.le_of_eq rfl) (hb hby d4_8) (fun _ _ => ⟨rfl, e3, (by decide : 0 + 0 ≤ _), (by decide : 0 + 0 ≤ _)⟩)
  dsimp only [Pt.U, Pt.locs, Pt.cells, Pt.slots] at X5 l5 y5 z5 st5 hQ5
  subst l5 y5 z5
  obtain ⟨rfl, N5q, e5⟩ := hQ5
  have N5 := Fr.app N0 N5q
  obtain ⟨T6, h6, X6, e6, W6, st6⟩ := putF X5 hx hZ hown (host := "") (Or.inl (hw _ (List.mem_of_getElem? (i := 20) rfl))) Via.refl e5 F_width_a0 E_a0 (Or.inr ⟨(hw _ (List.mem_of_getElem? (i := 21) rfl)), rfl, hnm⟩) (hw _ (List.mem_of_getElem? (i := 12) rfl)) (ty := .int) (by decide) rfl rfl (g := (mkF m 38 #[.val (.ref a0), .val (.int p1), .val (.int p2), .val (.ref a3)] [(.int p1), (.ref a0)])) rfl rfl (hb hby d4_38)
  have f6w : Fld Z h6 a0 "com/example/streamwarden/streamwarden/detect/Frame" "width" "I" (.int p1) := F_width_a0.same W6
  have f7 := E_a0.wr W6
  have f9 := F_height_a0.other W6 (Or.inr (slot_ne (Or.inr (hw _ (List.mem_of_getElem? (i := 23) rfl))) (Or.inr (hw _ (List.mem_of_getElem? (i := 21) rfl))) (by decide) (t := .int) (t' := .int) (by decide) (by decide)))
  have f10 := F_samples_a0.other W6 (Or.inr (slot_ne (Or.inr (hw _ (List.mem_of_getElem? (i := 25) rfl))) (Or.inr (hw _ (List.mem_of_getElem? (i := 21) rfl))) (by decide) (t := (.array .byte)) (t' := .int) (by decide) (by decide)))
  have f11 := V_a3.other W6 (Ne.symm ne_a0_a3)
  have K12 := K0.wr W6 (Or.inl (List.mem_of_getElem? (i := 0) rfl))
  have Z13 := Nat.le_trans Z0 (Keep.of_wr W6).1
  have N14 := Fr.snoc X6 N5 g_a0
  obtain ⟨T15, h15, X15, e15, W15, st15⟩ := putF X6 hx hZ hown (host := "") (Or.inl (hw _ (List.mem_of_getElem? (i := 22) rfl))) Via.refl e6 f9 f7 (Or.inr ⟨(hw _ (List.mem_of_getElem? (i := 23) rfl)), rfl, hnm⟩) (hw _ (List.mem_of_getElem? (i := 12) rfl)) (ty := .int) (by decide) rfl rfl (g := (mkF m 43 #[.val (.ref a0), .val (.int p1), .val (.int p2), .val (.ref a3)] [(.int p2), (.ref a0)])) rfl rfl (hb hby d4_43)
  have f15w : Fld Z h15 a0 "com/example/streamwarden/streamwarden/detect/Frame" "height" "I" (.int p2) := f9.same W15
  have f16 := f7.wr W15
  have f17 := f6w.other W15 (Or.inr (slot_ne (Or.inr (hw _ (List.mem_of_getElem? (i := 21) rfl))) (Or.inr (hw _ (List.mem_of_getElem? (i := 23) rfl))) (by decide) (t := .int) (t' := .int) (by decide) (by decide)))
  have f19 := f10.other W15 (Or.inr (slot_ne (Or.inr (hw _ (List.mem_of_getElem? (i := 25) rfl))) (Or.inr (hw _ (List.mem_of_getElem? (i := 23) rfl))) (by decide) (t := (.array .byte)) (t' := .int) (by decide) (by decide)))
  have f20 := f11.other W15 (Ne.symm ne_a0_a3)
  have K21 := K12.wr W15 (Or.inl (List.mem_of_getElem? (i := 0) rfl))
  have Z22 := Nat.le_trans Z13 (Keep.of_wr W15).1
  have N23 := Fr.snoc X15 N14 g_a0
  obtain ⟨T24, h24, X24, e24, W24, st24⟩ := putF X15 hx hZ hown (host := "") (Or.inl (hw _ (List.mem_of_getElem? (i := 24) rfl))) Via.refl e15 f19 f16 (Or.inr ⟨(hw _ (List.mem_of_getElem? (i := 25) rfl)), rfl, hnm⟩) (hw _ (List.mem_of_getElem? (i := 12) rfl)) (ty := (.array .byte)) (by decide) rfl rfl (g := (mkF m 48 #[.val (.ref a0), .val (.int p1), .val (.int p2), .val (.ref a3)] [(.ref a3), (.ref a0)])) rfl rfl (hb hby d4_48)
  have f24w : Fld Z h24 a0 "com/example/streamwarden/streamwarden/detect/Frame" "samples" "[B" (.ref a3) := f19.same W24
  have f25 := f16.wr W24
  have f26 := f17.other W24 (Or.inr (slot_ne (Or.inr (hw _ (List.mem_of_getElem? (i := 21) rfl))) (Or.inr (hw _ (List.mem_of_getElem? (i := 25) rfl))) (by decide) (t := .int) (t' := (.array .byte)) (by decide) (by decide)))
  have f27 := f15w.other W24 (Or.inr (slot_ne (Or.inr (hw _ (List.mem_of_getElem? (i := 23) rfl))) (Or.inr (hw _ (List.mem_of_getElem? (i := 25) rfl))) (by decide) (t := .int) (t' := (.array .byte)) (by decide) (by decide)))
  have f29 := f20.other W24 (Ne.symm ne_a0_a3)
  have K30 := K21.wr W24 (Or.inl (List.mem_of_getElem? (i := 0) rfl))
  have Z31 := Nat.le_trans Z22 (Keep.of_wr W24).1
  have N32 := Fr.snoc X24 N23 g_a0
  obtain ⟨fs, hr, hrun, hended, hW, hsame⟩ := X24.leave (v := none) (fun _ => rfl)
  refine ⟨_, _, pre0 _ ?_, hrun, hended, _, _, rfl, ?_, ⟨_, rfl⟩, hW, hsame.mono (by decide) (by decide)⟩
  · skip
    show Steps p.tables e below (s₁.setTop (mkF m 0 #[.val (.ref a0), .val (.int p1), .val (.int p2), .val (.ref a3)] [])) _
    refine XS.aloadN X0.here hx rfl (hb hby d4_0) rfl rfl ?_
    show Steps p.tables e below (s₁.setTop (mkF m 1 #[.val (.ref a0), .val (.int p1), .val (.int p2), .val (.ref a3)] [(.ref a0)])) _
    refine st3 _ ?_
    show Steps p.tables e below (T3.setTop (mkF m 4 #[.val (.ref a0), .val (.int p1), .val (.int p2), .val (.ref a3)] [])) _
    refine XS.aloadN X3.here hx rfl (hb hby d4_4) rfl rfl ?_
    show Steps p.tables e below (T3.setTop (mkF m 5 #[.val (.ref a0), .val (.int p1), .val (.int p2), .val (.ref a3)] [(.ref a3)])) _
    refine X3.arraylength hx (by rw [e3]; exact Ar4.1) (State.isArrayOf_alike hZ.alike Ar4.2.1) (g := (mkF m 5 #[.val (.ref a0), .val (.int p1), .val (.int p2), .val (.ref a3)] [(.ref a3)])) rfl rfl (hb hby d4_5) _ ?_
    rw [len_of S4 M4]
    show Steps p.tables e below (T3.setTop (mkF m 6 #[.val (.ref a0), .val (.int p1), .val (.int p2), .val (.ref a3)] [(.int ((p1 * p2) + ((2 : Int32) * (((p1 + (1 : Int32)) / (2 : Int32)) * ((p2 + (1 : Int32)) / (2 : Int32))))))])) _
    refine XS.iloadN X3.here hx rfl (hb hby d4_6) rfl ?_
    show Steps p.tables e below (T3.setTop (mkF m 7 #[.val (.ref a0), .val (.int p1), .val (.int p2), .val (.ref a3)] [(.int p1), (.int ((p1 * p2) + ((2 : Int32) * (((p1 + (1 : Int32)) / (2 : Int32)) * ((p2 + (1 : Int32)) / (2 : Int32))))))])) _
    refine XS.iloadN X3.here hx rfl (hb hby d4_7) rfl ?_
    show Steps p.tables e below (T3.setTop (mkF m 8 #[.val (.ref a0), .val (.int p1), .val (.int p2), .val (.ref a3)] [(.int p2), (.int p1), (.int ((p1 * p2) + ((2 : Int32) * (((p1 + (1 : Int32)) / (2 : Int32)) * ((p2 + (1 : Int32)) / (2 : Int32))))))])) _
    refine st5 _ ?_
    show Steps p.tables e below (T5.setTop (mkF m 11 #[.val (.ref a0), .val (.int p1), .val (.int p2), .val (.ref a3)] [(.int ((p1 * p2) + ((2 : Int32) * (((p1 + (1 : Int32)) / (2 : Int32)) * ((p2 + (1 : Int32)) / (2 : Int32)))))), (.int ((p1 * p2) + ((2 : Int32) * (((p1 + (1 : Int32)) / (2 : Int32)) * ((p2 + (1 : Int32)) / (2 : Int32))))))])) _
    refine XS.icmpYes X5.here hx rfl (pc0 := 11) (pc' := 36) rfl (hb hby d4_11) rfl (teq (rfl : ((p1 * p2) + ((2 : Int32) * (((p1 + (1 : Int32)) / (2 : Int32)) * ((p2 + (1 : Int32)) / (2 : Int32))))) = ((p1 * p2) + ((2 : Int32) * (((p1 + (1 : Int32)) / (2 : Int32)) * ((p2 + (1 : Int32)) / (2 : Int32))))))).1 (by decide) (by decide) ?_
    show Steps p.tables e below (T5.setTop (mkF m 36 #[.val (.ref a0), .val (.int p1), .val (.int p2), .val (.ref a3)] [])) _
    refine XS.aloadN X5.here hx rfl (hb hby d4_36) rfl rfl ?_
    show Steps p.tables e below (T5.setTop (mkF m 37 #[.val (.ref a0), .val (.int p1), .val (.int p2), .val (.ref a3)] [(.ref a0)])) _
    refine XS.iloadN X5.here hx rfl (hb hby d4_37) rfl ?_
    show Steps p.tables e below (T5.setTop (mkF m 38 #[.val (.ref a0), .val (.int p1), .val (.int p2), .val (.ref a3)] [(.int p1), (.ref a0)])) _
    refine st6 _ ?_
    show Steps p.tables e below (T6.setTop (mkF m 41 #[.val (.ref a0), .val (.int p1), .val (.int p2), .val (.ref a3)] [])) _
    refine XS.aloadN X6.here hx rfl (hb hby d4_41) rfl rfl ?_
    show Steps p.tables e below (T6.setTop (mkF m 42 #[.val (.ref a0), .val (.int p1), .val (.int p2), .val (.ref a3)] [(.ref a0)])) _
    refine XS.iloadN X6.here hx rfl (hb hby d4_42) rfl ?_
    show Steps p.tables e below (T6.setTop (mkF m 43 #[.val (.ref a0), .val (.int p1), .val (.int p2), .val (.ref a3)] [(.int p2), (.ref a0)])) _
    refine st15 _ ?_
    show Steps p.tables e below (T15.setTop (mkF m 46 #[.val (.ref a0), .val (.int p1), .val (.int p2), .val (.ref a3)] [])) _
    refine XS.aloadN X15.here hx rfl (hb hby d4_46) rfl rfl ?_
    show Steps p.tables e below (T15.setTop (mkF m 47 #[.val (.ref a0), .val (.int p1), .val (.int p2), .val (.ref a3)] [(.ref a0)])) _
    refine XS.aloadN X15.here hx rfl (hb hby d4_47) rfl rfl ?_
    show Steps p.tables e below (T15.setTop (mkF m 48 #[.val (.ref a0), .val (.int p1), .val (.int p2), .val (.ref a3)] [(.ref a3), (.ref a0)])) _
    refine st24 _ ?_
    show Steps p.tables e below (T24.setTop (mkF m 51 #[.val (.ref a0), .val (.int p1), .val (.int p2), .val (.ref a3)] [])) _
    exact X24.returnOut hx Bd.returns (hb hby d4_51) hr
  · show Q4 Z a0 p1 p2 a3 k_a3 h0 n0 _ T24.heap _
    rw [e24]
    exact ⟨rfl, N32, K30, f25, f26, f27, f24w⟩
theorem d6_0 : decode prog_3_method_7_code 0 = .ok (.aload_n 0, 1) := by decide +kernel
theorem d6_1 : decode prog_3_method_7_code 1 = .ok (.getfield 22, 3) := by decide +kernel
theorem d6_4 : decode prog_3_method_7_code 4 = .ok (.aload_n 0, 1) := by decide +kernel
theorem d6_5 : decode prog_3_method_7_code 5 = .ok (.getfield 26, 3) := by decide +kernel
theorem d6_8 : decode prog_3_method_7_code 8 = .ok (.imul, 1) := by decide +kernel
theorem d6_9 : decode prog_3_method_7_code 9 = .ok (.istore_n 1, 1) := by decide +kernel
theorem d6_10 : decode prog_3_method_7_code 10 = .ok (.aload_n 0, 1) := by decide +kernel
theorem d6_11 : decode prog_3_method_7_code 11 = .ok (.getfield 22, 3) := by decide +kernel
theorem d6_14 : decode prog_3_method_7_code 14 = .ok (.aload_n 0, 1) := by decide +kernel
theorem d6_15 : decode prog_3_method_7_code 15 = .ok (.getfield 26, 3) := by decide +kernel
theorem d6_18 : decode prog_3_method_7_code 18 = .ok (.invokestatic 37, 3) := by decide +kernel
theorem d6_21 : decode prog_3_method_7_code 21 = .ok (.istore_n 2, 1) := by decide +kernel
theorem d6_22 : decode prog_3_method_7_code 22 = .ok (.iconst 4, 1) := by decide +kernel
theorem d6_23 : decode prog_3_method_7_code 23 = .ok (.newarray .int, 2) := by decide +kernel
theorem d6_25 : decode prog_3_method_7_code 25 = .ok (.dup, 1) := by decide +kernel
theorem d6_26 : decode prog_3_method_7_code 26 = .ok (.iconst 0, 1) := by decide +kernel
theorem d6_27 : decode prog_3_method_7_code 27 = .ok (.iconst 0, 1) := by decide +kernel
theorem d6_28 : decode prog_3_method_7_code 28 = .ok (.iastore, 1) := by decide +kernel
theorem d6_29 : decode prog_3_method_7_code 29 = .ok (.dup, 1) := by decide +kernel
theorem d6_30 : decode prog_3_method_7_code 30 = .ok (.iconst 1, 1) := by decide +kernel
theorem d6_31 : decode prog_3_method_7_code 31 = .ok (.iload_n 1, 1) := by decide +kernel
theorem d6_32 : decode prog_3_method_7_code 32 = .ok (.iastore, 1) := by decide +kernel
theorem d6_33 : decode prog_3_method_7_code 33 = .ok (.dup, 1) := by decide +kernel
theorem d6_34 : decode prog_3_method_7_code 34 = .ok (.iconst 2, 1) := by decide +kernel
theorem d6_35 : decode prog_3_method_7_code 35 = .ok (.iload_n 1, 1) := by decide +kernel
theorem d6_36 : decode prog_3_method_7_code 36 = .ok (.iload_n 2, 1) := by decide +kernel
theorem d6_37 : decode prog_3_method_7_code 37 = .ok (.iadd, 1) := by decide +kernel
theorem d6_38 : decode prog_3_method_7_code 38 = .ok (.iastore, 1) := by decide +kernel
theorem d6_39 : decode prog_3_method_7_code 39 = .ok (.dup, 1) := by decide +kernel
theorem d6_40 : decode prog_3_method_7_code 40 = .ok (.iconst 3, 1) := by decide +kernel
theorem d6_41 : decode prog_3_method_7_code 41 = .ok (.iload_n 1, 1) := by decide +kernel
theorem d6_42 : decode prog_3_method_7_code 42 = .ok (.iconst 2, 1) := by decide +kernel
theorem d6_43 : decode prog_3_method_7_code 43 = .ok (.iload_n 2, 1) := by decide +kernel
theorem d6_44 : decode prog_3_method_7_code 44 = .ok (.imul, 1) := by decide +kernel
theorem d6_45 : decode prog_3_method_7_code 45 = .ok (.iadd, 1) := by decide +kernel
theorem d6_46 : decode prog_3_method_7_code 46 = .ok (.iastore, 1) := by decide +kernel
theorem d6_47 : decode prog_3_method_7_code 47 = .ok (.areturn, 1) := by decide +kernel
theorem ef6 (m : MethodId) (x0 : Addr) : entryFrame m #[(.ref x0)] 3 = mkF m 0 #[.val (.ref x0), .unset, .unset] [] := by first | (simp [entryFrame, mkF, argsToLocals, Value.category]; done) | rfl
abbrev rr6 : Room := { frames := 1, cells := 1, slots := 4, locals := 13 }
def Q6 (Z : State) (a0 : Addr) (wv : Int32) (hv : Int32) (h0 : Heap) (n0 : Nat) (v : Option Value) (h : Heap) (L : List Loc) : Prop := ∃ (x0 : Addr) (y0 : ClassId), v = some (.ref x0) ∧ Fr n0 L ∧ Keep h0 h [] ∧ n0 ≤ x0 ∧ h0.size ≤ x0 ∧ Arv Z h x0 y0 .int (4 : Int32) [(.int (0 : Int32)), (.int (wv * hv)), (.int ((wv * hv) + (((wv + (1 : Int32)) / (2 : Int32)) * ((hv + (1 : Int32)) / (2 : Int32))))), (.int ((wv * hv) + ((2 : Int32) * (((wv + (1 : Int32)) / (2 : Int32)) * ((hv + (1 : Int32)) / (2 : Int32))))))] (.int (0 : Int32))
set_option maxRecDepth 65536 in
set_option maxHeartbeats 40000000 in
theorem rm6 (l : Launch) (Z : State) (aw : Array Value) (hw : ∀ d ∈ tables_1, d.before aw Z = true) (ws : List Jvm.Cond) (a0 : Addr) (wv : Int32) (hv : Int32) (h0 : Heap) (n0 : Nat) (Z0 : n0 ≤ h0.size) (E_a0 : Exa Z h0 a0 "com/example/streamwarden/streamwarden/detect/Frame") (F_width_a0 : Fld Z h0 a0 "com/example/streamwarden/streamwarden/detect/Frame" "width" "I" (.int wv)) (F_height_a0 : Fld Z h0 a0 "com/example/streamwarden/streamwarden/detect/Frame" "height" "I" (.int hv)) :
    MetFree l (⟨"com/example/streamwarden/streamwarden/detect/Frame", "planeBounds", "()[I"⟩ : MethodName) (head1 (Jvm.Cond.code (⟨"com/example/streamwarden/streamwarden/detect/Frame", "planeBounds", "()[I"⟩ : MethodName) prog_3_method_7_code 3 (some (.array .int)) :: ws) rr6) (fun a U => a = #[(.ref a0)] ∧ Z.Warmed39 U.vm ∧ U.heap = h0) (fun _ _ _ _ _ => True) (fun _ U o U' => ∃ v L, o = .returned v ∧ Q6 Z a0 wv hv h0 n0 v U'.heap L ∧ FrameEnd U o U' L rr6.cells rr6.slots) := by
  refine MetFree.of_bodySF (plainFor_of_name pn_1) hisR ?_
  intro p e s m args below meth c s₁ Bd hml0 hP hK
  obtain ⟨rfl, hZ, hh⟩ := hP
  have hx := Bd.exec
  have hby := Bd.bytes
  have hml : c.maxLocals = 3 := hml0
  have hown : s.vm.findClass "com/example/streamwarden/streamwarden/detect/Frame" = some m.cls := findClass_of_methodNamed Bd.named
  have hnm := (name_of_methodNamed Bd.named Bd.method).1
  have X0 : Stand p l e rr6 s m #[(.ref a0)] below meth c s₁ [] 0 0 := Stand.of_body Bd
  have e0 : s₁.heap = h0 := by rw [← hh, Bd.state]; rfl
  have N0 := Fr.nil n0
  have K0 := Keep.refl h0 []
  have pre0 : ∀ t, Steps p.tables e below (s₁.setTop (mkF m 0 #[.val (.ref a0), .unset, .unset] [])) t → Steps p.tables e below (s₁.setTop (entryFrame m #[(.ref a0)] 3)) t := fun t k => castTop (ef6 m a0) k
  obtain ⟨T33, X33, e33, st33⟩ := getF X0 hx hZ hown (host := "") (Or.inl (hw _ (List.mem_of_getElem? (i := 20) rfl))) Via.refl e0 F_width_a0 (g := (mkF m 1 #[.val (.ref a0), .unset, .unset] [(.ref a0)])) rfl rfl (hb hby d6_1)
  obtain ⟨T34, X34, e34, st34⟩ := getF X33 hx hZ hown (host := "") (Or.inl (hw _ (List.mem_of_getElem? (i := 22) rfl))) Via.refl e33 F_height_a0 (g := (mkF m 5 #[.val (.ref a0), .unset, .unset] [(.ref a0), (.int wv)])) rfl rfl (hb hby d6_5)
  obtain ⟨T35, X35, e35, st35⟩ := getF X34 hx hZ hown (host := "") (Or.inl (hw _ (List.mem_of_getElem? (i := 20) rfl))) Via.refl e34 F_width_a0 (g := (mkF m 11 #[.val (.ref a0), .val (.int (wv * hv)), .unset] [(.ref a0)])) rfl rfl (hb hby d6_11)
  obtain ⟨T36, X36, e36, st36⟩ := getF X35 hx hZ hown (host := "") (Or.inl (hw _ (List.mem_of_getElem? (i := 22) rfl))) Via.refl e35 F_height_a0 (g := (mkF m 15 #[.val (.ref a0), .val (.int (wv * hv)), .unset] [(.ref a0), (.int wv)])) rfl rfl (hb hby d6_15)
  obtain ⟨_, _, ⟨T37, L37, k37, n37⟩, -, X37, ⟨Lc37, hQ37, l37, y37, z37⟩, st37⟩ := Jvm.LawKit.callS X36 hx (y := (⟨"com/example/streamwarden/streamwarden/detect/Frame", "chromaSize", "(II)I"⟩ : MethodName)) hown (mvT hZ (hw _ (List.mem_of_getElem? (i := 7) rfl))) (mvT hZ (hw _ (List.mem_of_getElem? (i := 8) rfl))) (mvT hZ (hw _ (List.mem_of_getElem? (i := 2) rfl))) (mvT hZ (hw _ (List.mem_of_getElem? (i := 9) rfl))) (by decide) (backOf (W := 0) (rm3 l Z aw hw [] wv hv h0 n0 Z0 ) hZ (hw _ (List.mem_of_getElem? (i := 9) rfl)) (hw _ (List.mem_of_getElem? (i := 2) rfl)) (by decide) (by decide)) (g := (mkF m 18 #[.val (.ref a0), .val (.int (wv * hv)), .unset] [(.int hv), (.int wv)])) rfl (by rw [hml]; rfl) (argsL := [(.int wv), (.int hv)]) (rest := []) (lenOf pd_2 rfl) rfl (by show 2 * 0 + _ ≤ _; exact Nat.le_of_eq rfl) (hb hby d6_18) (fun _ _ => ⟨rfl, e36, (by decide : 0 + 0 ≤ _), (by decide : 0 + 0 ≤ _)⟩)
  dsimp only [Pt.U, Pt.locs, Pt.cells, Pt.slots] at X37 l37 y37 z37 st37 hQ37
  subst l37 y37 z37
  obtain ⟨rfl, N37q, e37⟩ := hQ37
  have N37 := Fr.app N0 N37q
  obtain ⟨T38, h38, k38, X38, e38, E38, A38, st38⟩ := newP X37 hx hZ (hw _ (List.mem_of_getElem? (i := 31) rfl)) e37 (g := (mkF m 23 #[.val (.ref a0), .val (.int (wv * hv)), .val (.int (((wv + (1 : Int32)) / (2 : Int32)) * ((hv + (1 : Int32)) / (2 : Int32))))] [(.int (4 : Int32))])) rfl (hb hby d6_23) rfl (by decide) (cap := 4) (by decide) (by decide) (by decide) (by decide)
  obtain ⟨b38, gg38⟩ : ∃ z, z = h0.size := ⟨_, rfl⟩
  rw [← gg38] at A38 st38
  have f39 := E_a0.ext E38
  have f40 := F_width_a0.ext E38
  have f41 := F_height_a0.ext E38
  have ne42 : a0 ≠ b38 := Nat.ne_of_lt (Nat.lt_of_lt_of_le E_a0.lt (Nat.le_of_eq gg38.symm))
  have g_b38 : n0 ≤ b38 := Nat.le_trans Z0 (Nat.le_of_eq gg38.symm)
  have sz_b38 : h0.size ≤ b38 := Nat.le_trans K0.1 (Nat.le_of_eq gg38.symm)
  have K43 := K0.ext E38
  have Z44 := Nat.le_trans Z0 E38.1
  have V38 : Arv Z h38 b38 k38 .int (4 : Int32) [(.int (0 : Int32)), (.int (0 : Int32)), (.int (0 : Int32)), (.int (0 : Int32))] (.int (0 : Int32)) := (Arv.new A38 (by decide)).pad (pad_rep [] (.int (0 : Int32)) 4)
  obtain ⟨cl45, Ar45, q45, S45, M45, H45, G45⟩ := id V38
  have hin46 : ¬ ((0 : Int32) < 0 ∨ cl45.slots.size ≤ ((0 : Int32)).toNatClampNeg) := inb_of S45 ⟨by decide, by decide⟩
  obtain ⟨T47, h47, X47, e47, W47, st47⟩ := stI X38 hx hZ e38 Ar45 (j := (0 : Int32)) hin46 (g := (mkF m 28 #[.val (.ref a0), .val (.int (wv * hv)), .val (.int (((wv + (1 : Int32)) / (2 : Int32)) * ((hv + (1 : Int32)) / (2 : Int32))))] [(.int (0 : Int32)), (.int (0 : Int32)), (.ref b38), (.ref b38)])) rfl rfl (hb hby d6_28)
  have V47 : Arv Z h47 b38 k38 .int (4 : Int32) [(.int (0 : Int32)), (.int (0 : Int32)), (.int (0 : Int32)), (.int (0 : Int32))] (.int (0 : Int32)) := Arv.set Ar45 q45 S45 M45 H45 G45 rfl W47 0 rfl (Nat.le_of_ble_eq_true rfl)
  have f48 := f39.wr W47
  have f49 := f40.other W47 (Or.inl ne42)
  have f50 := f41.other W47 (Or.inl ne42)
  have K52 := K43.wr W47 (Or.inr sz_b38)
  have Z53 := Nat.le_trans Z44 (Keep.of_wr W47).1
  have N54 := Fr.snoc X47 N37 g_b38
  obtain ⟨cl55, Ar55, q55, S55, M55, H55, G55⟩ := id V47
  have hin56 : ¬ ((1 : Int32) < 0 ∨ cl55.slots.size ≤ ((1 : Int32)).toNatClampNeg) := inb_of S55 ⟨by decide, by decide⟩
  obtain ⟨T57, h57, X57, e57, W57, st57⟩ := stI X47 hx hZ e47 Ar55 (j := (1 : Int32)) hin56 (g := (mkF m 32 #[.val (.ref a0), .val (.int (wv * hv)), .val (.int (((wv + (1 : Int32)) / (2 : Int32)) * ((hv + (1 : Int32)) / (2 : Int32))))] [(.int (wv * hv)), (.int (1 : Int32)), (.ref b38), (.ref b38)])) rfl rfl (hb hby d6_32)
  have V57 : Arv Z h57 b38 k38 .int (4 : Int32) [(.int (0 : Int32)), (.int (wv * hv)), (.int (0 : Int32)), (.int (0 : Int32))] (.int (0 : Int32)) := Arv.set Ar55 q55 S55 M55 H55 G55 rfl W57 1 rfl (Nat.le_of_ble_eq_true rfl)
  have f58 := f48.wr W57
  have f59 := f49.other W57 (Or.inl ne42)
  have f60 := f50.other W57 (Or.inl ne42)
  have K62 := K52.wr W57 (Or.inr sz_b38)
  have Z63 := Nat.le_trans Z53 (Keep.of_wr W57).1
  have N64 := Fr.snoc X57 N54 g_b38
  obtain ⟨cl65, Ar65, q65, S65, M65, H65, G65⟩ := id V57
  have hin66 : ¬ ((2 : Int32) < 0 ∨ cl65.slots.size ≤ ((2 : Int32)).toNatClampNeg) := inb_of S65 ⟨by decide, by decide⟩
  obtain ⟨T67, h67, X67, e67, W67, st67⟩ := stI X57 hx hZ e57 Ar65 (j := (2 : Int32)) hin66 (g := (mkF m 38 #[.val (.ref a0), .val (.int (wv * hv)), .val (.int (((wv + (1 : Int32)) / (2 : Int32)) * ((hv + (1 : Int32)) / (2 : Int32))))] [(.int ((wv * hv) + (((wv + (1 : Int32)) / (2 : Int32)) * ((hv + (1 : Int32)) / (2 : Int32))))), (.int (2 : Int32)), (.ref b38), (.ref b38)])) rfl rfl (hb hby d6_38)
  have V67 : Arv Z h67 b38 k38 .int (4 : Int32) [(.int (0 : Int32)), (.int (wv * hv)), (.int ((wv * hv) + (((wv + (1 : Int32)) / (2 : Int32)) * ((hv + (1 : Int32)) / (2 : Int32))))), (.int (0 : Int32))] (.int (0 : Int32)) := Arv.set Ar65 q65 S65 M65 H65 G65 rfl W67 2 rfl (Nat.le_of_ble_eq_true rfl)
  have f68 := f58.wr W67
  have f69 := f59.other W67 (Or.inl ne42)
  have f70 := f60.other W67 (Or.inl ne42)
  have K72 := K62.wr W67 (Or.inr sz_b38)
  have Z73 := Nat.le_trans Z63 (Keep.of_wr W67).1
  have N74 := Fr.snoc X67 N64 g_b38
  obtain ⟨cl75, Ar75, q75, S75, M75, H75, G75⟩ := id V67
  have hin76 : ¬ ((3 : Int32) < 0 ∨ cl75.slots.size ≤ ((3 : Int32)).toNatClampNeg) := inb_of S75 ⟨by decide, by decide⟩
  obtain ⟨T77, h77, X77, e77, W77, st77⟩ := stI X67 hx hZ e67 Ar75 (j := (3 : Int32)) hin76 (g := (mkF m 46 #[.val (.ref a0), .val (.int (wv * hv)), .val (.int (((wv + (1 : Int32)) / (2 : Int32)) * ((hv + (1 : Int32)) / (2 : Int32))))] [(.int ((wv * hv) + ((2 : Int32) * (((wv + (1 : Int32)) / (2 : Int32)) * ((hv + (1 : Int32)) / (2 : Int32)))))), (.int (3 : Int32)), (.ref b38), (.ref b38)])) rfl rfl (hb hby d6_46)
  have V77 : Arv Z h77 b38 k38 .int (4 : Int32) [(.int (0 : Int32)), (.int (wv * hv)), (.int ((wv * hv) + (((wv + (1 : Int32)) / (2 : Int32)) * ((hv + (1 : Int32)) / (2 : Int32))))), (.int ((wv * hv) + ((2 : Int32) * (((wv + (1 : Int32)) / (2 : Int32)) * ((hv + (1 : Int32)) / (2 : Int32))))))] (.int (0 : Int32)) := Arv.set Ar75 q75 S75 M75 H75 G75 rfl W77 3 rfl (Nat.le_of_ble_eq_true rfl)
  have f78 := f68.wr W77
  have f79 := f69.other W77 (Or.inl ne42)
  have f80 := f70.other W77 (Or.inl ne42)
  have K82 := K72.wr W77 (Or.inr sz_b38)
  have Z83 := Nat.le_trans Z73 (Keep.of_wr W77).1
  have N84 := Fr.snoc X77 N74 g_b38
  obtain ⟨fs, hr, hrun, hended, hW, hsame⟩ := X77.leave (v := some (.ref b38)) (fun h => by rw [Bd.returns] at h; cases h)
  refine ⟨_, _, pre0 _ ?_, hrun, hended, _, _, rfl, ?_, ⟨_, rfl⟩, hW, hsame.mono (by decide) (by decide)⟩
  · skip
    show Steps p.tables e below (s₁.setTop (mkF m 0 #[.val (.ref a0), .unset, .unset] [])) _
    refine XS.aloadN X0.here hx rfl (hb hby d6_0) rfl rfl ?_
    show Steps p.tables e below (s₁.setTop (mkF m 1 #[.val (.ref a0), .unset, .unset] [(.ref a0)])) _
    refine st33 _ ?_
    show Steps p.tables e below (T33.setTop (mkF m 4 #[.val (.ref a0), .unset, .unset] [(.int wv)])) _
    refine XS.aloadN X33.here hx rfl (hb hby d6_4) rfl rfl ?_
    show Steps p.tables e below (T33.setTop (mkF m 5 #[.val (.ref a0), .unset, .unset] [(.ref a0), (.int wv)])) _
    refine st34 _ ?_
    show Steps p.tables e below (T34.setTop (mkF m 8 #[.val (.ref a0), .unset, .unset] [(.int hv), (.int wv)])) _
    refine XS.imul X34.here hx rfl (hb hby d6_8) rfl ?_
    show Steps p.tables e below (T34.setTop (mkF m 9 #[.val (.ref a0), .unset, .unset] [(.int (wv * hv))])) _
    refine XS.istoreN X34.here hx rfl (hb hby d6_9) rfl (l' := #[.val (.ref a0), .val (.int (wv * hv)), .unset]) rfl ?_
    show Steps p.tables e below (T34.setTop (mkF m 10 #[.val (.ref a0), .val (.int (wv * hv)), .unset] [])) _
    refine XS.aloadN X34.here hx rfl (hb hby d6_10) rfl rfl ?_
    show Steps p.tables e below (T34.setTop (mkF m 11 #[.val (.ref a0), .val (.int (wv * hv)), .unset] [(.ref a0)])) _
    refine st35 _ ?_
    show Steps p.tables e below (T35.setTop (mkF m 14 #[.val (.ref a0), .val (.int (wv * hv)), .unset] [(.int wv)])) _
    refine XS.aloadN X35.here hx rfl (hb hby d6_14) rfl rfl ?_
    show Steps p.tables e below (T35.setTop (mkF m 15 #[.val (.ref a0), .val (.int (wv * hv)), .unset] [(.ref a0), (.int wv)])) _
    refine st36 _ ?_
    show Steps p.tables e below (T36.setTop (mkF m 18 #[.val (.ref a0), .val (.int (wv * hv)), .unset] [(.int hv), (.int wv)])) _
    refine st37 _ ?_
    show Steps p.tables e below (T37.setTop (mkF m 21 #[.val (.ref a0), .val (.int (wv * hv)), .unset] [(.int (((wv + (1 : Int32)) / (2 : Int32)) * ((hv + (1 : Int32)) / (2 : Int32))))])) _
    refine XS.istoreN X37.here hx rfl (hb hby d6_21) rfl (l' := #[.val (.ref a0), .val (.int (wv * hv)), .val (.int (((wv + (1 : Int32)) / (2 : Int32)) * ((hv + (1 : Int32)) / (2 : Int32))))]) rfl ?_
    show Steps p.tables e below (T37.setTop (mkF m 22 #[.val (.ref a0), .val (.int (wv * hv)), .val (.int (((wv + (1 : Int32)) / (2 : Int32)) * ((hv + (1 : Int32)) / (2 : Int32))))] [])) _
    refine XS.iconst X37.here hx rfl (hb hby d6_22) ?_
    show Steps p.tables e below (T37.setTop (mkF m 23 #[.val (.ref a0), .val (.int (wv * hv)), .val (.int (((wv + (1 : Int32)) / (2 : Int32)) * ((hv + (1 : Int32)) / (2 : Int32))))] [(.int (4 : Int32))])) _
    refine st38 _ ?_
    show Steps p.tables e below (T38.setTop (mkF m 25 #[.val (.ref a0), .val (.int (wv * hv)), .val (.int (((wv + (1 : Int32)) / (2 : Int32)) * ((hv + (1 : Int32)) / (2 : Int32))))] [(.ref b38)])) _
    refine XS.dup X38.here hx rfl (hb hby d6_25) rfl rfl ?_
    show Steps p.tables e below (T38.setTop (mkF m 26 #[.val (.ref a0), .val (.int (wv * hv)), .val (.int (((wv + (1 : Int32)) / (2 : Int32)) * ((hv + (1 : Int32)) / (2 : Int32))))] [(.ref b38), (.ref b38)])) _
    refine XS.iconst X38.here hx rfl (hb hby d6_26) ?_
    show Steps p.tables e below (T38.setTop (mkF m 27 #[.val (.ref a0), .val (.int (wv * hv)), .val (.int (((wv + (1 : Int32)) / (2 : Int32)) * ((hv + (1 : Int32)) / (2 : Int32))))] [(.int (0 : Int32)), (.ref b38), (.ref b38)])) _
    refine XS.iconst X38.here hx rfl (hb hby d6_27) ?_
    show Steps p.tables e below (T38.setTop (mkF m 28 #[.val (.ref a0), .val (.int (wv * hv)), .val (.int (((wv + (1 : Int32)) / (2 : Int32)) * ((hv + (1 : Int32)) / (2 : Int32))))] [(.int (0 : Int32)), (.int (0 : Int32)), (.ref b38), (.ref b38)])) _
    refine st47 _ ?_
    show Steps p.tables e below (T47.setTop (mkF m 29 #[.val (.ref a0), .val (.int (wv * hv)), .val (.int (((wv + (1 : Int32)) / (2 : Int32)) * ((hv + (1 : Int32)) / (2 : Int32))))] [(.ref b38)])) _
    refine XS.dup X47.here hx rfl (hb hby d6_29) rfl rfl ?_
    show Steps p.tables e below (T47.setTop (mkF m 30 #[.val (.ref a0), .val (.int (wv * hv)), .val (.int (((wv + (1 : Int32)) / (2 : Int32)) * ((hv + (1 : Int32)) / (2 : Int32))))] [(.ref b38), (.ref b38)])) _
    refine XS.iconst X47.here hx rfl (hb hby d6_30) ?_
    show Steps p.tables e below (T47.setTop (mkF m 31 #[.val (.ref a0), .val (.int (wv * hv)), .val (.int (((wv + (1 : Int32)) / (2 : Int32)) * ((hv + (1 : Int32)) / (2 : Int32))))] [(.int (1 : Int32)), (.ref b38), (.ref b38)])) _
    refine XS.iloadN X47.here hx rfl (hb hby d6_31) rfl ?_
    show Steps p.tables e below (T47.setTop (mkF m 32 #[.val (.ref a0), .val (.int (wv * hv)), .val (.int (((wv + (1 : Int32)) / (2 : Int32)) * ((hv + (1 : Int32)) / (2 : Int32))))] [(.int (wv * hv)), (.int (1 : Int32)), (.ref b38), (.ref b38)])) _
    refine st57 _ ?_
    show Steps p.tables e below (T57.setTop (mkF m 33 #[.val (.ref a0), .val (.int (wv * hv)), .val (.int (((wv + (1 : Int32)) / (2 : Int32)) * ((hv + (1 : Int32)) / (2 : Int32))))] [(.ref b38)])) _
    refine XS.dup X57.here hx rfl (hb hby d6_33) rfl rfl ?_
    show Steps p.tables e below (T57.setTop (mkF m 34 #[.val (.ref a0), .val (.int (wv * hv)), .val (.int (((wv + (1 : Int32)) / (2 : Int32)) * ((hv + (1 : Int32)) / (2 : Int32))))] [(.ref b38), (.ref b38)])) _
    refine XS.iconst X57.here hx rfl (hb hby d6_34) ?_
    show Steps p.tables e below (T57.setTop (mkF m 35 #[.val (.ref a0), .val (.int (wv * hv)), .val (.int (((wv + (1 : Int32)) / (2 : Int32)) * ((hv + (1 : Int32)) / (2 : Int32))))] [(.int (2 : Int32)), (.ref b38), (.ref b38)])) _
    refine XS.iloadN X57.here hx rfl (hb hby d6_35) rfl ?_
    show Steps p.tables e below (T57.setTop (mkF m 36 #[.val (.ref a0), .val (.int (wv * hv)), .val (.int (((wv + (1 : Int32)) / (2 : Int32)) * ((hv + (1 : Int32)) / (2 : Int32))))] [(.int (wv * hv)), (.int (2 : Int32)), (.ref b38), (.ref b38)])) _
    refine XS.iloadN X57.here hx rfl (hb hby d6_36) rfl ?_
    show Steps p.tables e below (T57.setTop (mkF m 37 #[.val (.ref a0), .val (.int (wv * hv)), .val (.int (((wv + (1 : Int32)) / (2 : Int32)) * ((hv + (1 : Int32)) / (2 : Int32))))] [(.int (((wv + (1 : Int32)) / (2 : Int32)) * ((hv + (1 : Int32)) / (2 : Int32)))), (.int (wv * hv)), (.int (2 : Int32)), (.ref b38), (.ref b38)])) _
    refine XS.iadd X57.here hx rfl (hb hby d6_37) rfl ?_
    show Steps p.tables e below (T57.setTop (mkF m 38 #[.val (.ref a0), .val (.int (wv * hv)), .val (.int (((wv + (1 : Int32)) / (2 : Int32)) * ((hv + (1 : Int32)) / (2 : Int32))))] [(.int ((wv * hv) + (((wv + (1 : Int32)) / (2 : Int32)) * ((hv + (1 : Int32)) / (2 : Int32))))), (.int (2 : Int32)), (.ref b38), (.ref b38)])) _
    refine st67 _ ?_
    show Steps p.tables e below (T67.setTop (mkF m 39 #[.val (.ref a0), .val (.int (wv * hv)), .val (.int (((wv + (1 : Int32)) / (2 : Int32)) * ((hv + (1 : Int32)) / (2 : Int32))))] [(.ref b38)])) _
    refine XS.dup X67.here hx rfl (hb hby d6_39) rfl rfl ?_
    show Steps p.tables e below (T67.setTop (mkF m 40 #[.val (.ref a0), .val (.int (wv * hv)), .val (.int (((wv + (1 : Int32)) / (2 : Int32)) * ((hv + (1 : Int32)) / (2 : Int32))))] [(.ref b38), (.ref b38)])) _
    refine XS.iconst X67.here hx rfl (hb hby d6_40) ?_
    show Steps p.tables e below (T67.setTop (mkF m 41 #[.val (.ref a0), .val (.int (wv * hv)), .val (.int (((wv + (1 : Int32)) / (2 : Int32)) * ((hv + (1 : Int32)) / (2 : Int32))))] [(.int (3 : Int32)), (.ref b38), (.ref b38)])) _
    refine XS.iloadN X67.here hx rfl (hb hby d6_41) rfl ?_
    show Steps p.tables e below (T67.setTop (mkF m 42 #[.val (.ref a0), .val (.int (wv * hv)), .val (.int (((wv + (1 : Int32)) / (2 : Int32)) * ((hv + (1 : Int32)) / (2 : Int32))))] [(.int (wv * hv)), (.int (3 : Int32)), (.ref b38), (.ref b38)])) _
    refine XS.iconst X67.here hx rfl (hb hby d6_42) ?_
    show Steps p.tables e below (T67.setTop (mkF m 43 #[.val (.ref a0), .val (.int (wv * hv)), .val (.int (((wv + (1 : Int32)) / (2 : Int32)) * ((hv + (1 : Int32)) / (2 : Int32))))] [(.int (2 : Int32)), (.int (wv * hv)), (.int (3 : Int32)), (.ref b38), (.ref b38)])) _
    refine XS.iloadN X67.here hx rfl (hb hby d6_43) rfl ?_
    show Steps p.tables e below (T67.setTop (mkF m 44 #[.val (.ref a0), .val (.int (wv * hv)), .val (.int (((wv + (1 : Int32)) / (2 : Int32)) * ((hv + (1 : Int32)) / (2 : Int32))))] [(.int (((wv + (1 : Int32)) / (2 : Int32)) * ((hv + (1 : Int32)) / (2 : Int32)))), (.int (2 : Int32)), (.int (wv * hv)), (.int (3 : Int32)), (.ref b38), (.ref b38)])) _
    refine XS.imul X67.here hx rfl (hb hby d6_44) rfl ?_
    show Steps p.tables e below (T67.setTop (mkF m 45 #[.val (.ref a0), .val (.int (wv * hv)), .val (.int (((wv + (1 : Int32)) / (2 : Int32)) * ((hv + (1 : Int32)) / (2 : Int32))))] [(.int ((2 : Int32) * (((wv + (1 : Int32)) / (2 : Int32)) * ((hv + (1 : Int32)) / (2 : Int32))))), (.int (wv * hv)), (.int (3 : Int32)), (.ref b38), (.ref b38)])) _
    refine XS.iadd X67.here hx rfl (hb hby d6_45) rfl ?_
    show Steps p.tables e below (T67.setTop (mkF m 46 #[.val (.ref a0), .val (.int (wv * hv)), .val (.int (((wv + (1 : Int32)) / (2 : Int32)) * ((hv + (1 : Int32)) / (2 : Int32))))] [(.int ((wv * hv) + ((2 : Int32) * (((wv + (1 : Int32)) / (2 : Int32)) * ((hv + (1 : Int32)) / (2 : Int32)))))), (.int (3 : Int32)), (.ref b38), (.ref b38)])) _
    refine st77 _ ?_
    show Steps p.tables e below (T77.setTop (mkF m 47 #[.val (.ref a0), .val (.int (wv * hv)), .val (.int (((wv + (1 : Int32)) / (2 : Int32)) * ((hv + (1 : Int32)) / (2 : Int32))))] [(.ref b38)])) _
    exact retOut X77 hx Bd.returns rfl (Or.inr (Or.inr (Or.inr (Or.inr ⟨rfl, rfl, rfl⟩)))) (hb hby d6_47) hr
  · show Q6 Z a0 wv hv h0 n0 _ T77.heap _
    rw [e77]
    exact ⟨b38, k38, rfl, N84, K82, g_b38, sz_b38, V77⟩
theorem d7_0 : decode prog_3_method_6_code 0 = .ok (.aload_n 0, 1) := by decide +kernel
theorem d7_1 : decode prog_3_method_6_code 1 = .ok (.getfield 29, 3) := by decide +kernel
theorem d7_4 : decode prog_3_method_6_code 4 = .ok (.areturn, 1) := by decide +kernel
theorem ef7 (m : MethodId) (x0 : Addr) : entryFrame m #[(.ref x0)] 1 = mkF m 0 #[.val (.ref x0)] [] := by first | (simp [entryFrame, mkF, argsToLocals, Value.category]; done) | rfl
abbrev rr7 : Room := { frames := 0, cells := 0, slots := 0, locals := 0 }
def Q7 (Z : State) (a0 : Addr) (bb : Addr) (h0 : Heap) (n0 : Nat) (v : Option Value) (h : Heap) (L : List Loc) : Prop := v = some (.ref bb) ∧ Fr n0 L ∧ h = h0
set_option maxRecDepth 65536 in
set_option maxHeartbeats 40000000 in
theorem rm7 (l : Launch) (Z : State) (aw : Array Value) (hw : ∀ d ∈ tables_1, d.before aw Z = true) (ws : List Jvm.Cond) (a0 : Addr) (bb : Addr) (h0 : Heap) (n0 : Nat) (Z0 : n0 ≤ h0.size) (E_a0 : Exa Z h0 a0 "com/example/streamwarden/streamwarden/detect/Frame") (F_samples_a0 : Fld Z h0 a0 "com/example/streamwarden/streamwarden/detect/Frame" "samples" "[B" (.ref bb)) :
    MetFree l (⟨"com/example/streamwarden/streamwarden/detect/Frame", "samples", "()[B"⟩ : MethodName) (head1 (Jvm.Cond.code (⟨"com/example/streamwarden/streamwarden/detect/Frame", "samples", "()[B"⟩ : MethodName) prog_3_method_6_code 1 (some (.array .byte)) :: ws) rr7) (fun a U => a = #[(.ref a0)] ∧ Z.Warmed39 U.vm ∧ U.heap = h0) (fun _ _ _ _ _ => True) (fun _ U o U' => ∃ v L, o = .returned v ∧ Q7 Z a0 bb h0 n0 v U'.heap L ∧ FrameEnd U o U' L rr7.cells rr7.slots) := by
  refine MetFree.of_bodySF (plainFor_of_name pn_1) hisR ?_
  intro p e s m args below meth c s₁ Bd hml0 hP hK
  obtain ⟨rfl, hZ, hh⟩ := hP
  have hx := Bd.exec
  have hby := Bd.bytes
  have hml : c.maxLocals = 1 := hml0
  have hown : s.vm.findClass "com/example/streamwarden/streamwarden/detect/Frame" = some m.cls := findClass_of_methodNamed Bd.named
  have hnm := (name_of_methodNamed Bd.named Bd.method).1
  have X0 : Stand p l e rr7 s m #[(.ref a0)] below meth c s₁ [] 0 0 := Stand.of_body Bd
  have e0 : s₁.heap = h0 := by rw [← hh, Bd.state]; rfl
  have N0 := Fr.nil n0
  have pre0 : ∀ t, Steps p.tables e below (s₁.setTop (mkF m 0 #[.val (.ref a0)] [])) t → Steps p.tables e below (s₁.setTop (entryFrame m #[(.ref a0)] 1)) t := fun t k => castTop (ef7 m a0) k
  obtain ⟨T85, X85, e85, st85⟩ := getF X0 hx hZ hown (host := "") (Or.inl (hw _ (List.mem_of_getElem? (i := 24) rfl))) Via.refl e0 F_samples_a0 (g := (mkF m 1 #[.val (.ref a0)] [(.ref a0)])) rfl rfl (hb hby d7_1)
  obtain ⟨fs, hr, hrun, hended, hW, hsame⟩ := X85.leave (v := some (.ref bb)) (fun h => by rw [Bd.returns] at h; cases h)
  refine ⟨_, _, pre0 _ ?_, hrun, hended, _, _, rfl, ?_, ⟨_, rfl⟩, hW, hsame.mono (by decide) (by decide)⟩
  · skip
    show Steps p.tables e below (s₁.setTop (mkF m 0 #[.val (.ref a0)] [])) _
    refine XS.aloadN X0.here hx rfl (hb hby d7_0) rfl rfl ?_
    show Steps p.tables e below (s₁.setTop (mkF m 1 #[.val (.ref a0)] [(.ref a0)])) _
    refine st85 _ ?_
    show Steps p.tables e below (T85.setTop (mkF m 4 #[.val (.ref a0)] [(.ref bb)])) _
    exact retOut X85 hx Bd.returns rfl (Or.inr (Or.inr (Or.inr (Or.inr ⟨rfl, rfl, rfl⟩)))) (hb hby d7_4) hr
  · show Q7 Z a0 bb h0 n0 _ T85.heap _
    rw [e85]
    exact ⟨rfl, N0, rfl⟩
theorem own_w (a : Int32) : ((1 : Int32) + (a &&& (63 : Int32))).toInt = a.toInt % 2 ^ 6 + 1 := by
  have e : (a &&& (63 : Int32)).toInt = a.toInt % 2 ^ 6 := Jvm.Kit.i32_mask a 63 (k := 6) (by decide) (by decide)
  have o : (1 : Int32).toInt = 1 := rfl
  rw [Jvm.Kit.i32_add] <;> rw [e, o] <;> omega
theorem own_wb (a : Int32) : ¬ ((1 : Int32) + (a &&& (63 : Int32))) < (1 : Int32) ∧ ¬ (16384 : Int32) < ((1 : Int32) + (a &&& (63 : Int32))) := by
  have o : (1 : Int32).toInt = 1 := rfl
  have o' : (16384 : Int32).toInt = 16384 := rfl
  rw [Int32.lt_iff_toInt_lt, Int32.lt_iff_toInt_lt, own_w, o, o']; omega
theorem own_half (w : Int32) (h1 : 1 ≤ w.toInt) (h2 : w.toInt ≤ 64) : (w + (1 : Int32)) / (2 : Int32) = w / (2 : Int32) + w % (2 : Int32) ∧ 0 ≤ ((w + (1 : Int32)) / (2 : Int32)).toInt ∧ ((w + (1 : Int32)) / (2 : Int32)).toInt ≤ 32 := by
  have o : (1 : Int32).toInt = 1 := rfl
  have t : (2 : Int32).toInt = 2 := rfl
  have e1 : (w + (1 : Int32)).toInt = w.toInt + 1 := by rw [Jvm.Kit.i32_add] <;> rw [o] <;> omega
  have e2 : (w % (2 : Int32)).toInt = w.toInt % 2 := Jvm.Kit.i32_rem_nonneg (by omega)
  have e3 : (w / (2 : Int32)).toInt = w.toInt / 2 := by rw [Jvm.Kit.i32_div (by rw [t]; omega), t, Int.tdiv_eq_ediv_of_nonneg (by omega)]
  have e4 : ((w + (1 : Int32)) / (2 : Int32)).toInt = (w.toInt + 1) / 2 := by rw [Jvm.Kit.i32_div (by rw [t]; omega), e1, t, Int.tdiv_eq_ediv_of_nonneg (by omega)]
  have e5 : (w / (2 : Int32) + w % (2 : Int32)).toInt = w.toInt / 2 + w.toInt % 2 := by rw [Jvm.Kit.i32_add] <;> rw [e2, e3] <;> omega
  refine ⟨?_, by omega, by omega⟩
  rw [← Int32.toInt_inj, e4, e5]; omega
theorem own_len (w h : Int32) (h1 : 1 ≤ w.toInt) (h2 : w.toInt ≤ 64) (h3 : 1 ≤ h.toInt) (h4 : h.toInt ≤ 64) : 0 ≤ (((w * h) + ((2 : Int32) * (((w + (1 : Int32)) / (2 : Int32)) * ((h + (1 : Int32)) / (2 : Int32)))))).toInt ∧ (((w * h) + ((2 : Int32) * (((w + (1 : Int32)) / (2 : Int32)) * ((h + (1 : Int32)) / (2 : Int32)))))).toInt ≤ 6144 := by
  obtain ⟨-, a2, a3⟩ := own_half w h1 h2
  obtain ⟨-, b2, b3⟩ := own_half h h3 h4
  generalize (w + (1 : Int32)) / (2 : Int32) = x at *
  generalize (h + (1 : Int32)) / (2 : Int32) = y at *
  have c1 : 0 ≤ w.toInt * h.toInt := Int.mul_nonneg (by omega) (by omega)
  have c2 : w.toInt * h.toInt ≤ 64 * 64 := Int.mul_le_mul h2 h4 (by omega) (by omega)
  have c3 : 0 ≤ x.toInt * y.toInt := Int.mul_nonneg (by omega) (by omega)
  have c4 : x.toInt * y.toInt ≤ 32 * 32 := Int.mul_le_mul a3 b3 (by omega) (by omega)
  have t : (2 : Int32).toInt = 2 := rfl
  have e1 : (w * h).toInt = w.toInt * h.toInt := Jvm.Kit.i32_mul (by omega) (by omega)
  have e2 : (x * y).toInt = x.toInt * y.toInt := Jvm.Kit.i32_mul (by omega) (by omega)
  have e3 : ((2 : Int32) * (x * y)).toInt = 2 * (x.toInt * y.toInt) := by rw [Jvm.Kit.i32_mul] <;> rw [e2, t] <;> omega
  have e4 : (w * h + (2 : Int32) * (x * y)).toInt = w.toInt * h.toInt + 2 * (x.toInt * y.toInt) := by rw [Jvm.Kit.i32_add] <;> rw [e1, e3] <;> omega
  omega
theorem own_n0 (a b : Int32) : ¬ ((((1 : Int32) + (a &&& (63 : Int32))) * ((1 : Int32) + (b &&& (63 : Int32)))) + ((2 : Int32) * (((((1 : Int32) + (a &&& (63 : Int32))) + (1 : Int32)) / (2 : Int32)) * ((((1 : Int32) + (b &&& (63 : Int32))) + (1 : Int32)) / (2 : Int32))))) < 0 := by
  have ha := own_w a; have hb := own_w b
  have z : (0 : Int32).toInt = 0 := rfl
  have := own_len (w := (1 : Int32) + (a &&& (63 : Int32))) (h := (1 : Int32) + (b &&& (63 : Int32))) (by omega) (by omega) (by omega) (by omega)
  rw [Int32.lt_iff_toInt_lt]; omega
theorem own_n1 (a b : Int32) : (((((1 : Int32) + (a &&& (63 : Int32))) * ((1 : Int32) + (b &&& (63 : Int32)))) + ((2 : Int32) * (((((1 : Int32) + (a &&& (63 : Int32))) + (1 : Int32)) / (2 : Int32)) * ((((1 : Int32) + (b &&& (63 : Int32))) + (1 : Int32)) / (2 : Int32)))))).toNatClampNeg ≤ 6144 := by
  have ha := own_w a; have hb := own_w b
  have := own_len (w := (1 : Int32) + (a &&& (63 : Int32))) (h := (1 : Int32) + (b &&& (63 : Int32))) (by omega) (by omega) (by omega) (by omega)
  simp only [own_tnc]; omega
theorem pd_3 : parseMethodDescriptor "(II[B)V" = some ⟨[.int, .int, (.array .byte)], none⟩ := by decide +kernel
theorem pd_4 : parseMethodDescriptor "()[I" = some ⟨[], some (.array .int)⟩ := by decide +kernel
theorem pd_5 : parseMethodDescriptor "()[B" = some ⟨[], some (.array .byte)⟩ := by decide +kernel
def j0_0 (p0 : Int32) (p1 : Int32) : Int32 := (if ((((1 : Int32) + (p0 &&& (63 : Int32))) * ((1 : Int32) + (p1 &&& (63 : Int32)))) + (((((1 : Int32) + (p0 &&& (63 : Int32))) + (1 : Int32)) / (2 : Int32)) * ((((1 : Int32) + (p1 &&& (63 : Int32))) + (1 : Int32)) / (2 : Int32)))) = ((((1 : Int32) + (p0 &&& (63 : Int32))) * ((1 : Int32) + (p1 &&& (63 : Int32)))) + (((((1 : Int32) + (p0 &&& (63 : Int32))) / (2 : Int32)) + (((1 : Int32) + (p0 &&& (63 : Int32))) % (2 : Int32))) * ((((1 : Int32) + (p1 &&& (63 : Int32))) / (2 : Int32)) + (((1 : Int32) + (p1 &&& (63 : Int32))) % (2 : Int32))))) then (if ((((1 : Int32) + (p0 &&& (63 : Int32))) * ((1 : Int32) + (p1 &&& (63 : Int32)))) + ((2 : Int32) * (((((1 : Int32) + (p0 &&& (63 : Int32))) + (1 : Int32)) / (2 : Int32)) * ((((1 : Int32) + (p1 &&& (63 : Int32))) + (1 : Int32)) / (2 : Int32))))) = ((((1 : Int32) + (p0 &&& (63 : Int32))) * ((1 : Int32) + (p1 &&& (63 : Int32)))) + ((2 : Int32) * (((((1 : Int32) + (p0 &&& (63 : Int32))) / (2 : Int32)) + (((1 : Int32) + (p0 &&& (63 : Int32))) % (2 : Int32))) * ((((1 : Int32) + (p1 &&& (63 : Int32))) / (2 : Int32)) + (((1 : Int32) + (p1 &&& (63 : Int32))) % (2 : Int32)))))) then (1 : Int32) else (0 : Int32)) else (0 : Int32))
theorem pn_2 : plainName "com/example/streamwarden/streamwarden/detect/FramePlaneBoundsPinLaw" = true := by first | (simp [plainName, overriddenIn]; done) | decide +kernel
theorem ef0 (m : MethodId) (x0 : Int32) (x1 : Int32) : entryFrame m #[(.int x0), (.int x1)] maxLocals = mkF m 0 #[.val (.int x0), .val (.int x1), .unset, .unset, .unset, .unset, .unset, .unset, .unset, .unset, .unset] [] := by first | (simp [entryFrame, mkF, argsToLocals, Value.category, maxLocals]; done) | rfl
def Q0 (Z : State) (p0 : Int32) (p1 : Int32) (h0 : Heap) (n0 : Nat) (v : Option Value) (h : Heap) (L : List Loc) : Prop := v = some (.int (nar .boolean (j0_0 p0 p1))) ∧ Fr n0 L
set_option maxRecDepth 65536 in
set_option maxHeartbeats 40000000 in
theorem rm0 (l : Launch) (Z : State) (aw : Array Value) (hw : ∀ d ∈ tables_1, d.before aw Z = true) (ws : List Jvm.Cond) (p0 : Int32) (p1 : Int32) (h0 : Heap) (n0 : Nat) (Z0 : n0 ≤ h0.size)  :
    MetFree l x (head1 (Jvm.Cond.code x code maxLocals ret :: ws) room_1) (fun a U => a = #[(.int p0), (.int p1)] ∧ Z.Warmed39 U.vm ∧ U.heap = h0) (fun _ _ _ _ _ => True) (fun _ U o U' => ∃ v L, o = .returned v ∧ Q0 Z p0 p1 h0 n0 v U'.heap L ∧ FrameEnd U o U' L room_1.cells room_1.slots) := by
  refine MetFree.of_bodySF (plainFor_of_name pn_2) hisR ?_
  intro p e s m args below meth c s₁ Bd hml0 hP hK
  obtain ⟨rfl, hZ, hh⟩ := hP
  have hx := Bd.exec
  have hby := Bd.bytes
  have hml : c.maxLocals = 11 := hml0
  have hown : s.vm.findClass "com/example/streamwarden/streamwarden/detect/FramePlaneBoundsPinLaw" = some m.cls := findClass_of_methodNamed Bd.named
  have hnm := (name_of_methodNamed Bd.named Bd.method).1
  have X0 : Stand p l e room_1 s m #[(.int p0), (.int p1)] below meth c s₁ [] 0 0 := Stand.of_body Bd
  have e0 : s₁.heap = h0 := by rw [← hh, Bd.state]; rfl
  have N0 := Fr.nil n0
  have pre0 : ∀ t, Steps p.tables e below (s₁.setTop (mkF m 0 #[.val (.int p0), .val (.int p1), .unset, .unset, .unset, .unset, .unset, .unset, .unset, .unset, .unset] [])) t → Steps p.tables e below (s₁.setTop (entryFrame m #[(.int p0), (.int p1)] maxLocals)) t := fun t k => castTop (ef0 m p0 p1) k
  obtain ⟨_, _, ⟨T86, L86, k86, n86⟩, -, X86, ⟨Lc86, hQ86, l86, y86, z86⟩, st86⟩ := Jvm.LawKit.callS X0 hx (y := (⟨"com/example/streamwarden/streamwarden/detect/Frame", "byteCount", "(II)I"⟩ : MethodName)) hown (mvT hZ (hw _ (List.mem_of_getElem? (i := 0) rfl))) (mvT hZ (hw _ (List.mem_of_getElem? (i := 1) rfl))) (mvT hZ (hw _ (List.mem_of_getElem? (i := 2) rfl))) (mvT hZ (hw _ (List.mem_of_getElem? (i := 3) rfl))) (by decide) (backOf (W := 0) (rm1 l Z aw hw [] (((1 : Int32) + (p0 &&& (63 : Int32)))) (((1 : Int32) + (p1 &&& (63 : Int32)))) h0 n0 Z0 (own_wb p0).1 (own_wb p1).1 (own_wb p0).2 (own_wb p1).2) hZ (hw _ (List.mem_of_getElem? (i := 3) rfl)) (hw _ (List.mem_of_getElem? (i := 2) rfl)) (by decide) (by decide)) (g := (mkF m 16 #[.val (.int p0), .val (.int p1), .val (.int ((1 : Int32) + (p0 &&& (63 : Int32)))), .val (.int ((1 : Int32) + (p1 &&& (63 : Int32)))), .unset, .unset, .unset, .unset, .unset, .unset, .unset] [(.int ((1 : Int32) + (p1 &&& (63 : Int32)))), (.int ((1 : Int32) + (p0 &&& (63 : Int32))))])) rfl (by rw [hml]; rfl) (argsL := [(.int ((1 : Int32) + (p0 &&& (63 : Int32)))), (.int ((1 : Int32) + (p1 &&& (63 : Int32))))]) (rest := []) (lenOf pd_2 rfl) rfl (by show 2 * 0 + _ ≤ _; exact Nat.le_of_eq rfl) (hb hby at_16) (fun _ _ => ⟨rfl, e0, (by decide : 0 + 0 ≤ _), (by decide : 0 + 0 ≤ _)⟩)
  dsimp only [Pt.U, Pt.locs, Pt.cells, Pt.slots] at X86 l86 y86 z86 st86 hQ86
  subst l86 y86 z86
  obtain ⟨rfl, N86q, e86⟩ := hQ86
  have N86 := Fr.app N0 N86q
  obtain ⟨T87, h87, k87, X87, e87, E87, A87, st87⟩ := newP X86 hx hZ (hw _ (List.mem_of_getElem? (i := 10) rfl)) e86 (g := (mkF m 19 #[.val (.int p0), .val (.int p1), .val (.int ((1 : Int32) + (p0 &&& (63 : Int32)))), .val (.int ((1 : Int32) + (p1 &&& (63 : Int32)))), .unset, .unset, .unset, .unset, .unset, .unset, .unset] [(.int ((((1 : Int32) + (p0 &&& (63 : Int32))) * ((1 : Int32) + (p1 &&& (63 : Int32)))) + ((2 : Int32) * (((((1 : Int32) + (p0 &&& (63 : Int32))) + (1 : Int32)) / (2 : Int32)) * ((((1 : Int32) + (p1 &&& (63 : Int32))) + (1 : Int32)) / (2 : Int32))))))])) rfl (hb hby at_19) rfl (own_n0 p0 p1) (cap := 6144) (own_n1 p0 p1) (by decide) (by decide) (by decide)
  obtain ⟨b87, gg87⟩ : ∃ z, z = h0.size := ⟨_, rfl⟩
  rw [← gg87] at A87 st87
  have g_b87 : n0 ≤ b87 := Nat.le_trans Z0 (Nat.le_of_eq gg87.symm)
  have Z88 := Nat.le_trans Z0 E87.1
  have V87 : Arv Z h87 b87 k87 .byte ((((1 : Int32) + (p0 &&& (63 : Int32))) * ((1 : Int32) + (p1 &&& (63 : Int32)))) + ((2 : Int32) * (((((1 : Int32) + (p0 &&& (63 : Int32))) + (1 : Int32)) / (2 : Int32)) * ((((1 : Int32) + (p1 &&& (63 : Int32))) + (1 : Int32)) / (2 : Int32))))) [] (.int (0 : Int32)) := Arv.new A87 (own_n0 p0 p1)
  obtain ⟨T89, h89, X89, e89, E89, A89, D89, -, st89⟩ := newO X87 hx hZ hown (hw _ (List.mem_of_getElem? (i := 11) rfl)) (hw _ (List.mem_of_getElem? (i := 12) rfl)) (hw _ (List.mem_of_getElem? (i := 2) rfl)) e87 (g := (mkF m 23 #[.val (.int p0), .val (.int p1), .val (.int ((1 : Int32) + (p0 &&& (63 : Int32)))), .val (.int ((1 : Int32) + (p1 &&& (63 : Int32)))), .val (.ref b87), .unset, .unset, .unset, .unset, .unset, .unset] [])) rfl (hb hby at_23) (by decide) (by decide)
  obtain ⟨b89, gg89⟩ : ∃ z, z = h87.size := ⟨_, rfl⟩
  rw [← gg89] at A89 D89 st89
  have f90 := V87.ext E89
  have ne91 : b87 ≠ b89 := Nat.ne_of_lt (Nat.lt_of_lt_of_le V87.lt (Nat.le_of_eq gg89.symm))
  have g_b89 : n0 ≤ b89 := Nat.le_trans Z88 (Nat.le_of_eq gg89.symm)
  have Z92 := Nat.le_trans Z88 E89.1
  have f93 : Fld Z h89 b89 "com/example/streamwarden/streamwarden/detect/Frame" "width" "I" (.int (0 : Int32)) := D89 (Or.inr (hw _ (List.mem_of_getElem? (i := 21) rfl))) (ty := .int) (by decide)
  have f94 : Fld Z h89 b89 "com/example/streamwarden/streamwarden/detect/Frame" "height" "I" (.int (0 : Int32)) := D89 (Or.inr (hw _ (List.mem_of_getElem? (i := 23) rfl))) (ty := .int) (by decide)
  have f95 : Fld Z h89 b89 "com/example/streamwarden/streamwarden/detect/Frame" "samples" "[B" .null := D89 (Or.inr (hw _ (List.mem_of_getElem? (i := 25) rfl))) (ty := (.array .byte)) (by decide)
  obtain ⟨_, _, ⟨T96, L96, k96, n96⟩, -, X96, ⟨Lc96, hQ96, l96, y96, z96⟩, st96⟩ := X89.specialBack hx (y := (⟨"com/example/streamwarden/streamwarden/detect/Frame", "<init>", "(II[B)V"⟩ : MethodName)) rfl hown (mvT hZ (hw _ (List.mem_of_getElem? (i := 13) rfl))) (mvT hZ (hw _ (List.mem_of_getElem? (i := 14) rfl))) (mvT hZ (hw _ (List.mem_of_getElem? (i := 15) rfl))) (by decide) (backOf (W := 1) (rm4 l Z aw hw [] b89 (((1 : Int32) + (p0 &&& (63 : Int32)))) (((1 : Int32) + (p1 &&& (63 : Int32)))) b87 k87 h89 n0 Z92 A89 f93 f94 f95 f90 g_b89 (Ne.symm ne91) (own_wb p0).1 (own_wb p1).1 (own_wb p0).2 (own_wb p1).2) hZ (hw _ (List.mem_of_getElem? (i := 15) rfl)) (hw _ (List.mem_of_getElem? (i := 2) rfl)) (by decide) (by decide)) (g := (mkF m 31 #[.val (.int p0), .val (.int p1), .val (.int ((1 : Int32) + (p0 &&& (63 : Int32)))), .val (.int ((1 : Int32) + (p1 &&& (63 : Int32)))), .val (.ref b87), .unset, .unset, .unset, .unset, .unset, .unset] [(.ref b87), (.int ((1 : Int32) + (p1 &&& (63 : Int32)))), (.int ((1 : Int32) + (p0 &&& (63 : Int32)))), (.ref b89), (.ref b89)])) rfl (by rw [hml]; rfl) (Steps.refl _) (a := b89) (argsL := [(.int ((1 : Int32) + (p0 &&& (63 : Int32)))), (.int ((1 : Int32) + (p1 &&& (63 : Int32)))), (.ref b87)]) (rest := [(.ref b89)]) (lenOf pd_3 rfl) rfl (by show 2 * 0 + _ ≤ _; exact Nat.le_of_eq rfl) (hb hby at_31) (fun _ _ => ⟨rfl, e89, (by decide : 2 + 0 ≤ _), (by decide : 6147 + 0 ≤ _)⟩)
  dsimp only [Pt.U, Pt.locs, Pt.cells, Pt.slots] at X96 l96 y96 z96 st96 hQ96
  subst l96 y96 z96
  obtain ⟨h96, e96⟩ : ∃ z, T96.heap = z := ⟨_, rfl⟩
  rw [e96] at hQ96
  obtain ⟨rfl, N96q, K96q, f97, f98, f99, f100⟩ := hQ96
  have f101 := f90.keep K96q (ninS ne91 nin0)
  have f102 := A89.keep K96q
  have Z96 := Nat.le_trans Z92 K96q.1
  have N96 := Fr.app N86 N96q
  obtain ⟨cq106, kq106, q106a, q106b, q106c⟩ := isOf hZ e96 f97
  obtain ⟨_, _, ⟨T106, L106, k106, n106⟩, -, X106, ⟨Lc106, hQ106, l106, y106, z106⟩, st106⟩ := X96.virtualBack hx (y := (⟨"com/example/streamwarden/streamwarden/detect/Frame", "planeBounds", "()[I"⟩ : MethodName)) (z := (⟨"com/example/streamwarden/streamwarden/detect/Frame", "planeBounds", "()[I"⟩ : MethodName)) hown (mvT hZ (hw _ (List.mem_of_getElem? (i := 26) rfl))) (mvT hZ (hw _ (List.mem_of_getElem? (i := 27) rfl))) (notFace_of_selects (args := #[]) (mvT hZ (hw _ (List.mem_of_getElem? (i := 29) rfl)))) (mvT hZ (hw _ (List.mem_of_getElem? (i := 29) rfl))) (mvT hZ (hw _ (List.mem_of_getElem? (i := 28) rfl))) (by decide) (backOf (W := 0) (rm6 l Z aw hw [] b89 (((1 : Int32) + (p0 &&& (63 : Int32)))) (((1 : Int32) + (p1 &&& (63 : Int32)))) h96 n0 Z96 f97 f98 f99) hZ (hw _ (List.mem_of_getElem? (i := 30) rfl)) (hw _ (List.mem_of_getElem? (i := 2) rfl)) (by decide) (by decide)) q106a q106c (g := (mkF m 38 #[.val (.int p0), .val (.int p1), .val (.int ((1 : Int32) + (p0 &&& (63 : Int32)))), .val (.int ((1 : Int32) + (p1 &&& (63 : Int32)))), .val (.ref b87), .val (.ref b89), .unset, .unset, .unset, .unset, .unset] [(.ref b89)])) rfl (by rw [hml]; rfl) (Steps.refl _) (argsL := []) (rest := []) (lenOf pd_4 rfl) rfl (by show 2 * 0 + _ ≤ _; exact Nat.le_of_eq rfl) (hb hby at_38) (fun _ _ => ⟨rfl, e96, (by decide : 2 + 1 ≤ _), (by decide : 6147 + 4 ≤ _)⟩)
  dsimp only [Pt.U, Pt.locs, Pt.cells, Pt.slots] at X106 l106 y106 z106 st106 hQ106
  subst l106 y106 z106
  obtain ⟨h106, e106⟩ : ∃ z, T106.heap = z := ⟨_, rfl⟩
  rw [e106] at hQ106
  obtain ⟨cx0106, cy0106, rfl, N106q, K106q, g_cx0106, zz_cx0106, f107⟩ := hQ106
  have f108 := f101.keep K106q nin0
  have f109 := f97.keep K106q
  have f110 := f98.keep K106q nin0
  have f111 := f99.keep K106q nin0
  have f112 := f100.keep K106q nin0
  have ne113 : b87 ≠ cx0106 := Nat.ne_of_lt (Nat.lt_of_lt_of_le f101.lt zz_cx0106)
  have ne114 : b89 ≠ cx0106 := Nat.ne_of_lt (Nat.lt_of_lt_of_le f97.lt zz_cx0106)
  have Z106 := Nat.le_trans Z96 K106q.1
  have N106 := Fr.app N96 N106q
  obtain ⟨cl115, Ar115, q115, S115, M115, H115, G115⟩ := id f107
  obtain ⟨cl116, Ar116, q116, S116, M116, H116, G116⟩ := id f107
  have hin117 : ¬ ((0 : Int32) < 0 ∨ cl116.slots.size ≤ ((0 : Int32)).toNatClampNeg) := inb_of S116 ⟨by decide, by decide⟩
  have hat118 : cl116.slots[((0 : Int32)).toNatClampNeg]? = some (.int (0 : Int32)) := H116.at hin117 rfl
  obtain ⟨cl119, Ar119, q119, S119, M119, H119, G119⟩ := id f107
  have hin120 : ¬ ((1 : Int32) < 0 ∨ cl119.slots.size ≤ ((1 : Int32)).toNatClampNeg) := inb_of S119 ⟨by decide, by decide⟩
  have hat121 : cl119.slots[((1 : Int32)).toNatClampNeg]? = some (.int (((1 : Int32) + (p0 &&& (63 : Int32))) * ((1 : Int32) + (p1 &&& (63 : Int32))))) := H119.at hin120 rfl
  obtain ⟨cl122, Ar122, q122, S122, M122, H122, G122⟩ := id f107
  have hin123 : ¬ ((2 : Int32) < 0 ∨ cl122.slots.size ≤ ((2 : Int32)).toNatClampNeg) := inb_of S122 ⟨by decide, by decide⟩
  have hat124 : cl122.slots[((2 : Int32)).toNatClampNeg]? = some (.int ((((1 : Int32) + (p0 &&& (63 : Int32))) * ((1 : Int32) + (p1 &&& (63 : Int32)))) + (((((1 : Int32) + (p0 &&& (63 : Int32))) + (1 : Int32)) / (2 : Int32)) * ((((1 : Int32) + (p1 &&& (63 : Int32))) + (1 : Int32)) / (2 : Int32))))) := H122.at hin123 rfl
  have pre135 := fun (t : State) (k : Steps p.tables e below (T106.setTop (mkF m 107 #[.val (.int p0), .val (.int p1), .val (.int ((1 : Int32) + (p0 &&& (63 : Int32)))), .val (.int ((1 : Int32) + (p1 &&& (63 : Int32)))), .val (.ref b87), .val (.ref b89), .val (.ref cx0106), .val (.int (((1 : Int32) + (p0 &&& (63 : Int32))) * ((1 : Int32) + (p1 &&& (63 : Int32))))), .val (.int ((((1 : Int32) + (p0 &&& (63 : Int32))) / (2 : Int32)) + (((1 : Int32) + (p0 &&& (63 : Int32))) % (2 : Int32)))), .val (.int ((((1 : Int32) + (p1 &&& (63 : Int32))) / (2 : Int32)) + (((1 : Int32) + (p1 &&& (63 : Int32))) % (2 : Int32)))), .val (.int (((((1 : Int32) + (p0 &&& (63 : Int32))) / (2 : Int32)) + (((1 : Int32) + (p0 &&& (63 : Int32))) % (2 : Int32))) * ((((1 : Int32) + (p1 &&& (63 : Int32))) / (2 : Int32)) + (((1 : Int32) + (p1 &&& (63 : Int32))) % (2 : Int32)))))] [(.int ((((1 : Int32) + (p0 &&& (63 : Int32))) * ((1 : Int32) + (p1 &&& (63 : Int32)))) + (((((1 : Int32) + (p0 &&& (63 : Int32))) / (2 : Int32)) + (((1 : Int32) + (p0 &&& (63 : Int32))) % (2 : Int32))) * ((((1 : Int32) + (p1 &&& (63 : Int32))) / (2 : Int32)) + (((1 : Int32) + (p1 &&& (63 : Int32))) % (2 : Int32)))))), (.int ((((1 : Int32) + (p0 &&& (63 : Int32))) * ((1 : Int32) + (p1 &&& (63 : Int32)))) + (((((1 : Int32) + (p0 &&& (63 : Int32))) + (1 : Int32)) / (2 : Int32)) * ((((1 : Int32) + (p1 &&& (63 : Int32))) + (1 : Int32)) / (2 : Int32)))))])) t) => pre0 t (by
    show Steps p.tables e below (s₁.setTop (mkF m 0 #[.val (.int p0), .val (.int p1), .unset, .unset, .unset, .unset, .unset, .unset, .unset, .unset, .unset] [])) _
    refine XS.iconst X0.here hx rfl (hb hby at_0) ?_
    show Steps p.tables e below (s₁.setTop (mkF m 1 #[.val (.int p0), .val (.int p1), .unset, .unset, .unset, .unset, .unset, .unset, .unset, .unset, .unset] [(.int (1 : Int32))])) _
    refine XS.iloadN X0.here hx rfl (hb hby at_1) rfl ?_
    show Steps p.tables e below (s₁.setTop (mkF m 2 #[.val (.int p0), .val (.int p1), .unset, .unset, .unset, .unset, .unset, .unset, .unset, .unset, .unset] [(.int p0), (.int (1 : Int32))])) _
    refine XS.bipush X0.here hx rfl (hb hby at_2) ?_
    show Steps p.tables e below (s₁.setTop (mkF m 4 #[.val (.int p0), .val (.int p1), .unset, .unset, .unset, .unset, .unset, .unset, .unset, .unset, .unset] [(.int (63 : Int32)), (.int p0), (.int (1 : Int32))])) _
    refine XS.iand X0.here hx rfl (hb hby at_4) rfl ?_
    show Steps p.tables e below (s₁.setTop (mkF m 5 #[.val (.int p0), .val (.int p1), .unset, .unset, .unset, .unset, .unset, .unset, .unset, .unset, .unset] [(.int (p0 &&& (63 : Int32))), (.int (1 : Int32))])) _
    refine XS.iadd X0.here hx rfl (hb hby at_5) rfl ?_
    show Steps p.tables e below (s₁.setTop (mkF m 6 #[.val (.int p0), .val (.int p1), .unset, .unset, .unset, .unset, .unset, .unset, .unset, .unset, .unset] [(.int ((1 : Int32) + (p0 &&& (63 : Int32))))])) _
    refine XS.istoreN X0.here hx rfl (hb hby at_6) rfl (l' := #[.val (.int p0), .val (.int p1), .val (.int ((1 : Int32) + (p0 &&& (63 : Int32)))), .unset, .unset, .unset, .unset, .unset, .unset, .unset, .unset]) rfl ?_
    show Steps p.tables e below (s₁.setTop (mkF m 7 #[.val (.int p0), .val (.int p1), .val (.int ((1 : Int32) + (p0 &&& (63 : Int32)))), .unset, .unset, .unset, .unset, .unset, .unset, .unset, .unset] [])) _
    refine XS.iconst X0.here hx rfl (hb hby at_7) ?_
    show Steps p.tables e below (s₁.setTop (mkF m 8 #[.val (.int p0), .val (.int p1), .val (.int ((1 : Int32) + (p0 &&& (63 : Int32)))), .unset, .unset, .unset, .unset, .unset, .unset, .unset, .unset] [(.int (1 : Int32))])) _
    refine XS.iloadN X0.here hx rfl (hb hby at_8) rfl ?_
    show Steps p.tables e below (s₁.setTop (mkF m 9 #[.val (.int p0), .val (.int p1), .val (.int ((1 : Int32) + (p0 &&& (63 : Int32)))), .unset, .unset, .unset, .unset, .unset, .unset, .unset, .unset] [(.int p1), (.int (1 : Int32))])) _
    refine XS.bipush X0.here hx rfl (hb hby at_9) ?_
    show Steps p.tables e below (s₁.setTop (mkF m 11 #[.val (.int p0), .val (.int p1), .val (.int ((1 : Int32) + (p0 &&& (63 : Int32)))), .unset, .unset, .unset, .unset, .unset, .unset, .unset, .unset] [(.int (63 : Int32)), (.int p1), (.int (1 : Int32))])) _
    refine XS.iand X0.here hx rfl (hb hby at_11) rfl ?_
    show Steps p.tables e below (s₁.setTop (mkF m 12 #[.val (.int p0), .val (.int p1), .val (.int ((1 : Int32) + (p0 &&& (63 : Int32)))), .unset, .unset, .unset, .unset, .unset, .unset, .unset, .unset] [(.int (p1 &&& (63 : Int32))), (.int (1 : Int32))])) _
    refine XS.iadd X0.here hx rfl (hb hby at_12) rfl ?_
    show Steps p.tables e below (s₁.setTop (mkF m 13 #[.val (.int p0), .val (.int p1), .val (.int ((1 : Int32) + (p0 &&& (63 : Int32)))), .unset, .unset, .unset, .unset, .unset, .unset, .unset, .unset] [(.int ((1 : Int32) + (p1 &&& (63 : Int32))))])) _
    refine XS.istoreN X0.here hx rfl (hb hby at_13) rfl (l' := #[.val (.int p0), .val (.int p1), .val (.int ((1 : Int32) + (p0 &&& (63 : Int32)))), .val (.int ((1 : Int32) + (p1 &&& (63 : Int32)))), .unset, .unset, .unset, .unset, .unset, .unset, .unset]) rfl ?_
    show Steps p.tables e below (s₁.setTop (mkF m 14 #[.val (.int p0), .val (.int p1), .val (.int ((1 : Int32) + (p0 &&& (63 : Int32)))), .val (.int ((1 : Int32) + (p1 &&& (63 : Int32)))), .unset, .unset, .unset, .unset, .unset, .unset, .unset] [])) _
    refine XS.iloadN X0.here hx rfl (hb hby at_14) rfl ?_
    show Steps p.tables e below (s₁.setTop (mkF m 15 #[.val (.int p0), .val (.int p1), .val (.int ((1 : Int32) + (p0 &&& (63 : Int32)))), .val (.int ((1 : Int32) + (p1 &&& (63 : Int32)))), .unset, .unset, .unset, .unset, .unset, .unset, .unset] [(.int ((1 : Int32) + (p0 &&& (63 : Int32))))])) _
    refine XS.iloadN X0.here hx rfl (hb hby at_15) rfl ?_
    show Steps p.tables e below (s₁.setTop (mkF m 16 #[.val (.int p0), .val (.int p1), .val (.int ((1 : Int32) + (p0 &&& (63 : Int32)))), .val (.int ((1 : Int32) + (p1 &&& (63 : Int32)))), .unset, .unset, .unset, .unset, .unset, .unset, .unset] [(.int ((1 : Int32) + (p1 &&& (63 : Int32)))), (.int ((1 : Int32) + (p0 &&& (63 : Int32))))])) _
    refine st86 _ ?_
    show Steps p.tables e below (T86.setTop (mkF m 19 #[.val (.int p0), .val (.int p1), .val (.int ((1 : Int32) + (p0 &&& (63 : Int32)))), .val (.int ((1 : Int32) + (p1 &&& (63 : Int32)))), .unset, .unset, .unset, .unset, .unset, .unset, .unset] [(.int ((((1 : Int32) + (p0 &&& (63 : Int32))) * ((1 : Int32) + (p1 &&& (63 : Int32)))) + ((2 : Int32) * (((((1 : Int32) + (p0 &&& (63 : Int32))) + (1 : Int32)) / (2 : Int32)) * ((((1 : Int32) + (p1 &&& (63 : Int32))) + (1 : Int32)) / (2 : Int32))))))])) _
    refine st87 _ ?_
    show Steps p.tables e below (T87.setTop (mkF m 21 #[.val (.int p0), .val (.int p1), .val (.int ((1 : Int32) + (p0 &&& (63 : Int32)))), .val (.int ((1 : Int32) + (p1 &&& (63 : Int32)))), .unset, .unset, .unset, .unset, .unset, .unset, .unset] [(.ref b87)])) _
    refine XS.astore X87.here hx rfl (hb hby at_21) rfl rfl (l' := #[.val (.int p0), .val (.int p1), .val (.int ((1 : Int32) + (p0 &&& (63 : Int32)))), .val (.int ((1 : Int32) + (p1 &&& (63 : Int32)))), .val (.ref b87), .unset, .unset, .unset, .unset, .unset, .unset]) rfl ?_
    show Steps p.tables e below (T87.setTop (mkF m 23 #[.val (.int p0), .val (.int p1), .val (.int ((1 : Int32) + (p0 &&& (63 : Int32)))), .val (.int ((1 : Int32) + (p1 &&& (63 : Int32)))), .val (.ref b87), .unset, .unset, .unset, .unset, .unset, .unset] [])) _
    refine st89 _ ?_
    show Steps p.tables e below (T89.setTop (mkF m 26 #[.val (.int p0), .val (.int p1), .val (.int ((1 : Int32) + (p0 &&& (63 : Int32)))), .val (.int ((1 : Int32) + (p1 &&& (63 : Int32)))), .val (.ref b87), .unset, .unset, .unset, .unset, .unset, .unset] [(.ref b89)])) _
    refine XS.dup X89.here hx rfl (hb hby at_26) rfl rfl ?_
    show Steps p.tables e below (T89.setTop (mkF m 27 #[.val (.int p0), .val (.int p1), .val (.int ((1 : Int32) + (p0 &&& (63 : Int32)))), .val (.int ((1 : Int32) + (p1 &&& (63 : Int32)))), .val (.ref b87), .unset, .unset, .unset, .unset, .unset, .unset] [(.ref b89), (.ref b89)])) _
    refine XS.iloadN X89.here hx rfl (hb hby at_27) rfl ?_
    show Steps p.tables e below (T89.setTop (mkF m 28 #[.val (.int p0), .val (.int p1), .val (.int ((1 : Int32) + (p0 &&& (63 : Int32)))), .val (.int ((1 : Int32) + (p1 &&& (63 : Int32)))), .val (.ref b87), .unset, .unset, .unset, .unset, .unset, .unset] [(.int ((1 : Int32) + (p0 &&& (63 : Int32)))), (.ref b89), (.ref b89)])) _
    refine XS.iloadN X89.here hx rfl (hb hby at_28) rfl ?_
    show Steps p.tables e below (T89.setTop (mkF m 29 #[.val (.int p0), .val (.int p1), .val (.int ((1 : Int32) + (p0 &&& (63 : Int32)))), .val (.int ((1 : Int32) + (p1 &&& (63 : Int32)))), .val (.ref b87), .unset, .unset, .unset, .unset, .unset, .unset] [(.int ((1 : Int32) + (p1 &&& (63 : Int32)))), (.int ((1 : Int32) + (p0 &&& (63 : Int32)))), (.ref b89), (.ref b89)])) _
    refine XS.aload X89.here hx rfl (hb hby at_29) rfl rfl ?_
    show Steps p.tables e below (T89.setTop (mkF m 31 #[.val (.int p0), .val (.int p1), .val (.int ((1 : Int32) + (p0 &&& (63 : Int32)))), .val (.int ((1 : Int32) + (p1 &&& (63 : Int32)))), .val (.ref b87), .unset, .unset, .unset, .unset, .unset, .unset] [(.ref b87), (.int ((1 : Int32) + (p1 &&& (63 : Int32)))), (.int ((1 : Int32) + (p0 &&& (63 : Int32)))), (.ref b89), (.ref b89)])) _
    refine st96.trans ?_
    show Steps p.tables e below (T96.setTop (mkF m 34 #[.val (.int p0), .val (.int p1), .val (.int ((1 : Int32) + (p0 &&& (63 : Int32)))), .val (.int ((1 : Int32) + (p1 &&& (63 : Int32)))), .val (.ref b87), .unset, .unset, .unset, .unset, .unset, .unset] [(.ref b89)])) _
    refine XS.astore X96.here hx rfl (hb hby at_34) rfl rfl (l' := #[.val (.int p0), .val (.int p1), .val (.int ((1 : Int32) + (p0 &&& (63 : Int32)))), .val (.int ((1 : Int32) + (p1 &&& (63 : Int32)))), .val (.ref b87), .val (.ref b89), .unset, .unset, .unset, .unset, .unset]) rfl ?_
    show Steps p.tables e below (T96.setTop (mkF m 36 #[.val (.int p0), .val (.int p1), .val (.int ((1 : Int32) + (p0 &&& (63 : Int32)))), .val (.int ((1 : Int32) + (p1 &&& (63 : Int32)))), .val (.ref b87), .val (.ref b89), .unset, .unset, .unset, .unset, .unset] [])) _
    refine XS.aload X96.here hx rfl (hb hby at_36) rfl rfl ?_
    show Steps p.tables e below (T96.setTop (mkF m 38 #[.val (.int p0), .val (.int p1), .val (.int ((1 : Int32) + (p0 &&& (63 : Int32)))), .val (.int ((1 : Int32) + (p1 &&& (63 : Int32)))), .val (.ref b87), .val (.ref b89), .unset, .unset, .unset, .unset, .unset] [(.ref b89)])) _
    refine st106.trans ?_
    show Steps p.tables e below (T106.setTop (mkF m 41 #[.val (.int p0), .val (.int p1), .val (.int ((1 : Int32) + (p0 &&& (63 : Int32)))), .val (.int ((1 : Int32) + (p1 &&& (63 : Int32)))), .val (.ref b87), .val (.ref b89), .unset, .unset, .unset, .unset, .unset] [(.ref cx0106)])) _
    refine XS.astore X106.here hx rfl (hb hby at_41) rfl rfl (l' := #[.val (.int p0), .val (.int p1), .val (.int ((1 : Int32) + (p0 &&& (63 : Int32)))), .val (.int ((1 : Int32) + (p1 &&& (63 : Int32)))), .val (.ref b87), .val (.ref b89), .val (.ref cx0106), .unset, .unset, .unset, .unset]) rfl ?_
    show Steps p.tables e below (T106.setTop (mkF m 43 #[.val (.int p0), .val (.int p1), .val (.int ((1 : Int32) + (p0 &&& (63 : Int32)))), .val (.int ((1 : Int32) + (p1 &&& (63 : Int32)))), .val (.ref b87), .val (.ref b89), .val (.ref cx0106), .unset, .unset, .unset, .unset] [])) _
    refine XS.aload X106.here hx rfl (hb hby at_43) rfl rfl ?_
    show Steps p.tables e below (T106.setTop (mkF m 45 #[.val (.int p0), .val (.int p1), .val (.int ((1 : Int32) + (p0 &&& (63 : Int32)))), .val (.int ((1 : Int32) + (p1 &&& (63 : Int32)))), .val (.ref b87), .val (.ref b89), .val (.ref cx0106), .unset, .unset, .unset, .unset] [(.ref cx0106)])) _
    refine X106.arraylength hx (by rw [e106]; exact Ar115.1) (State.isArrayOf_alike hZ.alike Ar115.2.1) (g := (mkF m 45 #[.val (.int p0), .val (.int p1), .val (.int ((1 : Int32) + (p0 &&& (63 : Int32)))), .val (.int ((1 : Int32) + (p1 &&& (63 : Int32)))), .val (.ref b87), .val (.ref b89), .val (.ref cx0106), .unset, .unset, .unset, .unset] [(.ref cx0106)])) rfl rfl (hb hby at_45) _ ?_
    rw [len_of S115 M115]
    show Steps p.tables e below (T106.setTop (mkF m 46 #[.val (.int p0), .val (.int p1), .val (.int ((1 : Int32) + (p0 &&& (63 : Int32)))), .val (.int ((1 : Int32) + (p1 &&& (63 : Int32)))), .val (.ref b87), .val (.ref b89), .val (.ref cx0106), .unset, .unset, .unset, .unset] [(.int (4 : Int32))])) _
    refine XS.iconst X106.here hx rfl (hb hby at_46) ?_
    show Steps p.tables e below (T106.setTop (mkF m 47 #[.val (.int p0), .val (.int p1), .val (.int ((1 : Int32) + (p0 &&& (63 : Int32)))), .val (.int ((1 : Int32) + (p1 &&& (63 : Int32)))), .val (.ref b87), .val (.ref b89), .val (.ref cx0106), .unset, .unset, .unset, .unset] [(.int (4 : Int32)), (.int (4 : Int32))])) _
    refine XS.icmpYes X106.here hx rfl (pc0 := 47) (pc' := 52) rfl (hb hby at_47) rfl (teq (rfl : (4 : Int32) = (4 : Int32))).1 (by decide) (by decide) ?_
    show Steps p.tables e below (T106.setTop (mkF m 52 #[.val (.int p0), .val (.int p1), .val (.int ((1 : Int32) + (p0 &&& (63 : Int32)))), .val (.int ((1 : Int32) + (p1 &&& (63 : Int32)))), .val (.ref b87), .val (.ref b89), .val (.ref cx0106), .unset, .unset, .unset, .unset] [])) _
    refine XS.iloadN X106.here hx rfl (hb hby at_52) rfl ?_
    show Steps p.tables e below (T106.setTop (mkF m 53 #[.val (.int p0), .val (.int p1), .val (.int ((1 : Int32) + (p0 &&& (63 : Int32)))), .val (.int ((1 : Int32) + (p1 &&& (63 : Int32)))), .val (.ref b87), .val (.ref b89), .val (.ref cx0106), .unset, .unset, .unset, .unset] [(.int ((1 : Int32) + (p0 &&& (63 : Int32))))])) _
    refine XS.iloadN X106.here hx rfl (hb hby at_53) rfl ?_
    show Steps p.tables e below (T106.setTop (mkF m 54 #[.val (.int p0), .val (.int p1), .val (.int ((1 : Int32) + (p0 &&& (63 : Int32)))), .val (.int ((1 : Int32) + (p1 &&& (63 : Int32)))), .val (.ref b87), .val (.ref b89), .val (.ref cx0106), .unset, .unset, .unset, .unset] [(.int ((1 : Int32) + (p1 &&& (63 : Int32)))), (.int ((1 : Int32) + (p0 &&& (63 : Int32))))])) _
    refine XS.imul X106.here hx rfl (hb hby at_54) rfl ?_
    show Steps p.tables e below (T106.setTop (mkF m 55 #[.val (.int p0), .val (.int p1), .val (.int ((1 : Int32) + (p0 &&& (63 : Int32)))), .val (.int ((1 : Int32) + (p1 &&& (63 : Int32)))), .val (.ref b87), .val (.ref b89), .val (.ref cx0106), .unset, .unset, .unset, .unset] [(.int (((1 : Int32) + (p0 &&& (63 : Int32))) * ((1 : Int32) + (p1 &&& (63 : Int32)))))])) _
    refine XS.istore X106.here hx rfl (hb hby at_55) rfl (l' := #[.val (.int p0), .val (.int p1), .val (.int ((1 : Int32) + (p0 &&& (63 : Int32)))), .val (.int ((1 : Int32) + (p1 &&& (63 : Int32)))), .val (.ref b87), .val (.ref b89), .val (.ref cx0106), .val (.int (((1 : Int32) + (p0 &&& (63 : Int32))) * ((1 : Int32) + (p1 &&& (63 : Int32))))), .unset, .unset, .unset]) rfl ?_
    show Steps p.tables e below (T106.setTop (mkF m 57 #[.val (.int p0), .val (.int p1), .val (.int ((1 : Int32) + (p0 &&& (63 : Int32)))), .val (.int ((1 : Int32) + (p1 &&& (63 : Int32)))), .val (.ref b87), .val (.ref b89), .val (.ref cx0106), .val (.int (((1 : Int32) + (p0 &&& (63 : Int32))) * ((1 : Int32) + (p1 &&& (63 : Int32))))), .unset, .unset, .unset] [])) _
    refine XS.iloadN X106.here hx rfl (hb hby at_57) rfl ?_
    show Steps p.tables e below (T106.setTop (mkF m 58 #[.val (.int p0), .val (.int p1), .val (.int ((1 : Int32) + (p0 &&& (63 : Int32)))), .val (.int ((1 : Int32) + (p1 &&& (63 : Int32)))), .val (.ref b87), .val (.ref b89), .val (.ref cx0106), .val (.int (((1 : Int32) + (p0 &&& (63 : Int32))) * ((1 : Int32) + (p1 &&& (63 : Int32))))), .unset, .unset, .unset] [(.int ((1 : Int32) + (p0 &&& (63 : Int32))))])) _
    refine XS.iconst X106.here hx rfl (hb hby at_58) ?_
    show Steps p.tables e below (T106.setTop (mkF m 59 #[.val (.int p0), .val (.int p1), .val (.int ((1 : Int32) + (p0 &&& (63 : Int32)))), .val (.int ((1 : Int32) + (p1 &&& (63 : Int32)))), .val (.ref b87), .val (.ref b89), .val (.ref cx0106), .val (.int (((1 : Int32) + (p0 &&& (63 : Int32))) * ((1 : Int32) + (p1 &&& (63 : Int32))))), .unset, .unset, .unset] [(.int (2 : Int32)), (.int ((1 : Int32) + (p0 &&& (63 : Int32))))])) _
    refine XS.idiv X106.here hx rfl (hb hby at_59) rfl (by decide) ?_
    show Steps p.tables e below (T106.setTop (mkF m 60 #[.val (.int p0), .val (.int p1), .val (.int ((1 : Int32) + (p0 &&& (63 : Int32)))), .val (.int ((1 : Int32) + (p1 &&& (63 : Int32)))), .val (.ref b87), .val (.ref b89), .val (.ref cx0106), .val (.int (((1 : Int32) + (p0 &&& (63 : Int32))) * ((1 : Int32) + (p1 &&& (63 : Int32))))), .unset, .unset, .unset] [(.int (((1 : Int32) + (p0 &&& (63 : Int32))) / (2 : Int32)))])) _
    refine XS.iloadN X106.here hx rfl (hb hby at_60) rfl ?_
    show Steps p.tables e below (T106.setTop (mkF m 61 #[.val (.int p0), .val (.int p1), .val (.int ((1 : Int32) + (p0 &&& (63 : Int32)))), .val (.int ((1 : Int32) + (p1 &&& (63 : Int32)))), .val (.ref b87), .val (.ref b89), .val (.ref cx0106), .val (.int (((1 : Int32) + (p0 &&& (63 : Int32))) * ((1 : Int32) + (p1 &&& (63 : Int32))))), .unset, .unset, .unset] [(.int ((1 : Int32) + (p0 &&& (63 : Int32)))), (.int (((1 : Int32) + (p0 &&& (63 : Int32))) / (2 : Int32)))])) _
    refine XS.iconst X106.here hx rfl (hb hby at_61) ?_
    show Steps p.tables e below (T106.setTop (mkF m 62 #[.val (.int p0), .val (.int p1), .val (.int ((1 : Int32) + (p0 &&& (63 : Int32)))), .val (.int ((1 : Int32) + (p1 &&& (63 : Int32)))), .val (.ref b87), .val (.ref b89), .val (.ref cx0106), .val (.int (((1 : Int32) + (p0 &&& (63 : Int32))) * ((1 : Int32) + (p1 &&& (63 : Int32))))), .unset, .unset, .unset] [(.int (2 : Int32)), (.int ((1 : Int32) + (p0 &&& (63 : Int32)))), (.int (((1 : Int32) + (p0 &&& (63 : Int32))) / (2 : Int32)))])) _
    refine iremM X106 hx rfl (hb hby at_62) rfl (by decide) ?_
    show Steps p.tables e below (T106.setTop (mkF m 63 #[.val (.int p0), .val (.int p1), .val (.int ((1 : Int32) + (p0 &&& (63 : Int32)))), .val (.int ((1 : Int32) + (p1 &&& (63 : Int32)))), .val (.ref b87), .val (.ref b89), .val (.ref cx0106), .val (.int (((1 : Int32) + (p0 &&& (63 : Int32))) * ((1 : Int32) + (p1 &&& (63 : Int32))))), .unset, .unset, .unset] [(.int (((1 : Int32) + (p0 &&& (63 : Int32))) % (2 : Int32))), (.int (((1 : Int32) + (p0 &&& (63 : Int32))) / (2 : Int32)))])) _
    refine XS.iadd X106.here hx rfl (hb hby at_63) rfl ?_
    show Steps p.tables e below (T106.setTop (mkF m 64 #[.val (.int p0), .val (.int p1), .val (.int ((1 : Int32) + (p0 &&& (63 : Int32)))), .val (.int ((1 : Int32) + (p1 &&& (63 : Int32)))), .val (.ref b87), .val (.ref b89), .val (.ref cx0106), .val (.int (((1 : Int32) + (p0 &&& (63 : Int32))) * ((1 : Int32) + (p1 &&& (63 : Int32))))), .unset, .unset, .unset] [(.int ((((1 : Int32) + (p0 &&& (63 : Int32))) / (2 : Int32)) + (((1 : Int32) + (p0 &&& (63 : Int32))) % (2 : Int32))))])) _
    refine XS.istore X106.here hx rfl (hb hby at_64) rfl (l' := #[.val (.int p0), .val (.int p1), .val (.int ((1 : Int32) + (p0 &&& (63 : Int32)))), .val (.int ((1 : Int32) + (p1 &&& (63 : Int32)))), .val (.ref b87), .val (.ref b89), .val (.ref cx0106), .val (.int (((1 : Int32) + (p0 &&& (63 : Int32))) * ((1 : Int32) + (p1 &&& (63 : Int32))))), .val (.int ((((1 : Int32) + (p0 &&& (63 : Int32))) / (2 : Int32)) + (((1 : Int32) + (p0 &&& (63 : Int32))) % (2 : Int32)))), .unset, .unset]) rfl ?_
    show Steps p.tables e below (T106.setTop (mkF m 66 #[.val (.int p0), .val (.int p1), .val (.int ((1 : Int32) + (p0 &&& (63 : Int32)))), .val (.int ((1 : Int32) + (p1 &&& (63 : Int32)))), .val (.ref b87), .val (.ref b89), .val (.ref cx0106), .val (.int (((1 : Int32) + (p0 &&& (63 : Int32))) * ((1 : Int32) + (p1 &&& (63 : Int32))))), .val (.int ((((1 : Int32) + (p0 &&& (63 : Int32))) / (2 : Int32)) + (((1 : Int32) + (p0 &&& (63 : Int32))) % (2 : Int32)))), .unset, .unset] [])) _
    refine XS.iloadN X106.here hx rfl (hb hby at_66) rfl ?_
    show Steps p.tables e below (T106.setTop (mkF m 67 #[.val (.int p0), .val (.int p1), .val (.int ((1 : Int32) + (p0 &&& (63 : Int32)))), .val (.int ((1 : Int32) + (p1 &&& (63 : Int32)))), .val (.ref b87), .val (.ref b89), .val (.ref cx0106), .val (.int (((1 : Int32) + (p0 &&& (63 : Int32))) * ((1 : Int32) + (p1 &&& (63 : Int32))))), .val (.int ((((1 : Int32) + (p0 &&& (63 : Int32))) / (2 : Int32)) + (((1 : Int32) + (p0 &&& (63 : Int32))) % (2 : Int32)))), .unset, .unset] [(.int ((1 : Int32) + (p1 &&& (63 : Int32))))])) _
    refine XS.iconst X106.here hx rfl (hb hby at_67) ?_
    show Steps p.tables e below (T106.setTop (mkF m 68 #[.val (.int p0), .val (.int p1), .val (.int ((1 : Int32) + (p0 &&& (63 : Int32)))), .val (.int ((1 : Int32) + (p1 &&& (63 : Int32)))), .val (.ref b87), .val (.ref b89), .val (.ref cx0106), .val (.int (((1 : Int32) + (p0 &&& (63 : Int32))) * ((1 : Int32) + (p1 &&& (63 : Int32))))), .val (.int ((((1 : Int32) + (p0 &&& (63 : Int32))) / (2 : Int32)) + (((1 : Int32) + (p0 &&& (63 : Int32))) % (2 : Int32)))), .unset, .unset] [(.int (2 : Int32)), (.int ((1 : Int32) + (p1 &&& (63 : Int32))))])) _
    refine XS.idiv X106.here hx rfl (hb hby at_68) rfl (by decide) ?_
    show Steps p.tables e below (T106.setTop (mkF m 69 #[.val (.int p0), .val (.int p1), .val (.int ((1 : Int32) + (p0 &&& (63 : Int32)))), .val (.int ((1 : Int32) + (p1 &&& (63 : Int32)))), .val (.ref b87), .val (.ref b89), .val (.ref cx0106), .val (.int (((1 : Int32) + (p0 &&& (63 : Int32))) * ((1 : Int32) + (p1 &&& (63 : Int32))))), .val (.int ((((1 : Int32) + (p0 &&& (63 : Int32))) / (2 : Int32)) + (((1 : Int32) + (p0 &&& (63 : Int32))) % (2 : Int32)))), .unset, .unset] [(.int (((1 : Int32) + (p1 &&& (63 : Int32))) / (2 : Int32)))])) _
    refine XS.iloadN X106.here hx rfl (hb hby at_69) rfl ?_
    show Steps p.tables e below (T106.setTop (mkF m 70 #[.val (.int p0), .val (.int p1), .val (.int ((1 : Int32) + (p0 &&& (63 : Int32)))), .val (.int ((1 : Int32) + (p1 &&& (63 : Int32)))), .val (.ref b87), .val (.ref b89), .val (.ref cx0106), .val (.int (((1 : Int32) + (p0 &&& (63 : Int32))) * ((1 : Int32) + (p1 &&& (63 : Int32))))), .val (.int ((((1 : Int32) + (p0 &&& (63 : Int32))) / (2 : Int32)) + (((1 : Int32) + (p0 &&& (63 : Int32))) % (2 : Int32)))), .unset, .unset] [(.int ((1 : Int32) + (p1 &&& (63 : Int32)))), (.int (((1 : Int32) + (p1 &&& (63 : Int32))) / (2 : Int32)))])) _
    refine XS.iconst X106.here hx rfl (hb hby at_70) ?_
    show Steps p.tables e below (T106.setTop (mkF m 71 #[.val (.int p0), .val (.int p1), .val (.int ((1 : Int32) + (p0 &&& (63 : Int32)))), .val (.int ((1 : Int32) + (p1 &&& (63 : Int32)))), .val (.ref b87), .val (.ref b89), .val (.ref cx0106), .val (.int (((1 : Int32) + (p0 &&& (63 : Int32))) * ((1 : Int32) + (p1 &&& (63 : Int32))))), .val (.int ((((1 : Int32) + (p0 &&& (63 : Int32))) / (2 : Int32)) + (((1 : Int32) + (p0 &&& (63 : Int32))) % (2 : Int32)))), .unset, .unset] [(.int (2 : Int32)), (.int ((1 : Int32) + (p1 &&& (63 : Int32)))), (.int (((1 : Int32) + (p1 &&& (63 : Int32))) / (2 : Int32)))])) _
    refine iremM X106 hx rfl (hb hby at_71) rfl (by decide) ?_
    show Steps p.tables e below (T106.setTop (mkF m 72 #[.val (.int p0), .val (.int p1), .val (.int ((1 : Int32) + (p0 &&& (63 : Int32)))), .val (.int ((1 : Int32) + (p1 &&& (63 : Int32)))), .val (.ref b87), .val (.ref b89), .val (.ref cx0106), .val (.int (((1 : Int32) + (p0 &&& (63 : Int32))) * ((1 : Int32) + (p1 &&& (63 : Int32))))), .val (.int ((((1 : Int32) + (p0 &&& (63 : Int32))) / (2 : Int32)) + (((1 : Int32) + (p0 &&& (63 : Int32))) % (2 : Int32)))), .unset, .unset] [(.int (((1 : Int32) + (p1 &&& (63 : Int32))) % (2 : Int32))), (.int (((1 : Int32) + (p1 &&& (63 : Int32))) / (2 : Int32)))])) _
    refine XS.iadd X106.here hx rfl (hb hby at_72) rfl ?_
    show Steps p.tables e below (T106.setTop (mkF m 73 #[.val (.int p0), .val (.int p1), .val (.int ((1 : Int32) + (p0 &&& (63 : Int32)))), .val (.int ((1 : Int32) + (p1 &&& (63 : Int32)))), .val (.ref b87), .val (.ref b89), .val (.ref cx0106), .val (.int (((1 : Int32) + (p0 &&& (63 : Int32))) * ((1 : Int32) + (p1 &&& (63 : Int32))))), .val (.int ((((1 : Int32) + (p0 &&& (63 : Int32))) / (2 : Int32)) + (((1 : Int32) + (p0 &&& (63 : Int32))) % (2 : Int32)))), .unset, .unset] [(.int ((((1 : Int32) + (p1 &&& (63 : Int32))) / (2 : Int32)) + (((1 : Int32) + (p1 &&& (63 : Int32))) % (2 : Int32))))])) _
    refine XS.istore X106.here hx rfl (hb hby at_73) rfl (l' := #[.val (.int p0), .val (.int p1), .val (.int ((1 : Int32) + (p0 &&& (63 : Int32)))), .val (.int ((1 : Int32) + (p1 &&& (63 : Int32)))), .val (.ref b87), .val (.ref b89), .val (.ref cx0106), .val (.int (((1 : Int32) + (p0 &&& (63 : Int32))) * ((1 : Int32) + (p1 &&& (63 : Int32))))), .val (.int ((((1 : Int32) + (p0 &&& (63 : Int32))) / (2 : Int32)) + (((1 : Int32) + (p0 &&& (63 : Int32))) % (2 : Int32)))), .val (.int ((((1 : Int32) + (p1 &&& (63 : Int32))) / (2 : Int32)) + (((1 : Int32) + (p1 &&& (63 : Int32))) % (2 : Int32)))), .unset]) rfl ?_
    show Steps p.tables e below (T106.setTop (mkF m 75 #[.val (.int p0), .val (.int p1), .val (.int ((1 : Int32) + (p0 &&& (63 : Int32)))), .val (.int ((1 : Int32) + (p1 &&& (63 : Int32)))), .val (.ref b87), .val (.ref b89), .val (.ref cx0106), .val (.int (((1 : Int32) + (p0 &&& (63 : Int32))) * ((1 : Int32) + (p1 &&& (63 : Int32))))), .val (.int ((((1 : Int32) + (p0 &&& (63 : Int32))) / (2 : Int32)) + (((1 : Int32) + (p0 &&& (63 : Int32))) % (2 : Int32)))), .val (.int ((((1 : Int32) + (p1 &&& (63 : Int32))) / (2 : Int32)) + (((1 : Int32) + (p1 &&& (63 : Int32))) % (2 : Int32)))), .unset] [])) _
    refine XS.iload X106.here hx rfl (hb hby at_75) rfl ?_
    show Steps p.tables e below (T106.setTop (mkF m 77 #[.val (.int p0), .val (.int p1), .val (.int ((1 : Int32) + (p0 &&& (63 : Int32)))), .val (.int ((1 : Int32) + (p1 &&& (63 : Int32)))), .val (.ref b87), .val (.ref b89), .val (.ref cx0106), .val (.int (((1 : Int32) + (p0 &&& (63 : Int32))) * ((1 : Int32) + (p1 &&& (63 : Int32))))), .val (.int ((((1 : Int32) + (p0 &&& (63 : Int32))) / (2 : Int32)) + (((1 : Int32) + (p0 &&& (63 : Int32))) % (2 : Int32)))), .val (.int ((((1 : Int32) + (p1 &&& (63 : Int32))) / (2 : Int32)) + (((1 : Int32) + (p1 &&& (63 : Int32))) % (2 : Int32)))), .unset] [(.int ((((1 : Int32) + (p0 &&& (63 : Int32))) / (2 : Int32)) + (((1 : Int32) + (p0 &&& (63 : Int32))) % (2 : Int32))))])) _
    refine XS.iload X106.here hx rfl (hb hby at_77) rfl ?_
    show Steps p.tables e below (T106.setTop (mkF m 79 #[.val (.int p0), .val (.int p1), .val (.int ((1 : Int32) + (p0 &&& (63 : Int32)))), .val (.int ((1 : Int32) + (p1 &&& (63 : Int32)))), .val (.ref b87), .val (.ref b89), .val (.ref cx0106), .val (.int (((1 : Int32) + (p0 &&& (63 : Int32))) * ((1 : Int32) + (p1 &&& (63 : Int32))))), .val (.int ((((1 : Int32) + (p0 &&& (63 : Int32))) / (2 : Int32)) + (((1 : Int32) + (p0 &&& (63 : Int32))) % (2 : Int32)))), .val (.int ((((1 : Int32) + (p1 &&& (63 : Int32))) / (2 : Int32)) + (((1 : Int32) + (p1 &&& (63 : Int32))) % (2 : Int32)))), .unset] [(.int ((((1 : Int32) + (p1 &&& (63 : Int32))) / (2 : Int32)) + (((1 : Int32) + (p1 &&& (63 : Int32))) % (2 : Int32)))), (.int ((((1 : Int32) + (p0 &&& (63 : Int32))) / (2 : Int32)) + (((1 : Int32) + (p0 &&& (63 : Int32))) % (2 : Int32))))])) _
    refine XS.imul X106.here hx rfl (hb hby at_79) rfl ?_
    show Steps p.tables e below (T106.setTop (mkF m 80 #[.val (.int p0), .val (.int p1), .val (.int ((1 : Int32) + (p0 &&& (63 : Int32)))), .val (.int ((1 : Int32) + (p1 &&& (63 : Int32)))), .val (.ref b87), .val (.ref b89), .val (.ref cx0106), .val (.int (((1 : Int32) + (p0 &&& (63 : Int32))) * ((1 : Int32) + (p1 &&& (63 : Int32))))), .val (.int ((((1 : Int32) + (p0 &&& (63 : Int32))) / (2 : Int32)) + (((1 : Int32) + (p0 &&& (63 : Int32))) % (2 : Int32)))), .val (.int ((((1 : Int32) + (p1 &&& (63 : Int32))) / (2 : Int32)) + (((1 : Int32) + (p1 &&& (63 : Int32))) % (2 : Int32)))), .unset] [(.int (((((1 : Int32) + (p0 &&& (63 : Int32))) / (2 : Int32)) + (((1 : Int32) + (p0 &&& (63 : Int32))) % (2 : Int32))) * ((((1 : Int32) + (p1 &&& (63 : Int32))) / (2 : Int32)) + (((1 : Int32) + (p1 &&& (63 : Int32))) % (2 : Int32)))))])) _
    refine XS.istore X106.here hx rfl (hb hby at_80) rfl (l' := #[.val (.int p0), .val (.int p1), .val (.int ((1 : Int32) + (p0 &&& (63 : Int32)))), .val (.int ((1 : Int32) + (p1 &&& (63 : Int32)))), .val (.ref b87), .val (.ref b89), .val (.ref cx0106), .val (.int (((1 : Int32) + (p0 &&& (63 : Int32))) * ((1 : Int32) + (p1 &&& (63 : Int32))))), .val (.int ((((1 : Int32) + (p0 &&& (63 : Int32))) / (2 : Int32)) + (((1 : Int32) + (p0 &&& (63 : Int32))) % (2 : Int32)))), .val (.int ((((1 : Int32) + (p1 &&& (63 : Int32))) / (2 : Int32)) + (((1 : Int32) + (p1 &&& (63 : Int32))) % (2 : Int32)))), .val (.int (((((1 : Int32) + (p0 &&& (63 : Int32))) / (2 : Int32)) + (((1 : Int32) + (p0 &&& (63 : Int32))) % (2 : Int32))) * ((((1 : Int32) + (p1 &&& (63 : Int32))) / (2 : Int32)) + (((1 : Int32) + (p1 &&& (63 : Int32))) % (2 : Int32)))))]) rfl ?_
    show Steps p.tables e below (T106.setTop (mkF m 82 #[.val (.int p0), .val (.int p1), .val (.int ((1 : Int32) + (p0 &&& (63 : Int32)))), .val (.int ((1 : Int32) + (p1 &&& (63 : Int32)))), .val (.ref b87), .val (.ref b89), .val (.ref cx0106), .val (.int (((1 : Int32) + (p0 &&& (63 : Int32))) * ((1 : Int32) + (p1 &&& (63 : Int32))))), .val (.int ((((1 : Int32) + (p0 &&& (63 : Int32))) / (2 : Int32)) + (((1 : Int32) + (p0 &&& (63 : Int32))) % (2 : Int32)))), .val (.int ((((1 : Int32) + (p1 &&& (63 : Int32))) / (2 : Int32)) + (((1 : Int32) + (p1 &&& (63 : Int32))) % (2 : Int32)))), .val (.int (((((1 : Int32) + (p0 &&& (63 : Int32))) / (2 : Int32)) + (((1 : Int32) + (p0 &&& (63 : Int32))) % (2 : Int32))) * ((((1 : Int32) + (p1 &&& (63 : Int32))) / (2 : Int32)) + (((1 : Int32) + (p1 &&& (63 : Int32))) % (2 : Int32)))))] [])) _
    refine XS.aload X106.here hx rfl (hb hby at_82) rfl rfl ?_
    show Steps p.tables e below (T106.setTop (mkF m 84 #[.val (.int p0), .val (.int p1), .val (.int ((1 : Int32) + (p0 &&& (63 : Int32)))), .val (.int ((1 : Int32) + (p1 &&& (63 : Int32)))), .val (.ref b87), .val (.ref b89), .val (.ref cx0106), .val (.int (((1 : Int32) + (p0 &&& (63 : Int32))) * ((1 : Int32) + (p1 &&& (63 : Int32))))), .val (.int ((((1 : Int32) + (p0 &&& (63 : Int32))) / (2 : Int32)) + (((1 : Int32) + (p0 &&& (63 : Int32))) % (2 : Int32)))), .val (.int ((((1 : Int32) + (p1 &&& (63 : Int32))) / (2 : Int32)) + (((1 : Int32) + (p1 &&& (63 : Int32))) % (2 : Int32)))), .val (.int (((((1 : Int32) + (p0 &&& (63 : Int32))) / (2 : Int32)) + (((1 : Int32) + (p0 &&& (63 : Int32))) % (2 : Int32))) * ((((1 : Int32) + (p1 &&& (63 : Int32))) / (2 : Int32)) + (((1 : Int32) + (p1 &&& (63 : Int32))) % (2 : Int32)))))] [(.ref cx0106)])) _
    refine XS.iconst X106.here hx rfl (hb hby at_84) ?_
    show Steps p.tables e below (T106.setTop (mkF m 85 #[.val (.int p0), .val (.int p1), .val (.int ((1 : Int32) + (p0 &&& (63 : Int32)))), .val (.int ((1 : Int32) + (p1 &&& (63 : Int32)))), .val (.ref b87), .val (.ref b89), .val (.ref cx0106), .val (.int (((1 : Int32) + (p0 &&& (63 : Int32))) * ((1 : Int32) + (p1 &&& (63 : Int32))))), .val (.int ((((1 : Int32) + (p0 &&& (63 : Int32))) / (2 : Int32)) + (((1 : Int32) + (p0 &&& (63 : Int32))) % (2 : Int32)))), .val (.int ((((1 : Int32) + (p1 &&& (63 : Int32))) / (2 : Int32)) + (((1 : Int32) + (p1 &&& (63 : Int32))) % (2 : Int32)))), .val (.int (((((1 : Int32) + (p0 &&& (63 : Int32))) / (2 : Int32)) + (((1 : Int32) + (p0 &&& (63 : Int32))) % (2 : Int32))) * ((((1 : Int32) + (p1 &&& (63 : Int32))) / (2 : Int32)) + (((1 : Int32) + (p1 &&& (63 : Int32))) % (2 : Int32)))))] [(.int (0 : Int32)), (.ref cx0106)])) _
    refine X106.iaload hx (j := (0 : Int32)) (v := (.int (0 : Int32))) (by rw [e106]; exact Ar116.1) (State.isArrayOf_alike hZ.alike Ar116.2.1) Ar116.2.2 hin117 hat118 (g := (mkF m 85 #[.val (.int p0), .val (.int p1), .val (.int ((1 : Int32) + (p0 &&& (63 : Int32)))), .val (.int ((1 : Int32) + (p1 &&& (63 : Int32)))), .val (.ref b87), .val (.ref b89), .val (.ref cx0106), .val (.int (((1 : Int32) + (p0 &&& (63 : Int32))) * ((1 : Int32) + (p1 &&& (63 : Int32))))), .val (.int ((((1 : Int32) + (p0 &&& (63 : Int32))) / (2 : Int32)) + (((1 : Int32) + (p0 &&& (63 : Int32))) % (2 : Int32)))), .val (.int ((((1 : Int32) + (p1 &&& (63 : Int32))) / (2 : Int32)) + (((1 : Int32) + (p1 &&& (63 : Int32))) % (2 : Int32)))), .val (.int (((((1 : Int32) + (p0 &&& (63 : Int32))) / (2 : Int32)) + (((1 : Int32) + (p0 &&& (63 : Int32))) % (2 : Int32))) * ((((1 : Int32) + (p1 &&& (63 : Int32))) / (2 : Int32)) + (((1 : Int32) + (p1 &&& (63 : Int32))) % (2 : Int32)))))] [(.int (0 : Int32)), (.ref cx0106)])) rfl rfl (hb hby at_85) _ ?_
    show Steps p.tables e below (T106.setTop (mkF m 86 #[.val (.int p0), .val (.int p1), .val (.int ((1 : Int32) + (p0 &&& (63 : Int32)))), .val (.int ((1 : Int32) + (p1 &&& (63 : Int32)))), .val (.ref b87), .val (.ref b89), .val (.ref cx0106), .val (.int (((1 : Int32) + (p0 &&& (63 : Int32))) * ((1 : Int32) + (p1 &&& (63 : Int32))))), .val (.int ((((1 : Int32) + (p0 &&& (63 : Int32))) / (2 : Int32)) + (((1 : Int32) + (p0 &&& (63 : Int32))) % (2 : Int32)))), .val (.int ((((1 : Int32) + (p1 &&& (63 : Int32))) / (2 : Int32)) + (((1 : Int32) + (p1 &&& (63 : Int32))) % (2 : Int32)))), .val (.int (((((1 : Int32) + (p0 &&& (63 : Int32))) / (2 : Int32)) + (((1 : Int32) + (p0 &&& (63 : Int32))) % (2 : Int32))) * ((((1 : Int32) + (p1 &&& (63 : Int32))) / (2 : Int32)) + (((1 : Int32) + (p1 &&& (63 : Int32))) % (2 : Int32)))))] [(.int (0 : Int32))])) _
    refine XS.ifNo X106.here hx rfl (hb hby at_86) rfl ((if0 _ _).trans (teq (rfl : (0 : Int32) = (0 : Int32))).2) ?_
    show Steps p.tables e below (T106.setTop (mkF m 89 #[.val (.int p0), .val (.int p1), .val (.int ((1 : Int32) + (p0 &&& (63 : Int32)))), .val (.int ((1 : Int32) + (p1 &&& (63 : Int32)))), .val (.ref b87), .val (.ref b89), .val (.ref cx0106), .val (.int (((1 : Int32) + (p0 &&& (63 : Int32))) * ((1 : Int32) + (p1 &&& (63 : Int32))))), .val (.int ((((1 : Int32) + (p0 &&& (63 : Int32))) / (2 : Int32)) + (((1 : Int32) + (p0 &&& (63 : Int32))) % (2 : Int32)))), .val (.int ((((1 : Int32) + (p1 &&& (63 : Int32))) / (2 : Int32)) + (((1 : Int32) + (p1 &&& (63 : Int32))) % (2 : Int32)))), .val (.int (((((1 : Int32) + (p0 &&& (63 : Int32))) / (2 : Int32)) + (((1 : Int32) + (p0 &&& (63 : Int32))) % (2 : Int32))) * ((((1 : Int32) + (p1 &&& (63 : Int32))) / (2 : Int32)) + (((1 : Int32) + (p1 &&& (63 : Int32))) % (2 : Int32)))))] [])) _
    refine XS.aload X106.here hx rfl (hb hby at_89) rfl rfl ?_
    show Steps p.tables e below (T106.setTop (mkF m 91 #[.val (.int p0), .val (.int p1), .val (.int ((1 : Int32) + (p0 &&& (63 : Int32)))), .val (.int ((1 : Int32) + (p1 &&& (63 : Int32)))), .val (.ref b87), .val (.ref b89), .val (.ref cx0106), .val (.int (((1 : Int32) + (p0 &&& (63 : Int32))) * ((1 : Int32) + (p1 &&& (63 : Int32))))), .val (.int ((((1 : Int32) + (p0 &&& (63 : Int32))) / (2 : Int32)) + (((1 : Int32) + (p0 &&& (63 : Int32))) % (2 : Int32)))), .val (.int ((((1 : Int32) + (p1 &&& (63 : Int32))) / (2 : Int32)) + (((1 : Int32) + (p1 &&& (63 : Int32))) % (2 : Int32)))), .val (.int (((((1 : Int32) + (p0 &&& (63 : Int32))) / (2 : Int32)) + (((1 : Int32) + (p0 &&& (63 : Int32))) % (2 : Int32))) * ((((1 : Int32) + (p1 &&& (63 : Int32))) / (2 : Int32)) + (((1 : Int32) + (p1 &&& (63 : Int32))) % (2 : Int32)))))] [(.ref cx0106)])) _
    refine XS.iconst X106.here hx rfl (hb hby at_91) ?_
    show Steps p.tables e below (T106.setTop (mkF m 92 #[.val (.int p0), .val (.int p1), .val (.int ((1 : Int32) + (p0 &&& (63 : Int32)))), .val (.int ((1 : Int32) + (p1 &&& (63 : Int32)))), .val (.ref b87), .val (.ref b89), .val (.ref cx0106), .val (.int (((1 : Int32) + (p0 &&& (63 : Int32))) * ((1 : Int32) + (p1 &&& (63 : Int32))))), .val (.int ((((1 : Int32) + (p0 &&& (63 : Int32))) / (2 : Int32)) + (((1 : Int32) + (p0 &&& (63 : Int32))) % (2 : Int32)))), .val (.int ((((1 : Int32) + (p1 &&& (63 : Int32))) / (2 : Int32)) + (((1 : Int32) + (p1 &&& (63 : Int32))) % (2 : Int32)))), .val (.int (((((1 : Int32) + (p0 &&& (63 : Int32))) / (2 : Int32)) + (((1 : Int32) + (p0 &&& (63 : Int32))) % (2 : Int32))) * ((((1 : Int32) + (p1 &&& (63 : Int32))) / (2 : Int32)) + (((1 : Int32) + (p1 &&& (63 : Int32))) % (2 : Int32)))))] [(.int (1 : Int32)), (.ref cx0106)])) _
    refine X106.iaload hx (j := (1 : Int32)) (v := (.int (((1 : Int32) + (p0 &&& (63 : Int32))) * ((1 : Int32) + (p1 &&& (63 : Int32)))))) (by rw [e106]; exact Ar119.1) (State.isArrayOf_alike hZ.alike Ar119.2.1) Ar119.2.2 hin120 hat121 (g := (mkF m 92 #[.val (.int p0), .val (.int p1), .val (.int ((1 : Int32) + (p0 &&& (63 : Int32)))), .val (.int ((1 : Int32) + (p1 &&& (63 : Int32)))), .val (.ref b87), .val (.ref b89), .val (.ref cx0106), .val (.int (((1 : Int32) + (p0 &&& (63 : Int32))) * ((1 : Int32) + (p1 &&& (63 : Int32))))), .val (.int ((((1 : Int32) + (p0 &&& (63 : Int32))) / (2 : Int32)) + (((1 : Int32) + (p0 &&& (63 : Int32))) % (2 : Int32)))), .val (.int ((((1 : Int32) + (p1 &&& (63 : Int32))) / (2 : Int32)) + (((1 : Int32) + (p1 &&& (63 : Int32))) % (2 : Int32)))), .val (.int (((((1 : Int32) + (p0 &&& (63 : Int32))) / (2 : Int32)) + (((1 : Int32) + (p0 &&& (63 : Int32))) % (2 : Int32))) * ((((1 : Int32) + (p1 &&& (63 : Int32))) / (2 : Int32)) + (((1 : Int32) + (p1 &&& (63 : Int32))) % (2 : Int32)))))] [(.int (1 : Int32)), (.ref cx0106)])) rfl rfl (hb hby at_92) _ ?_
    show Steps p.tables e below (T106.setTop (mkF m 93 #[.val (.int p0), .val (.int p1), .val (.int ((1 : Int32) + (p0 &&& (63 : Int32)))), .val (.int ((1 : Int32) + (p1 &&& (63 : Int32)))), .val (.ref b87), .val (.ref b89), .val (.ref cx0106), .val (.int (((1 : Int32) + (p0 &&& (63 : Int32))) * ((1 : Int32) + (p1 &&& (63 : Int32))))), .val (.int ((((1 : Int32) + (p0 &&& (63 : Int32))) / (2 : Int32)) + (((1 : Int32) + (p0 &&& (63 : Int32))) % (2 : Int32)))), .val (.int ((((1 : Int32) + (p1 &&& (63 : Int32))) / (2 : Int32)) + (((1 : Int32) + (p1 &&& (63 : Int32))) % (2 : Int32)))), .val (.int (((((1 : Int32) + (p0 &&& (63 : Int32))) / (2 : Int32)) + (((1 : Int32) + (p0 &&& (63 : Int32))) % (2 : Int32))) * ((((1 : Int32) + (p1 &&& (63 : Int32))) / (2 : Int32)) + (((1 : Int32) + (p1 &&& (63 : Int32))) % (2 : Int32)))))] [(.int (((1 : Int32) + (p0 &&& (63 : Int32))) * ((1 : Int32) + (p1 &&& (63 : Int32)))))])) _
    refine XS.iload X106.here hx rfl (hb hby at_93) rfl ?_
    show Steps p.tables e below (T106.setTop (mkF m 95 #[.val (.int p0), .val (.int p1), .val (.int ((1 : Int32) + (p0 &&& (63 : Int32)))), .val (.int ((1 : Int32) + (p1 &&& (63 : Int32)))), .val (.ref b87), .val (.ref b89), .val (.ref cx0106), .val (.int (((1 : Int32) + (p0 &&& (63 : Int32))) * ((1 : Int32) + (p1 &&& (63 : Int32))))), .val (.int ((((1 : Int32) + (p0 &&& (63 : Int32))) / (2 : Int32)) + (((1 : Int32) + (p0 &&& (63 : Int32))) % (2 : Int32)))), .val (.int ((((1 : Int32) + (p1 &&& (63 : Int32))) / (2 : Int32)) + (((1 : Int32) + (p1 &&& (63 : Int32))) % (2 : Int32)))), .val (.int (((((1 : Int32) + (p0 &&& (63 : Int32))) / (2 : Int32)) + (((1 : Int32) + (p0 &&& (63 : Int32))) % (2 : Int32))) * ((((1 : Int32) + (p1 &&& (63 : Int32))) / (2 : Int32)) + (((1 : Int32) + (p1 &&& (63 : Int32))) % (2 : Int32)))))] [(.int (((1 : Int32) + (p0 &&& (63 : Int32))) * ((1 : Int32) + (p1 &&& (63 : Int32))))), (.int (((1 : Int32) + (p0 &&& (63 : Int32))) * ((1 : Int32) + (p1 &&& (63 : Int32)))))])) _
    refine XS.icmpNo X106.here hx rfl (hb hby at_95) rfl (teq (rfl : (((1 : Int32) + (p0 &&& (63 : Int32))) * ((1 : Int32) + (p1 &&& (63 : Int32)))) = (((1 : Int32) + (p0 &&& (63 : Int32))) * ((1 : Int32) + (p1 &&& (63 : Int32)))))).2 ?_
    show Steps p.tables e below (T106.setTop (mkF m 98 #[.val (.int p0), .val (.int p1), .val (.int ((1 : Int32) + (p0 &&& (63 : Int32)))), .val (.int ((1 : Int32) + (p1 &&& (63 : Int32)))), .val (.ref b87), .val (.ref b89), .val (.ref cx0106), .val (.int (((1 : Int32) + (p0 &&& (63 : Int32))) * ((1 : Int32) + (p1 &&& (63 : Int32))))), .val (.int ((((1 : Int32) + (p0 &&& (63 : Int32))) / (2 : Int32)) + (((1 : Int32) + (p0 &&& (63 : Int32))) % (2 : Int32)))), .val (.int ((((1 : Int32) + (p1 &&& (63 : Int32))) / (2 : Int32)) + (((1 : Int32) + (p1 &&& (63 : Int32))) % (2 : Int32)))), .val (.int (((((1 : Int32) + (p0 &&& (63 : Int32))) / (2 : Int32)) + (((1 : Int32) + (p0 &&& (63 : Int32))) % (2 : Int32))) * ((((1 : Int32) + (p1 &&& (63 : Int32))) / (2 : Int32)) + (((1 : Int32) + (p1 &&& (63 : Int32))) % (2 : Int32)))))] [])) _
    refine XS.aload X106.here hx rfl (hb hby at_98) rfl rfl ?_
    show Steps p.tables e below (T106.setTop (mkF m 100 #[.val (.int p0), .val (.int p1), .val (.int ((1 : Int32) + (p0 &&& (63 : Int32)))), .val (.int ((1 : Int32) + (p1 &&& (63 : Int32)))), .val (.ref b87), .val (.ref b89), .val (.ref cx0106), .val (.int (((1 : Int32) + (p0 &&& (63 : Int32))) * ((1 : Int32) + (p1 &&& (63 : Int32))))), .val (.int ((((1 : Int32) + (p0 &&& (63 : Int32))) / (2 : Int32)) + (((1 : Int32) + (p0 &&& (63 : Int32))) % (2 : Int32)))), .val (.int ((((1 : Int32) + (p1 &&& (63 : Int32))) / (2 : Int32)) + (((1 : Int32) + (p1 &&& (63 : Int32))) % (2 : Int32)))), .val (.int (((((1 : Int32) + (p0 &&& (63 : Int32))) / (2 : Int32)) + (((1 : Int32) + (p0 &&& (63 : Int32))) % (2 : Int32))) * ((((1 : Int32) + (p1 &&& (63 : Int32))) / (2 : Int32)) + (((1 : Int32) + (p1 &&& (63 : Int32))) % (2 : Int32)))))] [(.ref cx0106)])) _
    refine XS.iconst X106.here hx rfl (hb hby at_100) ?_
    show Steps p.tables e below (T106.setTop (mkF m 101 #[.val (.int p0), .val (.int p1), .val (.int ((1 : Int32) + (p0 &&& (63 : Int32)))), .val (.int ((1 : Int32) + (p1 &&& (63 : Int32)))), .val (.ref b87), .val (.ref b89), .val (.ref cx0106), .val (.int (((1 : Int32) + (p0 &&& (63 : Int32))) * ((1 : Int32) + (p1 &&& (63 : Int32))))), .val (.int ((((1 : Int32) + (p0 &&& (63 : Int32))) / (2 : Int32)) + (((1 : Int32) + (p0 &&& (63 : Int32))) % (2 : Int32)))), .val (.int ((((1 : Int32) + (p1 &&& (63 : Int32))) / (2 : Int32)) + (((1 : Int32) + (p1 &&& (63 : Int32))) % (2 : Int32)))), .val (.int (((((1 : Int32) + (p0 &&& (63 : Int32))) / (2 : Int32)) + (((1 : Int32) + (p0 &&& (63 : Int32))) % (2 : Int32))) * ((((1 : Int32) + (p1 &&& (63 : Int32))) / (2 : Int32)) + (((1 : Int32) + (p1 &&& (63 : Int32))) % (2 : Int32)))))] [(.int (2 : Int32)), (.ref cx0106)])) _
    refine X106.iaload hx (j := (2 : Int32)) (v := (.int ((((1 : Int32) + (p0 &&& (63 : Int32))) * ((1 : Int32) + (p1 &&& (63 : Int32)))) + (((((1 : Int32) + (p0 &&& (63 : Int32))) + (1 : Int32)) / (2 : Int32)) * ((((1 : Int32) + (p1 &&& (63 : Int32))) + (1 : Int32)) / (2 : Int32)))))) (by rw [e106]; exact Ar122.1) (State.isArrayOf_alike hZ.alike Ar122.2.1) Ar122.2.2 hin123 hat124 (g := (mkF m 101 #[.val (.int p0), .val (.int p1), .val (.int ((1 : Int32) + (p0 &&& (63 : Int32)))), .val (.int ((1 : Int32) + (p1 &&& (63 : Int32)))), .val (.ref b87), .val (.ref b89), .val (.ref cx0106), .val (.int (((1 : Int32) + (p0 &&& (63 : Int32))) * ((1 : Int32) + (p1 &&& (63 : Int32))))), .val (.int ((((1 : Int32) + (p0 &&& (63 : Int32))) / (2 : Int32)) + (((1 : Int32) + (p0 &&& (63 : Int32))) % (2 : Int32)))), .val (.int ((((1 : Int32) + (p1 &&& (63 : Int32))) / (2 : Int32)) + (((1 : Int32) + (p1 &&& (63 : Int32))) % (2 : Int32)))), .val (.int (((((1 : Int32) + (p0 &&& (63 : Int32))) / (2 : Int32)) + (((1 : Int32) + (p0 &&& (63 : Int32))) % (2 : Int32))) * ((((1 : Int32) + (p1 &&& (63 : Int32))) / (2 : Int32)) + (((1 : Int32) + (p1 &&& (63 : Int32))) % (2 : Int32)))))] [(.int (2 : Int32)), (.ref cx0106)])) rfl rfl (hb hby at_101) _ ?_
    show Steps p.tables e below (T106.setTop (mkF m 102 #[.val (.int p0), .val (.int p1), .val (.int ((1 : Int32) + (p0 &&& (63 : Int32)))), .val (.int ((1 : Int32) + (p1 &&& (63 : Int32)))), .val (.ref b87), .val (.ref b89), .val (.ref cx0106), .val (.int (((1 : Int32) + (p0 &&& (63 : Int32))) * ((1 : Int32) + (p1 &&& (63 : Int32))))), .val (.int ((((1 : Int32) + (p0 &&& (63 : Int32))) / (2 : Int32)) + (((1 : Int32) + (p0 &&& (63 : Int32))) % (2 : Int32)))), .val (.int ((((1 : Int32) + (p1 &&& (63 : Int32))) / (2 : Int32)) + (((1 : Int32) + (p1 &&& (63 : Int32))) % (2 : Int32)))), .val (.int (((((1 : Int32) + (p0 &&& (63 : Int32))) / (2 : Int32)) + (((1 : Int32) + (p0 &&& (63 : Int32))) % (2 : Int32))) * ((((1 : Int32) + (p1 &&& (63 : Int32))) / (2 : Int32)) + (((1 : Int32) + (p1 &&& (63 : Int32))) % (2 : Int32)))))] [(.int ((((1 : Int32) + (p0 &&& (63 : Int32))) * ((1 : Int32) + (p1 &&& (63 : Int32)))) + (((((1 : Int32) + (p0 &&& (63 : Int32))) + (1 : Int32)) / (2 : Int32)) * ((((1 : Int32) + (p1 &&& (63 : Int32))) + (1 : Int32)) / (2 : Int32)))))])) _
    refine XS.iload X106.here hx rfl (hb hby at_102) rfl ?_
    show Steps p.tables e below (T106.setTop (mkF m 104 #[.val (.int p0), .val (.int p1), .val (.int ((1 : Int32) + (p0 &&& (63 : Int32)))), .val (.int ((1 : Int32) + (p1 &&& (63 : Int32)))), .val (.ref b87), .val (.ref b89), .val (.ref cx0106), .val (.int (((1 : Int32) + (p0 &&& (63 : Int32))) * ((1 : Int32) + (p1 &&& (63 : Int32))))), .val (.int ((((1 : Int32) + (p0 &&& (63 : Int32))) / (2 : Int32)) + (((1 : Int32) + (p0 &&& (63 : Int32))) % (2 : Int32)))), .val (.int ((((1 : Int32) + (p1 &&& (63 : Int32))) / (2 : Int32)) + (((1 : Int32) + (p1 &&& (63 : Int32))) % (2 : Int32)))), .val (.int (((((1 : Int32) + (p0 &&& (63 : Int32))) / (2 : Int32)) + (((1 : Int32) + (p0 &&& (63 : Int32))) % (2 : Int32))) * ((((1 : Int32) + (p1 &&& (63 : Int32))) / (2 : Int32)) + (((1 : Int32) + (p1 &&& (63 : Int32))) % (2 : Int32)))))] [(.int (((1 : Int32) + (p0 &&& (63 : Int32))) * ((1 : Int32) + (p1 &&& (63 : Int32))))), (.int ((((1 : Int32) + (p0 &&& (63 : Int32))) * ((1 : Int32) + (p1 &&& (63 : Int32)))) + (((((1 : Int32) + (p0 &&& (63 : Int32))) + (1 : Int32)) / (2 : Int32)) * ((((1 : Int32) + (p1 &&& (63 : Int32))) + (1 : Int32)) / (2 : Int32)))))])) _
    refine XS.iload X106.here hx rfl (hb hby at_104) rfl ?_
    show Steps p.tables e below (T106.setTop (mkF m 106 #[.val (.int p0), .val (.int p1), .val (.int ((1 : Int32) + (p0 &&& (63 : Int32)))), .val (.int ((1 : Int32) + (p1 &&& (63 : Int32)))), .val (.ref b87), .val (.ref b89), .val (.ref cx0106), .val (.int (((1 : Int32) + (p0 &&& (63 : Int32))) * ((1 : Int32) + (p1 &&& (63 : Int32))))), .val (.int ((((1 : Int32) + (p0 &&& (63 : Int32))) / (2 : Int32)) + (((1 : Int32) + (p0 &&& (63 : Int32))) % (2 : Int32)))), .val (.int ((((1 : Int32) + (p1 &&& (63 : Int32))) / (2 : Int32)) + (((1 : Int32) + (p1 &&& (63 : Int32))) % (2 : Int32)))), .val (.int (((((1 : Int32) + (p0 &&& (63 : Int32))) / (2 : Int32)) + (((1 : Int32) + (p0 &&& (63 : Int32))) % (2 : Int32))) * ((((1 : Int32) + (p1 &&& (63 : Int32))) / (2 : Int32)) + (((1 : Int32) + (p1 &&& (63 : Int32))) % (2 : Int32)))))] [(.int (((((1 : Int32) + (p0 &&& (63 : Int32))) / (2 : Int32)) + (((1 : Int32) + (p0 &&& (63 : Int32))) % (2 : Int32))) * ((((1 : Int32) + (p1 &&& (63 : Int32))) / (2 : Int32)) + (((1 : Int32) + (p1 &&& (63 : Int32))) % (2 : Int32))))), (.int (((1 : Int32) + (p0 &&& (63 : Int32))) * ((1 : Int32) + (p1 &&& (63 : Int32))))), (.int ((((1 : Int32) + (p0 &&& (63 : Int32))) * ((1 : Int32) + (p1 &&& (63 : Int32)))) + (((((1 : Int32) + (p0 &&& (63 : Int32))) + (1 : Int32)) / (2 : Int32)) * ((((1 : Int32) + (p1 &&& (63 : Int32))) + (1 : Int32)) / (2 : Int32)))))])) _
    refine XS.iadd X106.here hx rfl (hb hby at_106) rfl ?_
    exact k)
  obtain ⟨T136, L136, X136, e136, N136, pre136⟩ : ∃ (T136 : State) (L136 : List Loc), Stand p l e room_1 s m #[(.int p0), (.int p1)] below meth c T136 L136 3 6151 ∧ T136.heap = h106 ∧ Fr n0 L136 ∧ ∀ t, Steps p.tables e below (T136.setTop (mkF m 142 #[.val (.int p0), .val (.int p1), .val (.int ((1 : Int32) + (p0 &&& (63 : Int32)))), .val (.int ((1 : Int32) + (p1 &&& (63 : Int32)))), .val (.ref b87), .val (.ref b89), .val (.ref cx0106), .val (.int (((1 : Int32) + (p0 &&& (63 : Int32))) * ((1 : Int32) + (p1 &&& (63 : Int32))))), .val (.int ((((1 : Int32) + (p0 &&& (63 : Int32))) / (2 : Int32)) + (((1 : Int32) + (p0 &&& (63 : Int32))) % (2 : Int32)))), .val (.int ((((1 : Int32) + (p1 &&& (63 : Int32))) / (2 : Int32)) + (((1 : Int32) + (p1 &&& (63 : Int32))) % (2 : Int32)))), .val (.int (((((1 : Int32) + (p0 &&& (63 : Int32))) / (2 : Int32)) + (((1 : Int32) + (p0 &&& (63 : Int32))) % (2 : Int32))) * ((((1 : Int32) + (p1 &&& (63 : Int32))) / (2 : Int32)) + (((1 : Int32) + (p1 &&& (63 : Int32))) % (2 : Int32)))))] [(.int (j0_0 p0 p1))])) t → Steps p.tables e below (s₁.setTop (entryFrame m #[(.int p0), (.int p1)] maxLocals)) t := by
    by_cases hc137 : ((((1 : Int32) + (p0 &&& (63 : Int32))) * ((1 : Int32) + (p1 &&& (63 : Int32)))) + (((((1 : Int32) + (p0 &&& (63 : Int32))) + (1 : Int32)) / (2 : Int32)) * ((((1 : Int32) + (p1 &&& (63 : Int32))) + (1 : Int32)) / (2 : Int32)))) = ((((1 : Int32) + (p0 &&& (63 : Int32))) * ((1 : Int32) + (p1 &&& (63 : Int32)))) + (((((1 : Int32) + (p0 &&& (63 : Int32))) / (2 : Int32)) + (((1 : Int32) + (p0 &&& (63 : Int32))) % (2 : Int32))) * ((((1 : Int32) + (p1 &&& (63 : Int32))) / (2 : Int32)) + (((1 : Int32) + (p1 &&& (63 : Int32))) % (2 : Int32)))))
    · skip
      obtain ⟨cl138, Ar138, q138, S138, M138, H138, G138⟩ := id f107
      have hin139 : ¬ ((3 : Int32) < 0 ∨ cl138.slots.size ≤ ((3 : Int32)).toNatClampNeg) := inb_of S138 ⟨by decide, by decide⟩
      have hat140 : cl138.slots[((3 : Int32)).toNatClampNeg]? = some (.int ((((1 : Int32) + (p0 &&& (63 : Int32))) * ((1 : Int32) + (p1 &&& (63 : Int32)))) + ((2 : Int32) * (((((1 : Int32) + (p0 &&& (63 : Int32))) + (1 : Int32)) / (2 : Int32)) * ((((1 : Int32) + (p1 &&& (63 : Int32))) + (1 : Int32)) / (2 : Int32)))))) := H138.at hin139 rfl
      have pre142 := fun (t : State) (k : Steps p.tables e below (T106.setTop (mkF m 121 #[.val (.int p0), .val (.int p1), .val (.int ((1 : Int32) + (p0 &&& (63 : Int32)))), .val (.int ((1 : Int32) + (p1 &&& (63 : Int32)))), .val (.ref b87), .val (.ref b89), .val (.ref cx0106), .val (.int (((1 : Int32) + (p0 &&& (63 : Int32))) * ((1 : Int32) + (p1 &&& (63 : Int32))))), .val (.int ((((1 : Int32) + (p0 &&& (63 : Int32))) / (2 : Int32)) + (((1 : Int32) + (p0 &&& (63 : Int32))) % (2 : Int32)))), .val (.int ((((1 : Int32) + (p1 &&& (63 : Int32))) / (2 : Int32)) + (((1 : Int32) + (p1 &&& (63 : Int32))) % (2 : Int32)))), .val (.int (((((1 : Int32) + (p0 &&& (63 : Int32))) / (2 : Int32)) + (((1 : Int32) + (p0 &&& (63 : Int32))) % (2 : Int32))) * ((((1 : Int32) + (p1 &&& (63 : Int32))) / (2 : Int32)) + (((1 : Int32) + (p1 &&& (63 : Int32))) % (2 : Int32)))))] [(.int ((((1 : Int32) + (p0 &&& (63 : Int32))) * ((1 : Int32) + (p1 &&& (63 : Int32)))) + ((2 : Int32) * (((((1 : Int32) + (p0 &&& (63 : Int32))) / (2 : Int32)) + (((1 : Int32) + (p0 &&& (63 : Int32))) % (2 : Int32))) * ((((1 : Int32) + (p1 &&& (63 : Int32))) / (2 : Int32)) + (((1 : Int32) + (p1 &&& (63 : Int32))) % (2 : Int32))))))), (.int ((((1 : Int32) + (p0 &&& (63 : Int32))) * ((1 : Int32) + (p1 &&& (63 : Int32)))) + ((2 : Int32) * (((((1 : Int32) + (p0 &&& (63 : Int32))) + (1 : Int32)) / (2 : Int32)) * ((((1 : Int32) + (p1 &&& (63 : Int32))) + (1 : Int32)) / (2 : Int32))))))])) t) => pre135 t (by
        show Steps p.tables e below (T106.setTop (mkF m 107 #[.val (.int p0), .val (.int p1), .val (.int ((1 : Int32) + (p0 &&& (63 : Int32)))), .val (.int ((1 : Int32) + (p1 &&& (63 : Int32)))), .val (.ref b87), .val (.ref b89), .val (.ref cx0106), .val (.int (((1 : Int32) + (p0 &&& (63 : Int32))) * ((1 : Int32) + (p1 &&& (63 : Int32))))), .val (.int ((((1 : Int32) + (p0 &&& (63 : Int32))) / (2 : Int32)) + (((1 : Int32) + (p0 &&& (63 : Int32))) % (2 : Int32)))), .val (.int ((((1 : Int32) + (p1 &&& (63 : Int32))) / (2 : Int32)) + (((1 : Int32) + (p1 &&& (63 : Int32))) % (2 : Int32)))), .val (.int (((((1 : Int32) + (p0 &&& (63 : Int32))) / (2 : Int32)) + (((1 : Int32) + (p0 &&& (63 : Int32))) % (2 : Int32))) * ((((1 : Int32) + (p1 &&& (63 : Int32))) / (2 : Int32)) + (((1 : Int32) + (p1 &&& (63 : Int32))) % (2 : Int32)))))] [(.int ((((1 : Int32) + (p0 &&& (63 : Int32))) * ((1 : Int32) + (p1 &&& (63 : Int32)))) + (((((1 : Int32) + (p0 &&& (63 : Int32))) / (2 : Int32)) + (((1 : Int32) + (p0 &&& (63 : Int32))) % (2 : Int32))) * ((((1 : Int32) + (p1 &&& (63 : Int32))) / (2 : Int32)) + (((1 : Int32) + (p1 &&& (63 : Int32))) % (2 : Int32)))))), (.int ((((1 : Int32) + (p0 &&& (63 : Int32))) * ((1 : Int32) + (p1 &&& (63 : Int32)))) + (((((1 : Int32) + (p0 &&& (63 : Int32))) + (1 : Int32)) / (2 : Int32)) * ((((1 : Int32) + (p1 &&& (63 : Int32))) + (1 : Int32)) / (2 : Int32)))))])) _
        refine XS.icmpNo X106.here hx rfl (hb hby at_107) rfl (teq hc137).2 ?_
        show Steps p.tables e below (T106.setTop (mkF m 110 #[.val (.int p0), .val (.int p1), .val (.int ((1 : Int32) + (p0 &&& (63 : Int32)))), .val (.int ((1 : Int32) + (p1 &&& (63 : Int32)))), .val (.ref b87), .val (.ref b89), .val (.ref cx0106), .val (.int (((1 : Int32) + (p0 &&& (63 : Int32))) * ((1 : Int32) + (p1 &&& (63 : Int32))))), .val (.int ((((1 : Int32) + (p0 &&& (63 : Int32))) / (2 : Int32)) + (((1 : Int32) + (p0 &&& (63 : Int32))) % (2 : Int32)))), .val (.int ((((1 : Int32) + (p1 &&& (63 : Int32))) / (2 : Int32)) + (((1 : Int32) + (p1 &&& (63 : Int32))) % (2 : Int32)))), .val (.int (((((1 : Int32) + (p0 &&& (63 : Int32))) / (2 : Int32)) + (((1 : Int32) + (p0 &&& (63 : Int32))) % (2 : Int32))) * ((((1 : Int32) + (p1 &&& (63 : Int32))) / (2 : Int32)) + (((1 : Int32) + (p1 &&& (63 : Int32))) % (2 : Int32)))))] [])) _
        refine XS.aload X106.here hx rfl (hb hby at_110) rfl rfl ?_
        show Steps p.tables e below (T106.setTop (mkF m 112 #[.val (.int p0), .val (.int p1), .val (.int ((1 : Int32) + (p0 &&& (63 : Int32)))), .val (.int ((1 : Int32) + (p1 &&& (63 : Int32)))), .val (.ref b87), .val (.ref b89), .val (.ref cx0106), .val (.int (((1 : Int32) + (p0 &&& (63 : Int32))) * ((1 : Int32) + (p1 &&& (63 : Int32))))), .val (.int ((((1 : Int32) + (p0 &&& (63 : Int32))) / (2 : Int32)) + (((1 : Int32) + (p0 &&& (63 : Int32))) % (2 : Int32)))), .val (.int ((((1 : Int32) + (p1 &&& (63 : Int32))) / (2 : Int32)) + (((1 : Int32) + (p1 &&& (63 : Int32))) % (2 : Int32)))), .val (.int (((((1 : Int32) + (p0 &&& (63 : Int32))) / (2 : Int32)) + (((1 : Int32) + (p0 &&& (63 : Int32))) % (2 : Int32))) * ((((1 : Int32) + (p1 &&& (63 : Int32))) / (2 : Int32)) + (((1 : Int32) + (p1 &&& (63 : Int32))) % (2 : Int32)))))] [(.ref cx0106)])) _
        refine XS.iconst X106.here hx rfl (hb hby at_112) ?_
        show Steps p.tables e below (T106.setTop (mkF m 113 #[.val (.int p0), .val (.int p1), .val (.int ((1 : Int32) + (p0 &&& (63 : Int32)))), .val (.int ((1 : Int32) + (p1 &&& (63 : Int32)))), .val (.ref b87), .val (.ref b89), .val (.ref cx0106), .val (.int (((1 : Int32) + (p0 &&& (63 : Int32))) * ((1 : Int32) + (p1 &&& (63 : Int32))))), .val (.int ((((1 : Int32) + (p0 &&& (63 : Int32))) / (2 : Int32)) + (((1 : Int32) + (p0 &&& (63 : Int32))) % (2 : Int32)))), .val (.int ((((1 : Int32) + (p1 &&& (63 : Int32))) / (2 : Int32)) + (((1 : Int32) + (p1 &&& (63 : Int32))) % (2 : Int32)))), .val (.int (((((1 : Int32) + (p0 &&& (63 : Int32))) / (2 : Int32)) + (((1 : Int32) + (p0 &&& (63 : Int32))) % (2 : Int32))) * ((((1 : Int32) + (p1 &&& (63 : Int32))) / (2 : Int32)) + (((1 : Int32) + (p1 &&& (63 : Int32))) % (2 : Int32)))))] [(.int (3 : Int32)), (.ref cx0106)])) _
        refine X106.iaload hx (j := (3 : Int32)) (v := (.int ((((1 : Int32) + (p0 &&& (63 : Int32))) * ((1 : Int32) + (p1 &&& (63 : Int32)))) + ((2 : Int32) * (((((1 : Int32) + (p0 &&& (63 : Int32))) + (1 : Int32)) / (2 : Int32)) * ((((1 : Int32) + (p1 &&& (63 : Int32))) + (1 : Int32)) / (2 : Int32))))))) (by rw [e106]; exact Ar138.1) (State.isArrayOf_alike hZ.alike Ar138.2.1) Ar138.2.2 hin139 hat140 (g := (mkF m 113 #[.val (.int p0), .val (.int p1), .val (.int ((1 : Int32) + (p0 &&& (63 : Int32)))), .val (.int ((1 : Int32) + (p1 &&& (63 : Int32)))), .val (.ref b87), .val (.ref b89), .val (.ref cx0106), .val (.int (((1 : Int32) + (p0 &&& (63 : Int32))) * ((1 : Int32) + (p1 &&& (63 : Int32))))), .val (.int ((((1 : Int32) + (p0 &&& (63 : Int32))) / (2 : Int32)) + (((1 : Int32) + (p0 &&& (63 : Int32))) % (2 : Int32)))), .val (.int ((((1 : Int32) + (p1 &&& (63 : Int32))) / (2 : Int32)) + (((1 : Int32) + (p1 &&& (63 : Int32))) % (2 : Int32)))), .val (.int (((((1 : Int32) + (p0 &&& (63 : Int32))) / (2 : Int32)) + (((1 : Int32) + (p0 &&& (63 : Int32))) % (2 : Int32))) * ((((1 : Int32) + (p1 &&& (63 : Int32))) / (2 : Int32)) + (((1 : Int32) + (p1 &&& (63 : Int32))) % (2 : Int32)))))] [(.int (3 : Int32)), (.ref cx0106)])) rfl rfl (hb hby at_113) _ ?_
        show Steps p.tables e below (T106.setTop (mkF m 114 #[.val (.int p0), .val (.int p1), .val (.int ((1 : Int32) + (p0 &&& (63 : Int32)))), .val (.int ((1 : Int32) + (p1 &&& (63 : Int32)))), .val (.ref b87), .val (.ref b89), .val (.ref cx0106), .val (.int (((1 : Int32) + (p0 &&& (63 : Int32))) * ((1 : Int32) + (p1 &&& (63 : Int32))))), .val (.int ((((1 : Int32) + (p0 &&& (63 : Int32))) / (2 : Int32)) + (((1 : Int32) + (p0 &&& (63 : Int32))) % (2 : Int32)))), .val (.int ((((1 : Int32) + (p1 &&& (63 : Int32))) / (2 : Int32)) + (((1 : Int32) + (p1 &&& (63 : Int32))) % (2 : Int32)))), .val (.int (((((1 : Int32) + (p0 &&& (63 : Int32))) / (2 : Int32)) + (((1 : Int32) + (p0 &&& (63 : Int32))) % (2 : Int32))) * ((((1 : Int32) + (p1 &&& (63 : Int32))) / (2 : Int32)) + (((1 : Int32) + (p1 &&& (63 : Int32))) % (2 : Int32)))))] [(.int ((((1 : Int32) + (p0 &&& (63 : Int32))) * ((1 : Int32) + (p1 &&& (63 : Int32)))) + ((2 : Int32) * (((((1 : Int32) + (p0 &&& (63 : Int32))) + (1 : Int32)) / (2 : Int32)) * ((((1 : Int32) + (p1 &&& (63 : Int32))) + (1 : Int32)) / (2 : Int32))))))])) _
        refine XS.iload X106.here hx rfl (hb hby at_114) rfl ?_
        show Steps p.tables e below (T106.setTop (mkF m 116 #[.val (.int p0), .val (.int p1), .val (.int ((1 : Int32) + (p0 &&& (63 : Int32)))), .val (.int ((1 : Int32) + (p1 &&& (63 : Int32)))), .val (.ref b87), .val (.ref b89), .val (.ref cx0106), .val (.int (((1 : Int32) + (p0 &&& (63 : Int32))) * ((1 : Int32) + (p1 &&& (63 : Int32))))), .val (.int ((((1 : Int32) + (p0 &&& (63 : Int32))) / (2 : Int32)) + (((1 : Int32) + (p0 &&& (63 : Int32))) % (2 : Int32)))), .val (.int ((((1 : Int32) + (p1 &&& (63 : Int32))) / (2 : Int32)) + (((1 : Int32) + (p1 &&& (63 : Int32))) % (2 : Int32)))), .val (.int (((((1 : Int32) + (p0 &&& (63 : Int32))) / (2 : Int32)) + (((1 : Int32) + (p0 &&& (63 : Int32))) % (2 : Int32))) * ((((1 : Int32) + (p1 &&& (63 : Int32))) / (2 : Int32)) + (((1 : Int32) + (p1 &&& (63 : Int32))) % (2 : Int32)))))] [(.int (((1 : Int32) + (p0 &&& (63 : Int32))) * ((1 : Int32) + (p1 &&& (63 : Int32))))), (.int ((((1 : Int32) + (p0 &&& (63 : Int32))) * ((1 : Int32) + (p1 &&& (63 : Int32)))) + ((2 : Int32) * (((((1 : Int32) + (p0 &&& (63 : Int32))) + (1 : Int32)) / (2 : Int32)) * ((((1 : Int32) + (p1 &&& (63 : Int32))) + (1 : Int32)) / (2 : Int32))))))])) _
        refine XS.iconst X106.here hx rfl (hb hby at_116) ?_
        show Steps p.tables e below (T106.setTop (mkF m 117 #[.val (.int p0), .val (.int p1), .val (.int ((1 : Int32) + (p0 &&& (63 : Int32)))), .val (.int ((1 : Int32) + (p1 &&& (63 : Int32)))), .val (.ref b87), .val (.ref b89), .val (.ref cx0106), .val (.int (((1 : Int32) + (p0 &&& (63 : Int32))) * ((1 : Int32) + (p1 &&& (63 : Int32))))), .val (.int ((((1 : Int32) + (p0 &&& (63 : Int32))) / (2 : Int32)) + (((1 : Int32) + (p0 &&& (63 : Int32))) % (2 : Int32)))), .val (.int ((((1 : Int32) + (p1 &&& (63 : Int32))) / (2 : Int32)) + (((1 : Int32) + (p1 &&& (63 : Int32))) % (2 : Int32)))), .val (.int (((((1 : Int32) + (p0 &&& (63 : Int32))) / (2 : Int32)) + (((1 : Int32) + (p0 &&& (63 : Int32))) % (2 : Int32))) * ((((1 : Int32) + (p1 &&& (63 : Int32))) / (2 : Int32)) + (((1 : Int32) + (p1 &&& (63 : Int32))) % (2 : Int32)))))] [(.int (2 : Int32)), (.int (((1 : Int32) + (p0 &&& (63 : Int32))) * ((1 : Int32) + (p1 &&& (63 : Int32))))), (.int ((((1 : Int32) + (p0 &&& (63 : Int32))) * ((1 : Int32) + (p1 &&& (63 : Int32)))) + ((2 : Int32) * (((((1 : Int32) + (p0 &&& (63 : Int32))) + (1 : Int32)) / (2 : Int32)) * ((((1 : Int32) + (p1 &&& (63 : Int32))) + (1 : Int32)) / (2 : Int32))))))])) _
        refine XS.iload X106.here hx rfl (hb hby at_117) rfl ?_
        show Steps p.tables e below (T106.setTop (mkF m 119 #[.val (.int p0), .val (.int p1), .val (.int ((1 : Int32) + (p0 &&& (63 : Int32)))), .val (.int ((1 : Int32) + (p1 &&& (63 : Int32)))), .val (.ref b87), .val (.ref b89), .val (.ref cx0106), .val (.int (((1 : Int32) + (p0 &&& (63 : Int32))) * ((1 : Int32) + (p1 &&& (63 : Int32))))), .val (.int ((((1 : Int32) + (p0 &&& (63 : Int32))) / (2 : Int32)) + (((1 : Int32) + (p0 &&& (63 : Int32))) % (2 : Int32)))), .val (.int ((((1 : Int32) + (p1 &&& (63 : Int32))) / (2 : Int32)) + (((1 : Int32) + (p1 &&& (63 : Int32))) % (2 : Int32)))), .val (.int (((((1 : Int32) + (p0 &&& (63 : Int32))) / (2 : Int32)) + (((1 : Int32) + (p0 &&& (63 : Int32))) % (2 : Int32))) * ((((1 : Int32) + (p1 &&& (63 : Int32))) / (2 : Int32)) + (((1 : Int32) + (p1 &&& (63 : Int32))) % (2 : Int32)))))] [(.int (((((1 : Int32) + (p0 &&& (63 : Int32))) / (2 : Int32)) + (((1 : Int32) + (p0 &&& (63 : Int32))) % (2 : Int32))) * ((((1 : Int32) + (p1 &&& (63 : Int32))) / (2 : Int32)) + (((1 : Int32) + (p1 &&& (63 : Int32))) % (2 : Int32))))), (.int (2 : Int32)), (.int (((1 : Int32) + (p0 &&& (63 : Int32))) * ((1 : Int32) + (p1 &&& (63 : Int32))))), (.int ((((1 : Int32) + (p0 &&& (63 : Int32))) * ((1 : Int32) + (p1 &&& (63 : Int32)))) + ((2 : Int32) * (((((1 : Int32) + (p0 &&& (63 : Int32))) + (1 : Int32)) / (2 : Int32)) * ((((1 : Int32) + (p1 &&& (63 : Int32))) + (1 : Int32)) / (2 : Int32))))))])) _
        refine XS.imul X106.here hx rfl (hb hby at_119) rfl ?_
        show Steps p.tables e below (T106.setTop (mkF m 120 #[.val (.int p0), .val (.int p1), .val (.int ((1 : Int32) + (p0 &&& (63 : Int32)))), .val (.int ((1 : Int32) + (p1 &&& (63 : Int32)))), .val (.ref b87), .val (.ref b89), .val (.ref cx0106), .val (.int (((1 : Int32) + (p0 &&& (63 : Int32))) * ((1 : Int32) + (p1 &&& (63 : Int32))))), .val (.int ((((1 : Int32) + (p0 &&& (63 : Int32))) / (2 : Int32)) + (((1 : Int32) + (p0 &&& (63 : Int32))) % (2 : Int32)))), .val (.int ((((1 : Int32) + (p1 &&& (63 : Int32))) / (2 : Int32)) + (((1 : Int32) + (p1 &&& (63 : Int32))) % (2 : Int32)))), .val (.int (((((1 : Int32) + (p0 &&& (63 : Int32))) / (2 : Int32)) + (((1 : Int32) + (p0 &&& (63 : Int32))) % (2 : Int32))) * ((((1 : Int32) + (p1 &&& (63 : Int32))) / (2 : Int32)) + (((1 : Int32) + (p1 &&& (63 : Int32))) % (2 : Int32)))))] [(.int ((2 : Int32) * (((((1 : Int32) + (p0 &&& (63 : Int32))) / (2 : Int32)) + (((1 : Int32) + (p0 &&& (63 : Int32))) % (2 : Int32))) * ((((1 : Int32) + (p1 &&& (63 : Int32))) / (2 : Int32)) + (((1 : Int32) + (p1 &&& (63 : Int32))) % (2 : Int32)))))), (.int (((1 : Int32) + (p0 &&& (63 : Int32))) * ((1 : Int32) + (p1 &&& (63 : Int32))))), (.int ((((1 : Int32) + (p0 &&& (63 : Int32))) * ((1 : Int32) + (p1 &&& (63 : Int32)))) + ((2 : Int32) * (((((1 : Int32) + (p0 &&& (63 : Int32))) + (1 : Int32)) / (2 : Int32)) * ((((1 : Int32) + (p1 &&& (63 : Int32))) + (1 : Int32)) / (2 : Int32))))))])) _
        refine XS.iadd X106.here hx rfl (hb hby at_120) rfl ?_
        exact k)
      by_cases hc141 : ((((1 : Int32) + (p0 &&& (63 : Int32))) * ((1 : Int32) + (p1 &&& (63 : Int32)))) + ((2 : Int32) * (((((1 : Int32) + (p0 &&& (63 : Int32))) + (1 : Int32)) / (2 : Int32)) * ((((1 : Int32) + (p1 &&& (63 : Int32))) + (1 : Int32)) / (2 : Int32))))) = ((((1 : Int32) + (p0 &&& (63 : Int32))) * ((1 : Int32) + (p1 &&& (63 : Int32)))) + ((2 : Int32) * (((((1 : Int32) + (p0 &&& (63 : Int32))) / (2 : Int32)) + (((1 : Int32) + (p0 &&& (63 : Int32))) % (2 : Int32))) * ((((1 : Int32) + (p1 &&& (63 : Int32))) / (2 : Int32)) + (((1 : Int32) + (p1 &&& (63 : Int32))) % (2 : Int32))))))
      · skip
        obtain ⟨cl143, Ar143, q143, S143, M143, H143, G143⟩ := id f107
        have hin144 : ¬ ((3 : Int32) < 0 ∨ cl143.slots.size ≤ ((3 : Int32)).toNatClampNeg) := inb_of S143 ⟨by decide, by decide⟩
        have hat145 : cl143.slots[((3 : Int32)).toNatClampNeg]? = some (.int ((((1 : Int32) + (p0 &&& (63 : Int32))) * ((1 : Int32) + (p1 &&& (63 : Int32)))) + ((2 : Int32) * (((((1 : Int32) + (p0 &&& (63 : Int32))) + (1 : Int32)) / (2 : Int32)) * ((((1 : Int32) + (p1 &&& (63 : Int32))) + (1 : Int32)) / (2 : Int32)))))) := H143.at hin144 rfl
        obtain ⟨cq146, kq146, q146a, q146b, q146c⟩ := isOf hZ e106 f109
        obtain ⟨_, _, ⟨T146, L146, k146, n146⟩, -, X146, ⟨Lc146, hQ146, l146, y146, z146⟩, st146⟩ := X106.virtualBack hx (y := (⟨"com/example/streamwarden/streamwarden/detect/Frame", "samples", "()[B"⟩ : MethodName)) (z := (⟨"com/example/streamwarden/streamwarden/detect/Frame", "samples", "()[B"⟩ : MethodName)) hown (mvT hZ (hw _ (List.mem_of_getElem? (i := 32) rfl))) (mvT hZ (hw _ (List.mem_of_getElem? (i := 33) rfl))) (notFace_of_selects (args := #[]) (mvT hZ (hw _ (List.mem_of_getElem? (i := 35) rfl)))) (mvT hZ (hw _ (List.mem_of_getElem? (i := 35) rfl))) (mvT hZ (hw _ (List.mem_of_getElem? (i := 34) rfl))) (by decide) (backOf (W := 1) (rm7 l Z aw hw [] b89 b87 h106 n0 Z106 f109 f112) hZ (hw _ (List.mem_of_getElem? (i := 36) rfl)) (hw _ (List.mem_of_getElem? (i := 2) rfl)) (by decide) (by decide)) q146a q146c (g := (mkF m 130 #[.val (.int p0), .val (.int p1), .val (.int ((1 : Int32) + (p0 &&& (63 : Int32)))), .val (.int ((1 : Int32) + (p1 &&& (63 : Int32)))), .val (.ref b87), .val (.ref b89), .val (.ref cx0106), .val (.int (((1 : Int32) + (p0 &&& (63 : Int32))) * ((1 : Int32) + (p1 &&& (63 : Int32))))), .val (.int ((((1 : Int32) + (p0 &&& (63 : Int32))) / (2 : Int32)) + (((1 : Int32) + (p0 &&& (63 : Int32))) % (2 : Int32)))), .val (.int ((((1 : Int32) + (p1 &&& (63 : Int32))) / (2 : Int32)) + (((1 : Int32) + (p1 &&& (63 : Int32))) % (2 : Int32)))), .val (.int (((((1 : Int32) + (p0 &&& (63 : Int32))) / (2 : Int32)) + (((1 : Int32) + (p0 &&& (63 : Int32))) % (2 : Int32))) * ((((1 : Int32) + (p1 &&& (63 : Int32))) / (2 : Int32)) + (((1 : Int32) + (p1 &&& (63 : Int32))) % (2 : Int32)))))] [(.ref b89), (.int ((((1 : Int32) + (p0 &&& (63 : Int32))) * ((1 : Int32) + (p1 &&& (63 : Int32)))) + ((2 : Int32) * (((((1 : Int32) + (p0 &&& (63 : Int32))) + (1 : Int32)) / (2 : Int32)) * ((((1 : Int32) + (p1 &&& (63 : Int32))) + (1 : Int32)) / (2 : Int32))))))])) rfl (by rw [hml]; rfl) (Steps.refl _) (argsL := []) (rest := [(.int ((((1 : Int32) + (p0 &&& (63 : Int32))) * ((1 : Int32) + (p1 &&& (63 : Int32)))) + ((2 : Int32) * (((((1 : Int32) + (p0 &&& (63 : Int32))) + (1 : Int32)) / (2 : Int32)) * ((((1 : Int32) + (p1 &&& (63 : Int32))) + (1 : Int32)) / (2 : Int32))))))]) (lenOf pd_5 rfl) rfl (by show 2 * 0 + _ ≤ _; exact Nat.le_of_eq rfl) (hb hby at_130) (fun _ _ => ⟨rfl, e106, (by decide : 3 + 0 ≤ _), (by decide : 6151 + 0 ≤ _)⟩)
        dsimp only [Pt.U, Pt.locs, Pt.cells, Pt.slots] at X146 l146 y146 z146 st146 hQ146
        subst l146 y146 z146
        obtain ⟨rfl, N146q, e146⟩ := hQ146
        have N146 := Fr.app N106 N146q
        obtain ⟨cl147, Ar147, q147, S147, M147, H147, G147⟩ := id f108
        have pre148 := fun (t : State) (k : Steps p.tables e below (T146.setTop (mkF m 142 #[.val (.int p0), .val (.int p1), .val (.int ((1 : Int32) + (p0 &&& (63 : Int32)))), .val (.int ((1 : Int32) + (p1 &&& (63 : Int32)))), .val (.ref b87), .val (.ref b89), .val (.ref cx0106), .val (.int (((1 : Int32) + (p0 &&& (63 : Int32))) * ((1 : Int32) + (p1 &&& (63 : Int32))))), .val (.int ((((1 : Int32) + (p0 &&& (63 : Int32))) / (2 : Int32)) + (((1 : Int32) + (p0 &&& (63 : Int32))) % (2 : Int32)))), .val (.int ((((1 : Int32) + (p1 &&& (63 : Int32))) / (2 : Int32)) + (((1 : Int32) + (p1 &&& (63 : Int32))) % (2 : Int32)))), .val (.int (((((1 : Int32) + (p0 &&& (63 : Int32))) / (2 : Int32)) + (((1 : Int32) + (p0 &&& (63 : Int32))) % (2 : Int32))) * ((((1 : Int32) + (p1 &&& (63 : Int32))) / (2 : Int32)) + (((1 : Int32) + (p1 &&& (63 : Int32))) % (2 : Int32)))))] [(.int (1 : Int32))])) t) => pre142 t (by
          show Steps p.tables e below (T106.setTop (mkF m 121 #[.val (.int p0), .val (.int p1), .val (.int ((1 : Int32) + (p0 &&& (63 : Int32)))), .val (.int ((1 : Int32) + (p1 &&& (63 : Int32)))), .val (.ref b87), .val (.ref b89), .val (.ref cx0106), .val (.int (((1 : Int32) + (p0 &&& (63 : Int32))) * ((1 : Int32) + (p1 &&& (63 : Int32))))), .val (.int ((((1 : Int32) + (p0 &&& (63 : Int32))) / (2 : Int32)) + (((1 : Int32) + (p0 &&& (63 : Int32))) % (2 : Int32)))), .val (.int ((((1 : Int32) + (p1 &&& (63 : Int32))) / (2 : Int32)) + (((1 : Int32) + (p1 &&& (63 : Int32))) % (2 : Int32)))), .val (.int (((((1 : Int32) + (p0 &&& (63 : Int32))) / (2 : Int32)) + (((1 : Int32) + (p0 &&& (63 : Int32))) % (2 : Int32))) * ((((1 : Int32) + (p1 &&& (63 : Int32))) / (2 : Int32)) + (((1 : Int32) + (p1 &&& (63 : Int32))) % (2 : Int32)))))] [(.int ((((1 : Int32) + (p0 &&& (63 : Int32))) * ((1 : Int32) + (p1 &&& (63 : Int32)))) + ((2 : Int32) * (((((1 : Int32) + (p0 &&& (63 : Int32))) / (2 : Int32)) + (((1 : Int32) + (p0 &&& (63 : Int32))) % (2 : Int32))) * ((((1 : Int32) + (p1 &&& (63 : Int32))) / (2 : Int32)) + (((1 : Int32) + (p1 &&& (63 : Int32))) % (2 : Int32))))))), (.int ((((1 : Int32) + (p0 &&& (63 : Int32))) * ((1 : Int32) + (p1 &&& (63 : Int32)))) + ((2 : Int32) * (((((1 : Int32) + (p0 &&& (63 : Int32))) + (1 : Int32)) / (2 : Int32)) * ((((1 : Int32) + (p1 &&& (63 : Int32))) + (1 : Int32)) / (2 : Int32))))))])) _
          refine XS.icmpNo X106.here hx rfl (hb hby at_121) rfl (teq hc141).2 ?_
          show Steps p.tables e below (T106.setTop (mkF m 124 #[.val (.int p0), .val (.int p1), .val (.int ((1 : Int32) + (p0 &&& (63 : Int32)))), .val (.int ((1 : Int32) + (p1 &&& (63 : Int32)))), .val (.ref b87), .val (.ref b89), .val (.ref cx0106), .val (.int (((1 : Int32) + (p0 &&& (63 : Int32))) * ((1 : Int32) + (p1 &&& (63 : Int32))))), .val (.int ((((1 : Int32) + (p0 &&& (63 : Int32))) / (2 : Int32)) + (((1 : Int32) + (p0 &&& (63 : Int32))) % (2 : Int32)))), .val (.int ((((1 : Int32) + (p1 &&& (63 : Int32))) / (2 : Int32)) + (((1 : Int32) + (p1 &&& (63 : Int32))) % (2 : Int32)))), .val (.int (((((1 : Int32) + (p0 &&& (63 : Int32))) / (2 : Int32)) + (((1 : Int32) + (p0 &&& (63 : Int32))) % (2 : Int32))) * ((((1 : Int32) + (p1 &&& (63 : Int32))) / (2 : Int32)) + (((1 : Int32) + (p1 &&& (63 : Int32))) % (2 : Int32)))))] [])) _
          refine XS.aload X106.here hx rfl (hb hby at_124) rfl rfl ?_
          show Steps p.tables e below (T106.setTop (mkF m 126 #[.val (.int p0), .val (.int p1), .val (.int ((1 : Int32) + (p0 &&& (63 : Int32)))), .val (.int ((1 : Int32) + (p1 &&& (63 : Int32)))), .val (.ref b87), .val (.ref b89), .val (.ref cx0106), .val (.int (((1 : Int32) + (p0 &&& (63 : Int32))) * ((1 : Int32) + (p1 &&& (63 : Int32))))), .val (.int ((((1 : Int32) + (p0 &&& (63 : Int32))) / (2 : Int32)) + (((1 : Int32) + (p0 &&& (63 : Int32))) % (2 : Int32)))), .val (.int ((((1 : Int32) + (p1 &&& (63 : Int32))) / (2 : Int32)) + (((1 : Int32) + (p1 &&& (63 : Int32))) % (2 : Int32)))), .val (.int (((((1 : Int32) + (p0 &&& (63 : Int32))) / (2 : Int32)) + (((1 : Int32) + (p0 &&& (63 : Int32))) % (2 : Int32))) * ((((1 : Int32) + (p1 &&& (63 : Int32))) / (2 : Int32)) + (((1 : Int32) + (p1 &&& (63 : Int32))) % (2 : Int32)))))] [(.ref cx0106)])) _
          refine XS.iconst X106.here hx rfl (hb hby at_126) ?_
          show Steps p.tables e below (T106.setTop (mkF m 127 #[.val (.int p0), .val (.int p1), .val (.int ((1 : Int32) + (p0 &&& (63 : Int32)))), .val (.int ((1 : Int32) + (p1 &&& (63 : Int32)))), .val (.ref b87), .val (.ref b89), .val (.ref cx0106), .val (.int (((1 : Int32) + (p0 &&& (63 : Int32))) * ((1 : Int32) + (p1 &&& (63 : Int32))))), .val (.int ((((1 : Int32) + (p0 &&& (63 : Int32))) / (2 : Int32)) + (((1 : Int32) + (p0 &&& (63 : Int32))) % (2 : Int32)))), .val (.int ((((1 : Int32) + (p1 &&& (63 : Int32))) / (2 : Int32)) + (((1 : Int32) + (p1 &&& (63 : Int32))) % (2 : Int32)))), .val (.int (((((1 : Int32) + (p0 &&& (63 : Int32))) / (2 : Int32)) + (((1 : Int32) + (p0 &&& (63 : Int32))) % (2 : Int32))) * ((((1 : Int32) + (p1 &&& (63 : Int32))) / (2 : Int32)) + (((1 : Int32) + (p1 &&& (63 : Int32))) % (2 : Int32)))))] [(.int (3 : Int32)), (.ref cx0106)])) _
          refine X106.iaload hx (j := (3 : Int32)) (v := (.int ((((1 : Int32) + (p0 &&& (63 : Int32))) * ((1 : Int32) + (p1 &&& (63 : Int32)))) + ((2 : Int32) * (((((1 : Int32) + (p0 &&& (63 : Int32))) + (1 : Int32)) / (2 : Int32)) * ((((1 : Int32) + (p1 &&& (63 : Int32))) + (1 : Int32)) / (2 : Int32))))))) (by rw [e106]; exact Ar143.1) (State.isArrayOf_alike hZ.alike Ar143.2.1) Ar143.2.2 hin144 hat145 (g := (mkF m 127 #[.val (.int p0), .val (.int p1), .val (.int ((1 : Int32) + (p0 &&& (63 : Int32)))), .val (.int ((1 : Int32) + (p1 &&& (63 : Int32)))), .val (.ref b87), .val (.ref b89), .val (.ref cx0106), .val (.int (((1 : Int32) + (p0 &&& (63 : Int32))) * ((1 : Int32) + (p1 &&& (63 : Int32))))), .val (.int ((((1 : Int32) + (p0 &&& (63 : Int32))) / (2 : Int32)) + (((1 : Int32) + (p0 &&& (63 : Int32))) % (2 : Int32)))), .val (.int ((((1 : Int32) + (p1 &&& (63 : Int32))) / (2 : Int32)) + (((1 : Int32) + (p1 &&& (63 : Int32))) % (2 : Int32)))), .val (.int (((((1 : Int32) + (p0 &&& (63 : Int32))) / (2 : Int32)) + (((1 : Int32) + (p0 &&& (63 : Int32))) % (2 : Int32))) * ((((1 : Int32) + (p1 &&& (63 : Int32))) / (2 : Int32)) + (((1 : Int32) + (p1 &&& (63 : Int32))) % (2 : Int32)))))] [(.int (3 : Int32)), (.ref cx0106)])) rfl rfl (hb hby at_127) _ ?_
          show Steps p.tables e below (T106.setTop (mkF m 128 #[.val (.int p0), .val (.int p1), .val (.int ((1 : Int32) + (p0 &&& (63 : Int32)))), .val (.int ((1 : Int32) + (p1 &&& (63 : Int32)))), .val (.ref b87), .val (.ref b89), .val (.ref cx0106), .val (.int (((1 : Int32) + (p0 &&& (63 : Int32))) * ((1 : Int32) + (p1 &&& (63 : Int32))))), .val (.int ((((1 : Int32) + (p0 &&& (63 : Int32))) / (2 : Int32)) + (((1 : Int32) + (p0 &&& (63 : Int32))) % (2 : Int32)))), .val (.int ((((1 : Int32) + (p1 &&& (63 : Int32))) / (2 : Int32)) + (((1 : Int32) + (p1 &&& (63 : Int32))) % (2 : Int32)))), .val (.int (((((1 : Int32) + (p0 &&& (63 : Int32))) / (2 : Int32)) + (((1 : Int32) + (p0 &&& (63 : Int32))) % (2 : Int32))) * ((((1 : Int32) + (p1 &&& (63 : Int32))) / (2 : Int32)) + (((1 : Int32) + (p1 &&& (63 : Int32))) % (2 : Int32)))))] [(.int ((((1 : Int32) + (p0 &&& (63 : Int32))) * ((1 : Int32) + (p1 &&& (63 : Int32)))) + ((2 : Int32) * (((((1 : Int32) + (p0 &&& (63 : Int32))) + (1 : Int32)) / (2 : Int32)) * ((((1 : Int32) + (p1 &&& (63 : Int32))) + (1 : Int32)) / (2 : Int32))))))])) _
          refine XS.aload X106.here hx rfl (hb hby at_128) rfl rfl ?_
          show Steps p.tables e below (T106.setTop (mkF m 130 #[.val (.int p0), .val (.int p1), .val (.int ((1 : Int32) + (p0 &&& (63 : Int32)))), .val (.int ((1 : Int32) + (p1 &&& (63 : Int32)))), .val (.ref b87), .val (.ref b89), .val (.ref cx0106), .val (.int (((1 : Int32) + (p0 &&& (63 : Int32))) * ((1 : Int32) + (p1 &&& (63 : Int32))))), .val (.int ((((1 : Int32) + (p0 &&& (63 : Int32))) / (2 : Int32)) + (((1 : Int32) + (p0 &&& (63 : Int32))) % (2 : Int32)))), .val (.int ((((1 : Int32) + (p1 &&& (63 : Int32))) / (2 : Int32)) + (((1 : Int32) + (p1 &&& (63 : Int32))) % (2 : Int32)))), .val (.int (((((1 : Int32) + (p0 &&& (63 : Int32))) / (2 : Int32)) + (((1 : Int32) + (p0 &&& (63 : Int32))) % (2 : Int32))) * ((((1 : Int32) + (p1 &&& (63 : Int32))) / (2 : Int32)) + (((1 : Int32) + (p1 &&& (63 : Int32))) % (2 : Int32)))))] [(.ref b89), (.int ((((1 : Int32) + (p0 &&& (63 : Int32))) * ((1 : Int32) + (p1 &&& (63 : Int32)))) + ((2 : Int32) * (((((1 : Int32) + (p0 &&& (63 : Int32))) + (1 : Int32)) / (2 : Int32)) * ((((1 : Int32) + (p1 &&& (63 : Int32))) + (1 : Int32)) / (2 : Int32))))))])) _
          refine st146.trans ?_
          show Steps p.tables e below (T146.setTop (mkF m 133 #[.val (.int p0), .val (.int p1), .val (.int ((1 : Int32) + (p0 &&& (63 : Int32)))), .val (.int ((1 : Int32) + (p1 &&& (63 : Int32)))), .val (.ref b87), .val (.ref b89), .val (.ref cx0106), .val (.int (((1 : Int32) + (p0 &&& (63 : Int32))) * ((1 : Int32) + (p1 &&& (63 : Int32))))), .val (.int ((((1 : Int32) + (p0 &&& (63 : Int32))) / (2 : Int32)) + (((1 : Int32) + (p0 &&& (63 : Int32))) % (2 : Int32)))), .val (.int ((((1 : Int32) + (p1 &&& (63 : Int32))) / (2 : Int32)) + (((1 : Int32) + (p1 &&& (63 : Int32))) % (2 : Int32)))), .val (.int (((((1 : Int32) + (p0 &&& (63 : Int32))) / (2 : Int32)) + (((1 : Int32) + (p0 &&& (63 : Int32))) % (2 : Int32))) * ((((1 : Int32) + (p1 &&& (63 : Int32))) / (2 : Int32)) + (((1 : Int32) + (p1 &&& (63 : Int32))) % (2 : Int32)))))] [(.ref b87), (.int ((((1 : Int32) + (p0 &&& (63 : Int32))) * ((1 : Int32) + (p1 &&& (63 : Int32)))) + ((2 : Int32) * (((((1 : Int32) + (p0 &&& (63 : Int32))) + (1 : Int32)) / (2 : Int32)) * ((((1 : Int32) + (p1 &&& (63 : Int32))) + (1 : Int32)) / (2 : Int32))))))])) _
          refine X146.arraylength hx (by rw [e146]; exact Ar147.1) (State.isArrayOf_alike hZ.alike Ar147.2.1) (g := (mkF m 133 #[.val (.int p0), .val (.int p1), .val (.int ((1 : Int32) + (p0 &&& (63 : Int32)))), .val (.int ((1 : Int32) + (p1 &&& (63 : Int32)))), .val (.ref b87), .val (.ref b89), .val (.ref cx0106), .val (.int (((1 : Int32) + (p0 &&& (63 : Int32))) * ((1 : Int32) + (p1 &&& (63 : Int32))))), .val (.int ((((1 : Int32) + (p0 &&& (63 : Int32))) / (2 : Int32)) + (((1 : Int32) + (p0 &&& (63 : Int32))) % (2 : Int32)))), .val (.int ((((1 : Int32) + (p1 &&& (63 : Int32))) / (2 : Int32)) + (((1 : Int32) + (p1 &&& (63 : Int32))) % (2 : Int32)))), .val (.int (((((1 : Int32) + (p0 &&& (63 : Int32))) / (2 : Int32)) + (((1 : Int32) + (p0 &&& (63 : Int32))) % (2 : Int32))) * ((((1 : Int32) + (p1 &&& (63 : Int32))) / (2 : Int32)) + (((1 : Int32) + (p1 &&& (63 : Int32))) % (2 : Int32)))))] [(.ref b87), (.int ((((1 : Int32) + (p0 &&& (63 : Int32))) * ((1 : Int32) + (p1 &&& (63 : Int32)))) + ((2 : Int32) * (((((1 : Int32) + (p0 &&& (63 : Int32))) + (1 : Int32)) / (2 : Int32)) * ((((1 : Int32) + (p1 &&& (63 : Int32))) + (1 : Int32)) / (2 : Int32))))))])) rfl rfl (hb hby at_133) _ ?_
          rw [len_of S147 M147]
          show Steps p.tables e below (T146.setTop (mkF m 134 #[.val (.int p0), .val (.int p1), .val (.int ((1 : Int32) + (p0 &&& (63 : Int32)))), .val (.int ((1 : Int32) + (p1 &&& (63 : Int32)))), .val (.ref b87), .val (.ref b89), .val (.ref cx0106), .val (.int (((1 : Int32) + (p0 &&& (63 : Int32))) * ((1 : Int32) + (p1 &&& (63 : Int32))))), .val (.int ((((1 : Int32) + (p0 &&& (63 : Int32))) / (2 : Int32)) + (((1 : Int32) + (p0 &&& (63 : Int32))) % (2 : Int32)))), .val (.int ((((1 : Int32) + (p1 &&& (63 : Int32))) / (2 : Int32)) + (((1 : Int32) + (p1 &&& (63 : Int32))) % (2 : Int32)))), .val (.int (((((1 : Int32) + (p0 &&& (63 : Int32))) / (2 : Int32)) + (((1 : Int32) + (p0 &&& (63 : Int32))) % (2 : Int32))) * ((((1 : Int32) + (p1 &&& (63 : Int32))) / (2 : Int32)) + (((1 : Int32) + (p1 &&& (63 : Int32))) % (2 : Int32)))))] [(.int ((((1 : Int32) + (p0 &&& (63 : Int32))) * ((1 : Int32) + (p1 &&& (63 : Int32)))) + ((2 : Int32) * (((((1 : Int32) + (p0 &&& (63 : Int32))) + (1 : Int32)) / (2 : Int32)) * ((((1 : Int32) + (p1 &&& (63 : Int32))) + (1 : Int32)) / (2 : Int32)))))), (.int ((((1 : Int32) + (p0 &&& (63 : Int32))) * ((1 : Int32) + (p1 &&& (63 : Int32)))) + ((2 : Int32) * (((((1 : Int32) + (p0 &&& (63 : Int32))) + (1 : Int32)) / (2 : Int32)) * ((((1 : Int32) + (p1 &&& (63 : Int32))) + (1 : Int32)) / (2 : Int32))))))])) _
          refine XS.icmpNo X146.here hx rfl (hb hby at_134) rfl (teq (rfl : ((((1 : Int32) + (p0 &&& (63 : Int32))) * ((1 : Int32) + (p1 &&& (63 : Int32)))) + ((2 : Int32) * (((((1 : Int32) + (p0 &&& (63 : Int32))) + (1 : Int32)) / (2 : Int32)) * ((((1 : Int32) + (p1 &&& (63 : Int32))) + (1 : Int32)) / (2 : Int32))))) = ((((1 : Int32) + (p0 &&& (63 : Int32))) * ((1 : Int32) + (p1 &&& (63 : Int32)))) + ((2 : Int32) * (((((1 : Int32) + (p0 &&& (63 : Int32))) + (1 : Int32)) / (2 : Int32)) * ((((1 : Int32) + (p1 &&& (63 : Int32))) + (1 : Int32)) / (2 : Int32))))))).2 ?_
          show Steps p.tables e below (T146.setTop (mkF m 137 #[.val (.int p0), .val (.int p1), .val (.int ((1 : Int32) + (p0 &&& (63 : Int32)))), .val (.int ((1 : Int32) + (p1 &&& (63 : Int32)))), .val (.ref b87), .val (.ref b89), .val (.ref cx0106), .val (.int (((1 : Int32) + (p0 &&& (63 : Int32))) * ((1 : Int32) + (p1 &&& (63 : Int32))))), .val (.int ((((1 : Int32) + (p0 &&& (63 : Int32))) / (2 : Int32)) + (((1 : Int32) + (p0 &&& (63 : Int32))) % (2 : Int32)))), .val (.int ((((1 : Int32) + (p1 &&& (63 : Int32))) / (2 : Int32)) + (((1 : Int32) + (p1 &&& (63 : Int32))) % (2 : Int32)))), .val (.int (((((1 : Int32) + (p0 &&& (63 : Int32))) / (2 : Int32)) + (((1 : Int32) + (p0 &&& (63 : Int32))) % (2 : Int32))) * ((((1 : Int32) + (p1 &&& (63 : Int32))) / (2 : Int32)) + (((1 : Int32) + (p1 &&& (63 : Int32))) % (2 : Int32)))))] [])) _
          refine XS.iconst X146.here hx rfl (hb hby at_137) ?_
          show Steps p.tables e below (T146.setTop (mkF m 138 #[.val (.int p0), .val (.int p1), .val (.int ((1 : Int32) + (p0 &&& (63 : Int32)))), .val (.int ((1 : Int32) + (p1 &&& (63 : Int32)))), .val (.ref b87), .val (.ref b89), .val (.ref cx0106), .val (.int (((1 : Int32) + (p0 &&& (63 : Int32))) * ((1 : Int32) + (p1 &&& (63 : Int32))))), .val (.int ((((1 : Int32) + (p0 &&& (63 : Int32))) / (2 : Int32)) + (((1 : Int32) + (p0 &&& (63 : Int32))) % (2 : Int32)))), .val (.int ((((1 : Int32) + (p1 &&& (63 : Int32))) / (2 : Int32)) + (((1 : Int32) + (p1 &&& (63 : Int32))) % (2 : Int32)))), .val (.int (((((1 : Int32) + (p0 &&& (63 : Int32))) / (2 : Int32)) + (((1 : Int32) + (p0 &&& (63 : Int32))) % (2 : Int32))) * ((((1 : Int32) + (p1 &&& (63 : Int32))) / (2 : Int32)) + (((1 : Int32) + (p1 &&& (63 : Int32))) % (2 : Int32)))))] [(.int (1 : Int32))])) _
          refine XS.goto X146.here hx rfl (pc0 := 138) (pc' := 142) rfl (hb hby at_138) (by decide) (by decide) ?_
          exact k)
        have hj149 : (j0_0 p0 p1) = (1 : Int32) := by unfold j0_0; first | (rw [if_pos hc137, if_pos hc141]) | (simp only [if_pos hc137, if_pos hc141])
        exact ⟨T146, _, X146, e146, N146, fun t k => pre148 t (by rw [hj149] at k; exact k)⟩
      · skip
        have pre150 := fun (t : State) (k : Steps p.tables e below (T106.setTop (mkF m 142 #[.val (.int p0), .val (.int p1), .val (.int ((1 : Int32) + (p0 &&& (63 : Int32)))), .val (.int ((1 : Int32) + (p1 &&& (63 : Int32)))), .val (.ref b87), .val (.ref b89), .val (.ref cx0106), .val (.int (((1 : Int32) + (p0 &&& (63 : Int32))) * ((1 : Int32) + (p1 &&& (63 : Int32))))), .val (.int ((((1 : Int32) + (p0 &&& (63 : Int32))) / (2 : Int32)) + (((1 : Int32) + (p0 &&& (63 : Int32))) % (2 : Int32)))), .val (.int ((((1 : Int32) + (p1 &&& (63 : Int32))) / (2 : Int32)) + (((1 : Int32) + (p1 &&& (63 : Int32))) % (2 : Int32)))), .val (.int (((((1 : Int32) + (p0 &&& (63 : Int32))) / (2 : Int32)) + (((1 : Int32) + (p0 &&& (63 : Int32))) % (2 : Int32))) * ((((1 : Int32) + (p1 &&& (63 : Int32))) / (2 : Int32)) + (((1 : Int32) + (p1 &&& (63 : Int32))) % (2 : Int32)))))] [(.int (0 : Int32))])) t) => pre142 t (by
          show Steps p.tables e below (T106.setTop (mkF m 121 #[.val (.int p0), .val (.int p1), .val (.int ((1 : Int32) + (p0 &&& (63 : Int32)))), .val (.int ((1 : Int32) + (p1 &&& (63 : Int32)))), .val (.ref b87), .val (.ref b89), .val (.ref cx0106), .val (.int (((1 : Int32) + (p0 &&& (63 : Int32))) * ((1 : Int32) + (p1 &&& (63 : Int32))))), .val (.int ((((1 : Int32) + (p0 &&& (63 : Int32))) / (2 : Int32)) + (((1 : Int32) + (p0 &&& (63 : Int32))) % (2 : Int32)))), .val (.int ((((1 : Int32) + (p1 &&& (63 : Int32))) / (2 : Int32)) + (((1 : Int32) + (p1 &&& (63 : Int32))) % (2 : Int32)))), .val (.int (((((1 : Int32) + (p0 &&& (63 : Int32))) / (2 : Int32)) + (((1 : Int32) + (p0 &&& (63 : Int32))) % (2 : Int32))) * ((((1 : Int32) + (p1 &&& (63 : Int32))) / (2 : Int32)) + (((1 : Int32) + (p1 &&& (63 : Int32))) % (2 : Int32)))))] [(.int ((((1 : Int32) + (p0 &&& (63 : Int32))) * ((1 : Int32) + (p1 &&& (63 : Int32)))) + ((2 : Int32) * (((((1 : Int32) + (p0 &&& (63 : Int32))) / (2 : Int32)) + (((1 : Int32) + (p0 &&& (63 : Int32))) % (2 : Int32))) * ((((1 : Int32) + (p1 &&& (63 : Int32))) / (2 : Int32)) + (((1 : Int32) + (p1 &&& (63 : Int32))) % (2 : Int32))))))), (.int ((((1 : Int32) + (p0 &&& (63 : Int32))) * ((1 : Int32) + (p1 &&& (63 : Int32)))) + ((2 : Int32) * (((((1 : Int32) + (p0 &&& (63 : Int32))) + (1 : Int32)) / (2 : Int32)) * ((((1 : Int32) + (p1 &&& (63 : Int32))) + (1 : Int32)) / (2 : Int32))))))])) _
          refine XS.icmpYes X106.here hx rfl (pc0 := 121) (pc' := 141) rfl (hb hby at_121) rfl (feq hc141).2 (by decide) (by decide) ?_
          show Steps p.tables e below (T106.setTop (mkF m 141 #[.val (.int p0), .val (.int p1), .val (.int ((1 : Int32) + (p0 &&& (63 : Int32)))), .val (.int ((1 : Int32) + (p1 &&& (63 : Int32)))), .val (.ref b87), .val (.ref b89), .val (.ref cx0106), .val (.int (((1 : Int32) + (p0 &&& (63 : Int32))) * ((1 : Int32) + (p1 &&& (63 : Int32))))), .val (.int ((((1 : Int32) + (p0 &&& (63 : Int32))) / (2 : Int32)) + (((1 : Int32) + (p0 &&& (63 : Int32))) % (2 : Int32)))), .val (.int ((((1 : Int32) + (p1 &&& (63 : Int32))) / (2 : Int32)) + (((1 : Int32) + (p1 &&& (63 : Int32))) % (2 : Int32)))), .val (.int (((((1 : Int32) + (p0 &&& (63 : Int32))) / (2 : Int32)) + (((1 : Int32) + (p0 &&& (63 : Int32))) % (2 : Int32))) * ((((1 : Int32) + (p1 &&& (63 : Int32))) / (2 : Int32)) + (((1 : Int32) + (p1 &&& (63 : Int32))) % (2 : Int32)))))] [])) _
          refine XS.iconst X106.here hx rfl (hb hby at_141) ?_
          exact k)
        have hj151 : (j0_0 p0 p1) = (0 : Int32) := by unfold j0_0; first | (rw [if_pos hc137, if_neg hc141]) | (simp only [if_pos hc137, if_neg hc141])
        exact ⟨T106, _, X106, e106, N106, fun t k => pre150 t (by rw [hj151] at k; exact k)⟩
    · skip
      have pre152 := fun (t : State) (k : Steps p.tables e below (T106.setTop (mkF m 142 #[.val (.int p0), .val (.int p1), .val (.int ((1 : Int32) + (p0 &&& (63 : Int32)))), .val (.int ((1 : Int32) + (p1 &&& (63 : Int32)))), .val (.ref b87), .val (.ref b89), .val (.ref cx0106), .val (.int (((1 : Int32) + (p0 &&& (63 : Int32))) * ((1 : Int32) + (p1 &&& (63 : Int32))))), .val (.int ((((1 : Int32) + (p0 &&& (63 : Int32))) / (2 : Int32)) + (((1 : Int32) + (p0 &&& (63 : Int32))) % (2 : Int32)))), .val (.int ((((1 : Int32) + (p1 &&& (63 : Int32))) / (2 : Int32)) + (((1 : Int32) + (p1 &&& (63 : Int32))) % (2 : Int32)))), .val (.int (((((1 : Int32) + (p0 &&& (63 : Int32))) / (2 : Int32)) + (((1 : Int32) + (p0 &&& (63 : Int32))) % (2 : Int32))) * ((((1 : Int32) + (p1 &&& (63 : Int32))) / (2 : Int32)) + (((1 : Int32) + (p1 &&& (63 : Int32))) % (2 : Int32)))))] [(.int (0 : Int32))])) t) => pre135 t (by
        show Steps p.tables e below (T106.setTop (mkF m 107 #[.val (.int p0), .val (.int p1), .val (.int ((1 : Int32) + (p0 &&& (63 : Int32)))), .val (.int ((1 : Int32) + (p1 &&& (63 : Int32)))), .val (.ref b87), .val (.ref b89), .val (.ref cx0106), .val (.int (((1 : Int32) + (p0 &&& (63 : Int32))) * ((1 : Int32) + (p1 &&& (63 : Int32))))), .val (.int ((((1 : Int32) + (p0 &&& (63 : Int32))) / (2 : Int32)) + (((1 : Int32) + (p0 &&& (63 : Int32))) % (2 : Int32)))), .val (.int ((((1 : Int32) + (p1 &&& (63 : Int32))) / (2 : Int32)) + (((1 : Int32) + (p1 &&& (63 : Int32))) % (2 : Int32)))), .val (.int (((((1 : Int32) + (p0 &&& (63 : Int32))) / (2 : Int32)) + (((1 : Int32) + (p0 &&& (63 : Int32))) % (2 : Int32))) * ((((1 : Int32) + (p1 &&& (63 : Int32))) / (2 : Int32)) + (((1 : Int32) + (p1 &&& (63 : Int32))) % (2 : Int32)))))] [(.int ((((1 : Int32) + (p0 &&& (63 : Int32))) * ((1 : Int32) + (p1 &&& (63 : Int32)))) + (((((1 : Int32) + (p0 &&& (63 : Int32))) / (2 : Int32)) + (((1 : Int32) + (p0 &&& (63 : Int32))) % (2 : Int32))) * ((((1 : Int32) + (p1 &&& (63 : Int32))) / (2 : Int32)) + (((1 : Int32) + (p1 &&& (63 : Int32))) % (2 : Int32)))))), (.int ((((1 : Int32) + (p0 &&& (63 : Int32))) * ((1 : Int32) + (p1 &&& (63 : Int32)))) + (((((1 : Int32) + (p0 &&& (63 : Int32))) + (1 : Int32)) / (2 : Int32)) * ((((1 : Int32) + (p1 &&& (63 : Int32))) + (1 : Int32)) / (2 : Int32)))))])) _
        refine XS.icmpYes X106.here hx rfl (pc0 := 107) (pc' := 141) rfl (hb hby at_107) rfl (feq hc137).2 (by decide) (by decide) ?_
        show Steps p.tables e below (T106.setTop (mkF m 141 #[.val (.int p0), .val (.int p1), .val (.int ((1 : Int32) + (p0 &&& (63 : Int32)))), .val (.int ((1 : Int32) + (p1 &&& (63 : Int32)))), .val (.ref b87), .val (.ref b89), .val (.ref cx0106), .val (.int (((1 : Int32) + (p0 &&& (63 : Int32))) * ((1 : Int32) + (p1 &&& (63 : Int32))))), .val (.int ((((1 : Int32) + (p0 &&& (63 : Int32))) / (2 : Int32)) + (((1 : Int32) + (p0 &&& (63 : Int32))) % (2 : Int32)))), .val (.int ((((1 : Int32) + (p1 &&& (63 : Int32))) / (2 : Int32)) + (((1 : Int32) + (p1 &&& (63 : Int32))) % (2 : Int32)))), .val (.int (((((1 : Int32) + (p0 &&& (63 : Int32))) / (2 : Int32)) + (((1 : Int32) + (p0 &&& (63 : Int32))) % (2 : Int32))) * ((((1 : Int32) + (p1 &&& (63 : Int32))) / (2 : Int32)) + (((1 : Int32) + (p1 &&& (63 : Int32))) % (2 : Int32)))))] [])) _
        refine XS.iconst X106.here hx rfl (hb hby at_141) ?_
        exact k)
      have hj153 : (j0_0 p0 p1) = (0 : Int32) := by unfold j0_0; first | (rw [if_neg hc137]) | (simp only [if_neg hc137])
      exact ⟨T106, _, X106, e106, N106, fun t k => pre152 t (by rw [hj153] at k; exact k)⟩
  obtain ⟨fs, hr, hrun, hended, hW, hsame⟩ := X136.leave (v := some (.int (nar .boolean (j0_0 p0 p1)))) (fun h => by rw [Bd.returns] at h; cases h)
  refine ⟨_, _, pre136 _ ?_, hrun, hended, _, _, rfl, ?_, ⟨_, rfl⟩, hW, hsame.mono (by decide) (by decide)⟩
  · skip
    show Steps p.tables e below (T136.setTop (mkF m 142 #[.val (.int p0), .val (.int p1), .val (.int ((1 : Int32) + (p0 &&& (63 : Int32)))), .val (.int ((1 : Int32) + (p1 &&& (63 : Int32)))), .val (.ref b87), .val (.ref b89), .val (.ref cx0106), .val (.int (((1 : Int32) + (p0 &&& (63 : Int32))) * ((1 : Int32) + (p1 &&& (63 : Int32))))), .val (.int ((((1 : Int32) + (p0 &&& (63 : Int32))) / (2 : Int32)) + (((1 : Int32) + (p0 &&& (63 : Int32))) % (2 : Int32)))), .val (.int ((((1 : Int32) + (p1 &&& (63 : Int32))) / (2 : Int32)) + (((1 : Int32) + (p1 &&& (63 : Int32))) % (2 : Int32)))), .val (.int (((((1 : Int32) + (p0 &&& (63 : Int32))) / (2 : Int32)) + (((1 : Int32) + (p0 &&& (63 : Int32))) % (2 : Int32))) * ((((1 : Int32) + (p1 &&& (63 : Int32))) / (2 : Int32)) + (((1 : Int32) + (p1 &&& (63 : Int32))) % (2 : Int32)))))] [(.int (j0_0 p0 p1))])) _
    exact retN X136 hx (t := .boolean) Bd.returns (by simp) (hb hby at_142) hr
  · show Q0 Z p0 p1 h0 n0 _ T136.heap _
    rw [e136]
    exact ⟨rfl, N136⟩
theorem law_one (p0 p1 : Int32) : (nar .boolean (j0_0 p0 p1)) = 1 := by
  have ha := own_w p0; have hb := own_w p1
  obtain ⟨a1, -, -⟩ := own_half ((1 : Int32) + (p0 &&& (63 : Int32))) (by omega) (by omega)
  obtain ⟨b1, -, -⟩ := own_half ((1 : Int32) + (p1 &&& (63 : Int32))) (by omega) (by omega)
  unfold j0_0
  rw [a1, b1, if_pos rfl, if_pos rfl]
  rfl
set_option maxRecDepth 65536 in
set_option maxHeartbeats 40000000 in
theorem comes_1 {Post : Tables → Env → Array Value → State → Outcome → State → Prop} (hpost : ∀ tb e args s v u, (limb_1_1.after args s (.returned v) u = true ∧ limb_1_2.after args s (.returned v) u = true ∧ True) → FrameEnd s (.returned v) u (Jvm.fieldLocs frame_1_writes args s ++ Jvm.arrayLocs frame_1_arrays args s ++ Jvm.staticLocs frame_1_statics s) 16 12416 → Post tb e args s (.returned v) u) :
    ArmFor flags0 classFile x code maxLocals ret World_1 tables_1 room_1 Calls_1 rest_1 Pre_1 Post := by
  intro l hfl _ _ p e ha hc hk s m args below hf hA hF happ hP
  obtain ⟨hcalls, hrest, hpre⟩ := hP
  obtain ⟨-, -, -, hnamed, -, -, -, hat⟩ := (Spec.applies_iff hf).mp happ
  obtain ⟨hg, hn⟩ := and_e (Cond.before_iff.mp (show (Jvm.Cond.and given_1 narrow_1).before args s = true from hpre))
  obtain ⟨hcount, r0⟩ := and_e hg
  obtain ⟨k0, r1⟩ := and_e r0
  have k1 := r1
  obtain ⟨w0, w1, rfl⟩ : ∃ w0 w1 : Value, args = #[w0, w1] := by
    have hs : args.size = 2 := by simpa [Cond.value, given_1] using hcount
    obtain ⟨L⟩ := args
    match L, hs with
    | [w0, w1], _ => exact ⟨w0, w1, rfl⟩
  have hw := fun d (hd : d ∈ tables_1) => atoms_spec (ws := Jvm.Cond.code x code maxLocals ret :: tables_1) hat d (List.mem_cons_of_mem _ hd)
  obtain ⟨i0, ei0⟩ := is_v k0
  obtain rfl : w0 = (.int i0) := Option.some.inj ei0
  obtain ⟨i1, ei1⟩ := is_v k1
  obtain rfl : w1 = (.int i1) := Option.some.inj ei1
  obtain ⟨n, o, h1, h2, h3, v, L, rfl, ⟨hv, N⟩, hq⟩ := rm0 l s _ hw tables_1 i0 i1 s.heap s.heap.size (Nat.le_refl _) p e ha hc hk s m _ below hf ((Spec.applies_iff_loose hf).mp happ).1 ⟨rfl, State.Warmed39.refl s, rfl⟩ trivial
  rw [law_one i0 i1] at hv
  subst hv
  refine ⟨n, _, h1, h2, h3, hpost _ _ _ _ _ _ ⟨Cond.after_iff.mpr rfl, Cond.after_iff.mpr (eq_i res_at (Term.int_eval (1)) rfl), trivial⟩ ⟨hq.1, hq.2.1, (hq.2.2.sift fun y hy => Or.inr (N y hy)).mono (by decide) (by decide)⟩⟩
theorem main_1_1 : Claimed_1_1 := comes_1 fun _ _ _ _ _ _ h hF => ⟨h.1, hF⟩
theorem main_1_2 : Claimed_1_2 := comes_1 fun _ _ _ _ _ _ h hF => ⟨h.2.1, hF⟩
end Jvm.Pilot.@@N@@
namespace Jvm.Pilot.@@N@@
open Jvm Jvm.ClassFile Sem Op Lib Jvm.Free Jvm.Stand Jvm.Pilot.@@N@@.Jvm.D
/-! MADE BY PROGRAM (witnessworld.py) out of the Statement's table words and the real class files: 9 classes; the members and pool entries that the words name. The judged class is class 1, her method 1. -/
namespace start1
open Jvm.ClassFile
def u (s : String) : CpInfo := .utf8 (stringToUtf16 s)
/-- a pool by its gaps: so many unusable entries, then the entry; so many at the end -/
def gap : Nat → List CpInfo → List CpInfo
  | 0, r => r
  | n + 1, r => .unusable :: gap n r
def poolList (es : List (Nat × CpInfo)) (last : Nat) : List CpInfo := es.foldr (fun e r => gap e.1 (e.2 :: r)) (gap last [])
def pool (es : List (Nat × CpInfo)) (last : Nat) : Array CpInfo := ⟨poolList es last⟩
def fileOf (pool : Array CpInfo) (this : Nat) (attrs : Array Attribute := #[]) (ms : Array MethodInfo := #[]) (fl : Nat := 33) (sup : Nat := 0) (ifs : Array Nat := #[]) (fds : Array FieldInfo := #[]) : ClassFile where
  minorVersion := 0
  majorVersion := 65
  constantPool := pool
  accessFlags := fl
  thisClass := this
  superClass := sup
  interfaces := ifs
  fields := fds
  methods := ms
  attributes := attrs
def plain (name : String) (sup : Option ClassId) : Class where
  name := name
  kind := .ordinary
  loader := none
  accessFlags := 33
  super := sup
  interfaces := #[]
  cf := none
  fields := #[]
  methods := #[]
  instanceTypes := #[]
  staticTypes := #[]
  resolved := #[]
  callSites := []
  init := .initialized
  statics := none
  mirror := none

def pool0 : Array CpInfo := pool [(5, u "<init>"), (0, u "()V"), (1, .class_ 10), (1, u "java/lang/Object")] 113

def k0c0 : Code := { maxStack := 0, maxLocals := 1, code := object_method_1_code, exceptionTable := #[], attributes := #[] }
def k0m0 : Method := { name := "<init>", desc := "()V", sig := { parameters := [], returnType := none }, accessFlags := 1, code := some k0c0 }
/-- java/lang/Object -/
def k0 : Class := { plain "java/lang/Object" none with
  accessFlags := 33
  interfaces := #[]
  cf := some (fileOf pool0 8 #[] #[{ accessFlags := 1, nameIndex := 5, descriptorIndex := 6, attributes := #[] }] 33 0 #[] #[])
  fields := #[]
  methods := #[k0m0]
  instanceTypes := #[]
  staticTypes := #[]
  resolved := Array.replicate 124 none
  statics := none }

def pool1 : Array CpInfo := pool [(2, .class_ 4), (1, u "java/lang/Object"), (0, u "<init>"), (0, u "()V"), (0, .methodref 8 9), (0, .class_ 10), (0, .nameAndType 11 12), (0, u "com/example/streamwarden/streamwarden/detect/Frame"), (0, u "byteCount"), (0, u "(II)I"), (0, .methodref 8 14), (0, .nameAndType 5 15), (0, u "(II[B)V"), (0, .methodref 8 17), (0, .nameAndType 18 19), (0, u "planeBounds"), (0, u "()[I"), (0, .methodref 8 21), (0, .nameAndType 22 23), (0, u "samples"), (0, u "()[B"), (0, .class_ 25), (0, u "com/example/streamwarden/streamwarden/detect/FramePlaneBoundsPinLaw"), (2, u "law"), (0, u "(II)Z")] 7

def k1m0 : Method := { name := "<init>", desc := "()V", sig := { parameters := [], returnType := none }, accessFlags := 1, code := none }
def k1c1 : Code := { maxStack := 5, maxLocals := 11, code := code, exceptionTable := #[], attributes := #[] }
def k1m1 : Method := { name := "law", desc := "(II)Z", sig := { parameters := [.int, .int], returnType := some .boolean }, accessFlags := 9, code := some k1c1 }
/-- com/example/streamwarden/streamwarden/detect/FramePlaneBoundsPinLaw -/
def k1 : Class := { plain "com/example/streamwarden/streamwarden/detect/FramePlaneBoundsPinLaw" (some 0) with
  accessFlags := 49
  interfaces := #[]
  cf := some (fileOf pool1 24 #[] #[{ accessFlags := 1, nameIndex := 5, descriptorIndex := 6, attributes := #[] }, { accessFlags := 9, nameIndex := 28, descriptorIndex := 29, attributes := #[] }] 49 2 #[] #[])
  fields := #[]
  methods := #[k1m0, k1m1]
  instanceTypes := #[]
  staticTypes := #[]
  resolved := Array.replicate 37 none
  statics := none }

def pool2 : Array CpInfo := pool [(1, .class_ 2), (0, u "com/example/streamwarden/streamwarden/detect/Frame"), (0, .methodref 4 5), (0, .class_ 6), (0, .nameAndType 7 8), (0, u "java/lang/Object"), (0, u "<init>"), (0, u "()V"), (0, .methodref 1 10), (0, .nameAndType 11 12), (0, u "byteCount"), (0, u "(II)I"), (9, .fieldref 1 23), (0, .nameAndType 24 25), (0, u "width"), (0, u "I"), (0, .fieldref 1 27), (0, .nameAndType 28 25), (0, u "height"), (0, .fieldref 1 30), (0, .nameAndType 31 32), (0, u "samples"), (0, u "[B"), (0, .methodref 1 34), (0, .nameAndType 35 36), (0, u "checkSize"), (0, u "(II)V"), (0, .methodref 1 38), (0, .nameAndType 39 12), (0, u "chromaSize"), (8, u "planeBounds"), (0, u "()[I"), (35, u "()[B"), (2, u "FULL_RANGE_CHROMA"), (2, u "FULL_RANGE_LUMA"), (104, .class_ 198), (1, u "com/example/streamwarden/streamwarden/detect/Frame$Spans"), (16, u "MAX_DIMENSION"), (2, u "RED_IN_LUMA"), (0, u "F"), (1, u "BLUE_IN_LUMA"), (1, u "GREEN_IN_LUMA"), (1, u "RED_FROM_V"), (0, u "BLUE_FROM_U"), (0, u "GREEN_FROM_U"), (0, u "GREEN_FROM_V"), (0, u "LUMA_GAIN"), (0, u "CHROMA_GAIN"), (0, u "JPEG_QUALITY"), (0, u "(II[B)V")] 38

def k2c0 : Code := { maxStack := 6, maxLocals := 4, code := prog_3_method_1_code, exceptionTable := #[], attributes := #[] }
def k2m0 : Method := { name := "<init>", desc := "(II[B)V", sig := { parameters := [.int, .int, (.array .byte)], returnType := none }, accessFlags := 1, code := some k2c0 }
def k2c1 : Code := { maxStack := 4, maxLocals := 2, code := prog_3_method_2_code, exceptionTable := #[], attributes := #[] }
def k2m1 : Method := { name := "byteCount", desc := "(II)I", sig := { parameters := [.int, .int], returnType := some .int }, accessFlags := 9, code := some k2c1 }
def k2c2 : Code := { maxStack := 1, maxLocals := 1, code := prog_3_method_6_code, exceptionTable := #[], attributes := #[] }
def k2m2 : Method := { name := "samples", desc := "()[B", sig := { parameters := [], returnType := some (.array .byte) }, accessFlags := 0, code := some k2c2 }
def k2c3 : Code := { maxStack := 6, maxLocals := 3, code := prog_3_method_7_code, exceptionTable := #[], attributes := #[] }
def k2m3 : Method := { name := "planeBounds", desc := "()[I", sig := { parameters := [], returnType := some (.array .int) }, accessFlags := 0, code := some k2c3 }
def k2c4 : Code := { maxStack := 4, maxLocals := 2, code := prog_3_method_10_code, exceptionTable := #[], attributes := #[] }
def k2m4 : Method := { name := "checkSize", desc := "(II)V", sig := { parameters := [.int, .int], returnType := none }, accessFlags := 10, code := some k2c4 }
def k2c5 : Code := { maxStack := 3, maxLocals := 2, code := prog_3_method_11_code, exceptionTable := #[], attributes := #[] }
def k2m5 : Method := { name := "chromaSize", desc := "(II)I", sig := { parameters := [.int, .int], returnType := some .int }, accessFlags := 10, code := some k2c5 }
/-- com/example/streamwarden/streamwarden/detect/Frame -/
def k2 : Class := { plain "com/example/streamwarden/streamwarden/detect/Frame" (some 0) with
  accessFlags := 49
  interfaces := #[]
  cf := some (fileOf pool2 1 #[.nestMembers #[196]] #[{ accessFlags := 1, nameIndex := 7, descriptorIndex := 232, attributes := #[] }, { accessFlags := 9, nameIndex := 11, descriptorIndex := 12, attributes := #[] }, { accessFlags := 0, nameIndex := 31, descriptorIndex := 85, attributes := #[] }, { accessFlags := 0, nameIndex := 48, descriptorIndex := 49, attributes := #[] }, { accessFlags := 10, nameIndex := 35, descriptorIndex := 36, attributes := #[] }, { accessFlags := 10, nameIndex := 39, descriptorIndex := 12, attributes := #[] }] 49 4 #[] #[{ accessFlags := 25, nameIndex := 215, descriptorIndex := 25, attributes := #[] }, { accessFlags := 26, nameIndex := 218, descriptorIndex := 219, attributes := #[] }, { accessFlags := 26, nameIndex := 221, descriptorIndex := 219, attributes := #[] }, { accessFlags := 26, nameIndex := 223, descriptorIndex := 219, attributes := #[] }, { accessFlags := 26, nameIndex := 225, descriptorIndex := 219, attributes := #[] }, { accessFlags := 26, nameIndex := 226, descriptorIndex := 219, attributes := #[] }, { accessFlags := 26, nameIndex := 227, descriptorIndex := 219, attributes := #[] }, { accessFlags := 26, nameIndex := 228, descriptorIndex := 219, attributes := #[] }, { accessFlags := 26, nameIndex := 229, descriptorIndex := 219, attributes := #[] }, { accessFlags := 26, nameIndex := 230, descriptorIndex := 219, attributes := #[] }, { accessFlags := 26, nameIndex := 91, descriptorIndex := 32, attributes := #[] }, { accessFlags := 26, nameIndex := 88, descriptorIndex := 32, attributes := #[] }, { accessFlags := 26, nameIndex := 231, descriptorIndex := 219, attributes := #[] }, { accessFlags := 18, nameIndex := 24, descriptorIndex := 25, attributes := #[] }, { accessFlags := 18, nameIndex := 28, descriptorIndex := 25, attributes := #[] }, { accessFlags := 18, nameIndex := 31, descriptorIndex := 32, attributes := #[] }])
  fields := #[{ name := "MAX_DIMENSION", type := .int, accessFlags := 25, slot := 0, constantValue := 0 }, { name := "RED_IN_LUMA", type := .float, accessFlags := 26, slot := 1, constantValue := 0 }, { name := "BLUE_IN_LUMA", type := .float, accessFlags := 26, slot := 2, constantValue := 0 }, { name := "GREEN_IN_LUMA", type := .float, accessFlags := 26, slot := 3, constantValue := 0 }, { name := "RED_FROM_V", type := .float, accessFlags := 26, slot := 4, constantValue := 0 }, { name := "BLUE_FROM_U", type := .float, accessFlags := 26, slot := 5, constantValue := 0 }, { name := "GREEN_FROM_U", type := .float, accessFlags := 26, slot := 6, constantValue := 0 }, { name := "GREEN_FROM_V", type := .float, accessFlags := 26, slot := 7, constantValue := 0 }, { name := "LUMA_GAIN", type := .float, accessFlags := 26, slot := 8, constantValue := 0 }, { name := "CHROMA_GAIN", type := .float, accessFlags := 26, slot := 9, constantValue := 0 }, { name := "FULL_RANGE_LUMA", type := (.array .byte), accessFlags := 26, slot := 10, constantValue := 0 }, { name := "FULL_RANGE_CHROMA", type := (.array .byte), accessFlags := 26, slot := 11, constantValue := 0 }, { name := "JPEG_QUALITY", type := .float, accessFlags := 26, slot := 12, constantValue := 0 }, { name := "width", type := .int, accessFlags := 18, slot := 0, constantValue := 0 }, { name := "height", type := .int, accessFlags := 18, slot := 1, constantValue := 0 }, { name := "samples", type := (.array .byte), accessFlags := 18, slot := 2, constantValue := 0 }]
  methods := #[k2m0, k2m1, k2m2, k2m3, k2m4, k2m5]
  instanceTypes := #[.int, .int, (.array .byte)]
  staticTypes := #[.int, .float, .float, .float, .float, .float, .float, .float, .float, .float, (.array .byte), (.array .byte), .float]
  resolved := Array.replicate 271 none
  statics := none }

def pool3 : Array CpInfo := pool [(1, u "java/lang/Cloneable"), (0, .class_ 1), (0, u "java/lang/Object"), (0, .class_ 3)] 3

/-- java/lang/Cloneable -/
def k3 : Class := { plain "java/lang/Cloneable" (some 0) with
  accessFlags := 1537
  interfaces := #[]
  cf := some (fileOf pool3 2 #[] #[] 1537 4 #[] #[])
  fields := #[]
  methods := #[]
  instanceTypes := #[]
  staticTypes := #[]
  resolved := Array.replicate 8 none
  statics := none }

def pool4 : Array CpInfo := pool [(1, u "java/io/Serializable"), (0, .class_ 1), (0, u "java/lang/Object"), (0, .class_ 3)] 3

/-- java/io/Serializable -/
def k4 : Class := { plain "java/io/Serializable" (some 0) with
  accessFlags := 1537
  interfaces := #[]
  cf := some (fileOf pool4 2 #[] #[] 1537 4 #[] #[])
  fields := #[]
  methods := #[]
  instanceTypes := #[]
  staticTypes := #[]
  resolved := Array.replicate 8 none
  statics := none }

/-- the primitive byte -/
def k5 : Class := { plain "byte" none with kind := .primitive 'B', accessFlags := 0x411 }
/-- [B -/
def k6 : Class := { plain "[B" (some 0) with kind := .array 5 .byte, interfaces := #[3, 4], accessFlags := 1041 }

/-- the primitive int -/
def k7 : Class := { plain "int" none with kind := .primitive 'I', accessFlags := 0x411 }
/-- [I -/
def k8 : Class := { plain "[I" (some 0) with kind := .array 7 .int, interfaces := #[3, 4], accessFlags := 1041 }

def heap : Heap := #[]
def classes : Array Class := #[k0, k1, k2, k3, k4, k5, k6, k7, k8]
def interned : List (Array UInt16 × Addr) := []
def slotsUsed : Nat := 0
def theMethod : MethodId := ⟨1, 1⟩
def args0 : Array Value := #[.int 5, .int 5]
def aboutOver (below : List Frame) : State where
  vm := { classes := classes, interned := interned.toArray }
  heap := heap
  slotsUsed := slotsUsed
  threads := #[{ frames := .invoking theMethod args0 :: below }]
def below0 : List Frame := [.native { method := ⟨0, 0⟩, args := #[] }]
def about1 : State := aboutOver below0
def p0 : Program := .bare "" "" ""
def e0 : Env := launch0.env 0 0 0
theorem w_frames : about1.frames = Frame.invoking theMethod args0 :: below0 := rfl
set_option maxRecDepth 65536 in
theorem w_args : argsFit about1.vm theMethod args0 = true := by decide +kernel
set_option maxRecDepth 65536 in
theorem w_heap : heapFits about1 = true := by decide +kernel
set_option maxRecDepth 65536 in
theorem w_runnable : about1.curStatus? = some .runnable := by decide +kernel
set_option maxRecDepth 65536 in
theorem w_alone : about1.alone = true := by decide +kernel
set_option maxRecDepth 65536 in
theorem w_named : about1.methodNamed? x = some theMethod := by decide +kernel
set_option maxRecDepth 65536 in
theorem w_hears : about1.hears theMethod below0 = true := by decide +kernel
set_option maxRecDepth 65536 in
theorem w_ripe : about1.ripe theMethod args0 below0 = true := by decide +kernel
theorem w_running : about1.status = .running := rfl
set_option maxRecDepth 65536 in
theorem w_room : about1.hasRoom e0.platform room_1 = true :=
  launch0.hasRoom_least _ room_1 (by decide +kernel) (by decide +kernel) (by decide +kernel) (by decide +kernel) (by decide +kernel) (by decide +kernel)
theorem allAtoms_all (ts : List Jvm.Cond) (a : Array Jvm.Value) (st : Jvm.State) : (allAtoms ts).before a st = ts.all (fun c => c.before a st) := by
  induction ts with
  | nil => rfl
  | cons c t ih =>
    show (Jvm.Cond.and c (allAtoms t)).before a st = _
    rw [Jvm.Cond.before_and, ih, List.all_cons]
def words1 : List Jvm.Cond := Jvm.Cond.code x code maxLocals ret :: tables_1
/-- a 'code' word, met by the world's own term for the bytes: nothing is compared byte by byte -/
theorem code_word {y : MethodName} {bytes : ByteArray} {mx : Nat} {rt : Option FieldType} {a : Array Value} {s : State} {m : MethodId} {meth : Method} {c : Code} (h1 : s.methodNamed? y = some m) (h2 : s.vm.method? m = some meth) (h3 : meth.code = some c) (h4 : c.code = bytes)
    (h5 : (c.maxLocals == mx && c.exceptionTable.isEmpty && decide (c.maxStack ≤ mostOperands) && decide (meth.sig.returnType = rt) && !meth.locks && decide (parseMethodDescriptor y.desc = some meth.sig)) = true) : (Jvm.Cond.code y bytes mx rt).before a s = true := by
  simp only [Bool.and_eq_true, beq_iff_eq, Bool.not_eq_true', decide_eq_true_eq] at h5
  obtain ⟨⟨⟨⟨⟨g1, g2⟩, g3⟩, g4⟩, g5⟩, g6⟩ := h5
  simp [Cond.before, Cond.holds, Cond.value, h1, h2, h3, h4, g1, g2, g3, g4, g5, g6]
def isCode : Jvm.Cond → Bool
  | .code _ _ _ _ => true
  | _ => false
theorem all_split {L : List Jvm.Cond} {P : Jvm.Cond → Bool} (h1 : L.all (fun c => isCode c || P c) = true) (h2 : ∀ c ∈ L.filter isCode, P c = true) : L.all P = true := by
  refine List.all_eq_true.mpr fun c hc => ?_
  have h := List.all_eq_true.mp h1 c hc
  rcases Bool.eq_false_or_eq_true (isCode c) with hi | hi
  · exact h2 c (List.mem_filter.mpr ⟨hc, hi⟩)
  · simpa [hi] using h
set_option maxRecDepth 65536 in
theorem w_c0 : (Jvm.Cond.code x code maxLocals ret).before args0 about1 = true := code_word (m := ⟨1, 1⟩) (meth := k1m1) (c := k1c1) (by decide +kernel) rfl rfl rfl (by decide +kernel)
set_option maxRecDepth 65536 in
theorem w_c1 : (Jvm.Cond.code ({ cls := "com/example/streamwarden/streamwarden/detect/Frame", name := "byteCount", desc := "(II)I" } : Jvm.MethodName) prog_3_method_2_code (2 : Nat) (Option.some Jvm.ClassFile.FieldType.int)).before args0 about1 = true := code_word (m := ⟨2, 1⟩) (meth := k2m1) (c := k2c1) (by decide +kernel) rfl rfl rfl (by decide +kernel)
set_option maxRecDepth 65536 in
theorem w_c2 : (Jvm.Cond.code ({ cls := "com/example/streamwarden/streamwarden/detect/Frame", name := "checkSize", desc := "(II)V" } : Jvm.MethodName) prog_3_method_10_code (2 : Nat) (Option.none : Option Jvm.ClassFile.FieldType)).before args0 about1 = true := code_word (m := ⟨2, 4⟩) (meth := k2m4) (c := k2c4) (by decide +kernel) rfl rfl rfl (by decide +kernel)
set_option maxRecDepth 65536 in
theorem w_c3 : (Jvm.Cond.code ({ cls := "com/example/streamwarden/streamwarden/detect/Frame", name := "chromaSize", desc := "(II)I" } : Jvm.MethodName) prog_3_method_11_code (2 : Nat) (Option.some Jvm.ClassFile.FieldType.int)).before args0 about1 = true := code_word (m := ⟨2, 5⟩) (meth := k2m5) (c := k2c5) (by decide +kernel) rfl rfl rfl (by decide +kernel)
set_option maxRecDepth 65536 in
theorem w_c4 : (Jvm.Cond.code ({ cls := "com/example/streamwarden/streamwarden/detect/Frame", name := "<init>", desc := "(II[B)V" } : Jvm.MethodName) prog_3_method_1_code (4 : Nat) (Option.none : Option Jvm.ClassFile.FieldType)).before args0 about1 = true := code_word (m := ⟨2, 0⟩) (meth := k2m0) (c := k2c0) (by decide +kernel) rfl rfl rfl (by decide +kernel)
set_option maxRecDepth 65536 in
theorem w_c5 : (Jvm.Cond.code ({ cls := "java/lang/Object", name := "<init>", desc := "()V" } : Jvm.MethodName) object_method_1_code (1 : Nat) (Option.none : Option Jvm.ClassFile.FieldType)).before args0 about1 = true := code_word (m := ⟨0, 0⟩) (meth := k0m0) (c := k0c0) (by decide +kernel) rfl rfl rfl (by decide +kernel)
set_option maxRecDepth 65536 in
theorem w_c6 : (Jvm.Cond.code ({ cls := "com/example/streamwarden/streamwarden/detect/Frame", name := "planeBounds", desc := "()[I" } : Jvm.MethodName) prog_3_method_7_code (3 : Nat) (Option.some (Jvm.ClassFile.FieldType.array Jvm.ClassFile.FieldType.int))).before args0 about1 = true := code_word (m := ⟨2, 3⟩) (meth := k2m3) (c := k2c3) (by decide +kernel) rfl rfl rfl (by decide +kernel)
set_option maxRecDepth 65536 in
theorem w_c7 : (Jvm.Cond.code ({ cls := "com/example/streamwarden/streamwarden/detect/Frame", name := "samples", desc := "()[B" } : Jvm.MethodName) prog_3_method_6_code (1 : Nat) (Option.some (Jvm.ClassFile.FieldType.array Jvm.ClassFile.FieldType.byte))).before args0 about1 = true := code_word (m := ⟨2, 2⟩) (meth := k2m2) (c := k2c2) (by decide +kernel) rfl rfl rfl (by decide +kernel)
def codes1 : List Jvm.Cond := [Jvm.Cond.code x code maxLocals ret, Jvm.Cond.code ({ cls := "com/example/streamwarden/streamwarden/detect/Frame", name := "byteCount", desc := "(II)I" } : Jvm.MethodName) prog_3_method_2_code (2 : Nat) (Option.some Jvm.ClassFile.FieldType.int), Jvm.Cond.code ({ cls := "com/example/streamwarden/streamwarden/detect/Frame", name := "checkSize", desc := "(II)V" } : Jvm.MethodName) prog_3_method_10_code (2 : Nat) (Option.none : Option Jvm.ClassFile.FieldType), Jvm.Cond.code ({ cls := "com/example/streamwarden/streamwarden/detect/Frame", name := "chromaSize", desc := "(II)I" } : Jvm.MethodName) prog_3_method_11_code (2 : Nat) (Option.some Jvm.ClassFile.FieldType.int), Jvm.Cond.code ({ cls := "com/example/streamwarden/streamwarden/detect/Frame", name := "<init>", desc := "(II[B)V" } : Jvm.MethodName) prog_3_method_1_code (4 : Nat) (Option.none : Option Jvm.ClassFile.FieldType), Jvm.Cond.code ({ cls := "java/lang/Object", name := "<init>", desc := "()V" } : Jvm.MethodName) object_method_1_code (1 : Nat) (Option.none : Option Jvm.ClassFile.FieldType), Jvm.Cond.code ({ cls := "com/example/streamwarden/streamwarden/detect/Frame", name := "planeBounds", desc := "()[I" } : Jvm.MethodName) prog_3_method_7_code (3 : Nat) (Option.some (Jvm.ClassFile.FieldType.array Jvm.ClassFile.FieldType.int)), Jvm.Cond.code ({ cls := "com/example/streamwarden/streamwarden/detect/Frame", name := "samples", desc := "()[B" } : Jvm.MethodName) prog_3_method_6_code (1 : Nat) (Option.some (Jvm.ClassFile.FieldType.array Jvm.ClassFile.FieldType.byte))]
set_option maxRecDepth 65536 in
theorem codes_eq : words1.filter isCode = codes1 := rfl
theorem w_codes : ∀ c ∈ words1.filter isCode, c.before args0 about1 = true := by
  rw [codes_eq]
  intro c hc
  simp only [codes1, List.mem_cons, List.not_mem_nil, or_false] at hc
  rcases hc with rfl | rfl | rfl | rfl | rfl | rfl | rfl | rfl
  · exact w_c0
  · exact w_c1
  · exact w_c2
  · exact w_c3
  · exact w_c4
  · exact w_c5
  · exact w_c6
  · exact w_c7
set_option maxRecDepth 65536 in
theorem w_t1 : (words1.take 24).all (fun c => isCode c || c.before args0 about1) = true := by decide +kernel
set_option maxRecDepth 65536 in
theorem w_t2 : (words1.drop 24).all (fun c => isCode c || c.before args0 about1) = true := by decide +kernel
theorem w_tables : (allAtoms (Jvm.Cond.code x code maxLocals ret :: tables_1)).before args0 about1 = true := by
  rw [allAtoms_all]
  show words1.all (fun c => c.before args0 about1) = true
  refine all_split ?_ w_codes
  rw [← List.take_append_drop 24 words1, List.all_append, w_t1, w_t2]
  rfl
set_option maxRecDepth 65536 in
theorem w_case : (Jvm.Cond.and given_1 narrow_1).before args0 about1 = true := by decide +kernel
theorem w_applies : (headSpec (Jvm.Cond.code x code maxLocals ret :: tables_1) room_1).applies x e0.platform about1 = true :=
  (Spec.applies_iff w_frames).mpr ⟨w_running, w_runnable, w_alone, w_named, w_hears, w_ripe, w_room, w_tables⟩
theorem atStart : AtStart classFile x code maxLocals ret World_1 tables_1 room_1 Calls_1 rest_1 Pre_1 launch0 p0 e0 about1 theMethod args0 below0 :=
  ⟨lists_1, trivial, launch0.admits_env _ _ _, launch0.least_env, fairChoices_fair.cas, fairChoices_fair.clock, w_frames, w_args, w_heap, w_applies, trivial, trivial, w_case⟩
end start1
theorem witness_1 : WitnessClaimed_1 := ⟨start1.p0, start1.e0, start1.about1, start1.theMethod, start1.args0, start1.below0, start1.atStart⟩
end Jvm.Pilot.@@N@@
