import JvmDerived
import JvmDerived.Pilot.@@N@@Statement
import JvmDerived.Pilot.@@N@@Code
set_option linter.unusedVariables false
set_option linter.unusedSimpArgs false
@@BLOCK:NumsL.lean.txt@@
namespace Jvm.Pilot.@@N@@
open Jvm Jvm.ClassFile Sem Op Lib Jvm.Free Jvm.Stand Jvm.LawKit Jvm.RoadKit Bundle Jvm.Pilot.@@N@@.Jvm.D
theorem own_m {Z : State} {aw : Array Value} (hw : ∀ d ∈ tables_1, d.before aw Z = true) (i : Nat) {d : Jvm.Cond} (h : tables_1[i]? = some d) : d.before aw Z = true := hw d (List.mem_of_getElem? h)
theorem own_tnc (x : Int32) : x.toNatClampNeg = x.toInt.toNat := rfl
theorem own_lc (x y : Int64) : lcmpW x y = if x > y then 1 else if x = y then 0 else -1 := rfl
theorem own_lt (x y : Int64) : lcmpW x y < 0 ↔ x < y := by
  rw [own_lc]; split
  · rename_i h; exact ⟨fun q => absurd q (by decide), fun q => absurd h (Int64.lt_asymm q)⟩
  · split
    · rename_i h1 h2; subst h2; exact ⟨fun q => absurd q (by decide), fun q => absurd q Int64.lt_irrefl⟩
    · rename_i h1 h2; exact ⟨fun _ => (Int64.lt_or_lt_of_ne h2).resolve_right h1, fun _ => by decide⟩
theorem own_gt (x y : Int64) : 0 < lcmpW x y ↔ y < x := by
  rw [own_lc]; split
  · rename_i h; exact ⟨fun _ => h, fun _ => by decide⟩
  · split
    · rename_i h1 h2; exact ⟨fun q => absurd q (by decide), fun q => absurd q h1⟩
    · rename_i h1 h2; exact ⟨fun q => absurd q (by decide), fun q => absurd q h1⟩
theorem own_eq (x y : Int64) : lcmpW x y = 0 ↔ x = y := by
  rw [own_lc]; split
  · rename_i h; exact ⟨fun q => absurd q (by decide), fun q => absurd (q ▸ h) Int64.lt_irrefl⟩
  · split
    · rename_i h1 h2; exact ⟨fun _ => h2, fun _ => rfl⟩
    · rename_i h1 h2; exact ⟨fun q => absurd q (by decide), fun q => absurd q h2⟩
theorem d2_0 : decode prog_3_method_10_code 0 = .ok (.iload_n 0, 1) := by decide +kernel
theorem d2_1 : decode prog_3_method_10_code 1 = .ok (.iconst 1, 1) := by decide +kernel
theorem d2_2 : decode prog_3_method_10_code 2 = .ok (.if_icmp .lt 22, 3) := by decide +kernel
theorem d2_5 : decode prog_3_method_10_code 5 = .ok (.iload_n 1, 1) := by decide +kernel
theorem d2_6 : decode prog_3_method_10_code 6 = .ok (.iconst 1, 1) := by decide +kernel
theorem d2_7 : decode prog_3_method_10_code 7 = .ok (.if_icmp .lt 17, 3) := by decide +kernel
theorem d2_10 : decode prog_3_method_10_code 10 = .ok (.iload_n 0, 1) := by decide +kernel
theorem d2_11 : decode prog_3_method_10_code 11 = .ok (.sipush 16384, 3) := by decide +kernel
theorem d2_14 : decode prog_3_method_10_code 14 = .ok (.if_icmp .gt 10, 3) := by decide +kernel
theorem d2_17 : decode prog_3_method_10_code 17 = .ok (.iload_n 1, 1) := by decide +kernel
theorem d2_18 : decode prog_3_method_10_code 18 = .ok (.sipush 16384, 3) := by decide +kernel
theorem d2_21 : decode prog_3_method_10_code 21 = .ok (.if_icmp .le 18, 3) := by decide +kernel
theorem d2_39 : decode prog_3_method_10_code 39 = .ok (.return_, 1) := by decide +kernel
theorem pn_1 : plainName "com/example/streamwarden/streamwarden/detect/Frame" = true := by first | (simp [plainName, overriddenIn]; done) | decide +kernel
theorem ef2 (m : MethodId) (x0 : Int32) (x1 : Int32) : entryFrame m #[(.int x0), (.int x1)] 2 = mkF m 0 #[.val (.int x0), .val (.int x1)] [] := by first | (simp [entryFrame, mkF, argsToLocals, Value.category]; done) | rfl
abbrev rr2 : Room := { frames := 0, cells := 0, slots := 0, locals := 0 }
def Q2 (Z : State) (p0 : Int32) (p1 : Int32) (h0 : Heap) (n0 : Nat) (v : Option Value) (h : Heap) (L : List Loc) : Prop := v = none ∧ Fr n0 L ∧ h = h0
set_option maxRecDepth 65536 in
set_option maxHeartbeats 40000000 in
theorem rm2 (l : Launch) (Z : State) (aw : Array Value) (hw : ∀ d ∈ tables_1, d.before aw Z = true) (ws : List Jvm.Cond) (p0 : Int32) (p1 : Int32) (h0 : Heap) (n0 : Nat) (Z0 : n0 ≤ h0.size) (c1 : ¬ p0 < (1 : Int32)) (c2 : ¬ p1 < (1 : Int32)) (c3 : ¬ (16384 : Int32) < p0) (c4 : ¬ (16384 : Int32) < p1) :
    MetFree l (⟨"com/example/streamwarden/streamwarden/detect/Frame", "checkSize", "(II)V"⟩ : MethodName) (head1 (Jvm.Cond.code (⟨"com/example/streamwarden/streamwarden/detect/Frame", "checkSize", "(II)V"⟩ : MethodName) prog_3_method_10_code 2 none :: ws) rr2) (fun a U => a = #[(.int p0), (.int p1)] ∧ Z.Warmed39 U.vm ∧ U.heap = h0) (fun _ _ _ _ _ => True) (fun _ U o U' => ∃ v L, o = .returned v ∧ Q2 Z p0 p1 h0 n0 v U'.heap L ∧ FrameEnd U o U' L rr2.cells rr2.slots) := by
  refine MetFree.of_bodySF (plainFor_of_name pn_1) hisR ?_
  intro p e s m args below meth c s₁ Bd hml0 hP hK
  obtain ⟨rfl, hZ, hh⟩ := hP
  have hx := Bd.exec
  have hby := Bd.bytes
  have hml : c.maxLocals = 2 := hml0
  have hown : s.vm.findClass "com/example/streamwarden/streamwarden/detect/Frame" = some m.cls := findClass_of_methodNamed Bd.named
  have hnm := (name_of_methodNamed Bd.named Bd.method).1
  have X0 : Stand p l e rr2 s m #[(.int p0), (.int p1)] below meth c s₁ [] 0 0 := Stand.of_body Bd
  have e0 : s₁.heap = h0 := by rw [← hh, Bd.state]; rfl
  have N0 := Fr.nil n0
  have pre0 : ∀ t, Steps p.tables e below (s₁.setTop (mkF m 0 #[.val (.int p0), .val (.int p1)] [])) t → Steps p.tables e below (s₁.setTop (entryFrame m #[(.int p0), (.int p1)] 2)) t := fun t k => castTop (ef2 m p0 p1) k
  obtain ⟨fs, hr, hrun, hended, hW, hsame⟩ := X0.leave (v := none) (fun _ => rfl)
  refine ⟨_, _, pre0 _ ?_, hrun, hended, _, _, rfl, ?_, ⟨_, rfl⟩, hW, hsame.mono (by decide) (by decide)⟩
  · skip
    show Steps p.tables e below (s₁.setTop (mkF m 0 #[.val (.int p0), .val (.int p1)] [])) _
    refine XS.iloadN X0.here hx rfl (hb hby d2_0) rfl ?_
    show Steps p.tables e below (s₁.setTop (mkF m 1 #[.val (.int p0), .val (.int p1)] [(.int p0)])) _
    refine XS.iconst X0.here hx rfl (hb hby d2_1) ?_
    show Steps p.tables e below (s₁.setTop (mkF m 2 #[.val (.int p0), .val (.int p1)] [(.int (1 : Int32)), (.int p0)])) _
    refine XS.icmpNo X0.here hx rfl (hb hby d2_2) rfl (flt c1).1 ?_
    show Steps p.tables e below (s₁.setTop (mkF m 5 #[.val (.int p0), .val (.int p1)] [])) _
    refine XS.iloadN X0.here hx rfl (hb hby d2_5) rfl ?_
    show Steps p.tables e below (s₁.setTop (mkF m 6 #[.val (.int p0), .val (.int p1)] [(.int p1)])) _
    refine XS.iconst X0.here hx rfl (hb hby d2_6) ?_
    show Steps p.tables e below (s₁.setTop (mkF m 7 #[.val (.int p0), .val (.int p1)] [(.int (1 : Int32)), (.int p1)])) _
    refine XS.icmpNo X0.here hx rfl (hb hby d2_7) rfl (flt c2).1 ?_
    show Steps p.tables e below (s₁.setTop (mkF m 10 #[.val (.int p0), .val (.int p1)] [])) _
    refine XS.iloadN X0.here hx rfl (hb hby d2_10) rfl ?_
    show Steps p.tables e below (s₁.setTop (mkF m 11 #[.val (.int p0), .val (.int p1)] [(.int p0)])) _
    refine XS.sipush X0.here hx rfl (hb hby d2_11) ?_
    show Steps p.tables e below (s₁.setTop (mkF m 14 #[.val (.int p0), .val (.int p1)] [(.int (16384 : Int32)), (.int p0)])) _
    refine XS.icmpNo X0.here hx rfl (hb hby d2_14) rfl (flt c3).2.2.1 ?_
    show Steps p.tables e below (s₁.setTop (mkF m 17 #[.val (.int p0), .val (.int p1)] [])) _
    refine XS.iloadN X0.here hx rfl (hb hby d2_17) rfl ?_
    show Steps p.tables e below (s₁.setTop (mkF m 18 #[.val (.int p0), .val (.int p1)] [(.int p1)])) _
    refine XS.sipush X0.here hx rfl (hb hby d2_18) ?_
    show Steps p.tables e below (s₁.setTop (mkF m 21 #[.val (.int p0), .val (.int p1)] [(.int (16384 : Int32)), (.int p1)])) _
    refine XS.icmpYes X0.here hx rfl (pc0 := 21) (pc' := 39) rfl (hb hby d2_21) rfl (flt c4).2.2.2 (by decide) (by decide) ?_
    show Steps p.tables e below (s₁.setTop (mkF m 39 #[.val (.int p0), .val (.int p1)] [])) _
    exact X0.returnOut hx Bd.returns (hb hby d2_39) hr
  · show Q2 Z p0 p1 h0 n0 _ s₁.heap _
    rw [e0]
    exact ⟨rfl, N0, rfl⟩
theorem d3_0 : decode prog_3_method_11_code 0 = .ok (.iload_n 0, 1) := by decide +kernel
theorem d3_1 : decode prog_3_method_11_code 1 = .ok (.iconst 1, 1) := by decide +kernel
theorem d3_2 : decode prog_3_method_11_code 2 = .ok (.iadd, 1) := by decide +kernel
theorem d3_3 : decode prog_3_method_11_code 3 = .ok (.iconst 2, 1) := by decide +kernel
theorem d3_4 : decode prog_3_method_11_code 4 = .ok (.idiv, 1) := by decide +kernel
theorem d3_5 : decode prog_3_method_11_code 5 = .ok (.iload_n 1, 1) := by decide +kernel
theorem d3_6 : decode prog_3_method_11_code 6 = .ok (.iconst 1, 1) := by decide +kernel
theorem d3_7 : decode prog_3_method_11_code 7 = .ok (.iadd, 1) := by decide +kernel
theorem d3_8 : decode prog_3_method_11_code 8 = .ok (.iconst 2, 1) := by decide +kernel
theorem d3_9 : decode prog_3_method_11_code 9 = .ok (.idiv, 1) := by decide +kernel
theorem d3_10 : decode prog_3_method_11_code 10 = .ok (.imul, 1) := by decide +kernel
theorem d3_11 : decode prog_3_method_11_code 11 = .ok (.ireturn, 1) := by decide +kernel
theorem ef3 (m : MethodId) (x0 : Int32) (x1 : Int32) : entryFrame m #[(.int x0), (.int x1)] 2 = mkF m 0 #[.val (.int x0), .val (.int x1)] [] := by first | (simp [entryFrame, mkF, argsToLocals, Value.category]; done) | rfl
abbrev rr3 : Room := { frames := 0, cells := 0, slots := 0, locals := 0 }
def Q3 (Z : State) (p0 : Int32) (p1 : Int32) (h0 : Heap) (n0 : Nat) (v : Option Value) (h : Heap) (L : List Loc) : Prop := v = some (.int (((p0 + (1 : Int32)) / (2 : Int32)) * ((p1 + (1 : Int32)) / (2 : Int32)))) ∧ Fr n0 L ∧ h = h0
set_option maxRecDepth 65536 in
set_option maxHeartbeats 40000000 in
theorem rm3 (l : Launch) (Z : State) (aw : Array Value) (hw : ∀ d ∈ tables_1, d.before aw Z = true) (ws : List Jvm.Cond) (p0 : Int32) (p1 : Int32) (h0 : Heap) (n0 : Nat) (Z0 : n0 ≤ h0.size)  :
    MetFree l (⟨"com/example/streamwarden/streamwarden/detect/Frame", "chromaSize", "(II)I"⟩ : MethodName) (head1 (Jvm.Cond.code (⟨"com/example/streamwarden/streamwarden/detect/Frame", "chromaSize", "(II)I"⟩ : MethodName) prog_3_method_11_code 2 (some .int) :: ws) rr3) (fun a U => a = #[(.int p0), (.int p1)] ∧ Z.Warmed39 U.vm ∧ U.heap = h0) (fun _ _ _ _ _ => True) (fun _ U o U' => ∃ v L, o = .returned v ∧ Q3 Z p0 p1 h0 n0 v U'.heap L ∧ FrameEnd U o U' L rr3.cells rr3.slots) := by
  refine MetFree.of_bodySF (plainFor_of_name pn_1) hisR ?_
  intro p e s m args below meth c s₁ Bd hml0 hP hK
  obtain ⟨rfl, hZ, hh⟩ := hP
  have hx := Bd.exec
  have hby := Bd.bytes
  have hml : c.maxLocals = 2 := hml0
  have hown : s.vm.findClass "com/example/streamwarden/streamwarden/detect/Frame" = some m.cls := findClass_of_methodNamed Bd.named
  have hnm := (name_of_methodNamed Bd.named Bd.method).1
  have X0 : Stand p l e rr3 s m #[(.int p0), (.int p1)] below meth c s₁ [] 0 0 := Stand.of_body Bd
  have e0 : s₁.heap = h0 := by rw [← hh, Bd.state]; rfl
  have N0 := Fr.nil n0
  have pre0 : ∀ t, Steps p.tables e below (s₁.setTop (mkF m 0 #[.val (.int p0), .val (.int p1)] [])) t → Steps p.tables e below (s₁.setTop (entryFrame m #[(.int p0), (.int p1)] 2)) t := fun t k => castTop (ef3 m p0 p1) k
  obtain ⟨fs, hr, hrun, hended, hW, hsame⟩ := X0.leave (v := some (.int (((p0 + (1 : Int32)) / (2 : Int32)) * ((p1 + (1 : Int32)) / (2 : Int32))))) (fun h => by rw [Bd.returns] at h; cases h)
  refine ⟨_, _, pre0 _ ?_, hrun, hended, _, _, rfl, ?_, ⟨_, rfl⟩, hW, hsame.mono (by decide) (by decide)⟩
  · skip
    show Steps p.tables e below (s₁.setTop (mkF m 0 #[.val (.int p0), .val (.int p1)] [])) _
    refine XS.iloadN X0.here hx rfl (hb hby d3_0) rfl ?_
    show Steps p.tables e below (s₁.setTop (mkF m 1 #[.val (.int p0), .val (.int p1)] [(.int p0)])) _
    refine XS.iconst X0.here hx rfl (hb hby d3_1) ?_
    show Steps p.tables e below (s₁.setTop (mkF m 2 #[.val (.int p0), .val (.int p1)] [(.int (1 : Int32)), (.int p0)])) _
    refine XS.iadd X0.here hx rfl (hb hby d3_2) rfl ?_
    show Steps p.tables e below (s₁.setTop (mkF m 3 #[.val (.int p0), .val (.int p1)] [(.int (p0 + (1 : Int32)))])) _
    refine XS.iconst X0.here hx rfl (hb hby d3_3) ?_
    show Steps p.tables e below (s₁.setTop (mkF m 4 #[.val (.int p0), .val (.int p1)] [(.int (2 : Int32)), (.int (p0 + (1 : Int32)))])) _
    refine XS.idiv X0.here hx rfl (hb hby d3_4) rfl (by decide) ?_
    show Steps p.tables e below (s₁.setTop (mkF m 5 #[.val (.int p0), .val (.int p1)] [(.int ((p0 + (1 : Int32)) / (2 : Int32)))])) _
    refine XS.iloadN X0.here hx rfl (hb hby d3_5) rfl ?_
    show Steps p.tables e below (s₁.setTop (mkF m 6 #[.val (.int p0), .val (.int p1)] [(.int p1), (.int ((p0 + (1 : Int32)) / (2 : Int32)))])) _
    refine XS.iconst X0.here hx rfl (hb hby d3_6) ?_
    show Steps p.tables e below (s₁.setTop (mkF m 7 #[.val (.int p0), .val (.int p1)] [(.int (1 : Int32)), (.int p1), (.int ((p0 + (1 : Int32)) / (2 : Int32)))])) _
    refine XS.iadd X0.here hx rfl (hb hby d3_7) rfl ?_
    show Steps p.tables e below (s₁.setTop (mkF m 8 #[.val (.int p0), .val (.int p1)] [(.int (p1 + (1 : Int32))), (.int ((p0 + (1 : Int32)) / (2 : Int32)))])) _
    refine XS.iconst X0.here hx rfl (hb hby d3_8) ?_
    show Steps p.tables e below (s₁.setTop (mkF m 9 #[.val (.int p0), .val (.int p1)] [(.int (2 : Int32)), (.int (p1 + (1 : Int32))), (.int ((p0 + (1 : Int32)) / (2 : Int32)))])) _
    refine XS.idiv X0.here hx rfl (hb hby d3_9) rfl (by decide) ?_
    show Steps p.tables e below (s₁.setTop (mkF m 10 #[.val (.int p0), .val (.int p1)] [(.int ((p1 + (1 : Int32)) / (2 : Int32))), (.int ((p0 + (1 : Int32)) / (2 : Int32)))])) _
    refine XS.imul X0.here hx rfl (hb hby d3_10) rfl ?_
    show Steps p.tables e below (s₁.setTop (mkF m 11 #[.val (.int p0), .val (.int p1)] [(.int (((p0 + (1 : Int32)) / (2 : Int32)) * ((p1 + (1 : Int32)) / (2 : Int32))))])) _
    exact retOut X0 hx Bd.returns rfl (Or.inl ⟨rfl, Or.inl rfl, _, rfl⟩) (hb hby d3_11) hr
  · show Q3 Z p0 p1 h0 n0 _ s₁.heap _
    rw [e0]
    exact ⟨rfl, N0, rfl⟩
theorem d1_0 : decode prog_3_method_2_code 0 = .ok (.iload_n 0, 1) := by decide +kernel
theorem d1_1 : decode prog_3_method_2_code 1 = .ok (.iload_n 1, 1) := by decide +kernel
theorem pd_1 : parseMethodDescriptor "(II)V" = some ⟨[.int, .int], none⟩ := by decide +kernel
theorem d1_2 : decode prog_3_method_2_code 2 = .ok (.invokestatic 33, 3) := by decide +kernel
theorem d1_5 : decode prog_3_method_2_code 5 = .ok (.iload_n 0, 1) := by decide +kernel
theorem d1_6 : decode prog_3_method_2_code 6 = .ok (.iload_n 1, 1) := by decide +kernel
theorem d1_7 : decode prog_3_method_2_code 7 = .ok (.imul, 1) := by decide +kernel
theorem d1_8 : decode prog_3_method_2_code 8 = .ok (.iconst 2, 1) := by decide +kernel
theorem d1_9 : decode prog_3_method_2_code 9 = .ok (.iload_n 0, 1) := by decide +kernel
theorem d1_10 : decode prog_3_method_2_code 10 = .ok (.iload_n 1, 1) := by decide +kernel
theorem pd_2 : parseMethodDescriptor "(II)I" = some ⟨[.int, .int], some .int⟩ := by decide +kernel
theorem d1_11 : decode prog_3_method_2_code 11 = .ok (.invokestatic 37, 3) := by decide +kernel
theorem d1_14 : decode prog_3_method_2_code 14 = .ok (.imul, 1) := by decide +kernel
theorem d1_15 : decode prog_3_method_2_code 15 = .ok (.iadd, 1) := by decide +kernel
theorem d1_16 : decode prog_3_method_2_code 16 = .ok (.ireturn, 1) := by decide +kernel
theorem ef1 (m : MethodId) (x0 : Int32) (x1 : Int32) : entryFrame m #[(.int x0), (.int x1)] 2 = mkF m 0 #[.val (.int x0), .val (.int x1)] [] := by first | (simp [entryFrame, mkF, argsToLocals, Value.category]; done) | rfl
abbrev rr1 : Room := { frames := 1, cells := 0, slots := 0, locals := 15 }
def Q1 (Z : State) (p0 : Int32) (p1 : Int32) (h0 : Heap) (n0 : Nat) (v : Option Value) (h : Heap) (L : List Loc) : Prop := v = some (.int ((p0 * p1) + ((2 : Int32) * (((p0 + (1 : Int32)) / (2 : Int32)) * ((p1 + (1 : Int32)) / (2 : Int32)))))) ∧ Fr n0 L ∧ h = h0
set_option maxRecDepth 65536 in
set_option maxHeartbeats 40000000 in
theorem rm1 (l : Launch) (Z : State) (aw : Array Value) (hw : ∀ d ∈ tables_1, d.before aw Z = true) (ws : List Jvm.Cond) (p0 : Int32) (p1 : Int32) (h0 : Heap) (n0 : Nat) (Z0 : n0 ≤ h0.size) (c1 : ¬ p0 < (1 : Int32)) (c2 : ¬ p1 < (1 : Int32)) (c3 : ¬ (16384 : Int32) < p0) (c4 : ¬ (16384 : Int32) < p1) :
    MetFree l (⟨"com/example/streamwarden/streamwarden/detect/Frame", "byteCount", "(II)I"⟩ : MethodName) (head1 (Jvm.Cond.code (⟨"com/example/streamwarden/streamwarden/detect/Frame", "byteCount", "(II)I"⟩ : MethodName) prog_3_method_2_code 2 (some .int) :: ws) rr1) (fun a U => a = #[(.int p0), (.int p1)] ∧ Z.Warmed39 U.vm ∧ U.heap = h0) (fun _ _ _ _ _ => True) (fun _ U o U' => ∃ v L, o = .returned v ∧ Q1 Z p0 p1 h0 n0 v U'.heap L ∧ FrameEnd U o U' L rr1.cells rr1.slots) := by
  refine MetFree.of_bodySF (plainFor_of_name pn_1) hisR ?_
  intro p e s m args below meth c s₁ Bd hml0 hP hK
  obtain ⟨rfl, hZ, hh⟩ := hP
  have hx := Bd.exec
  have hby := Bd.bytes
  have hml : c.maxLocals = 2 := hml0
  have hown : s.vm.findClass "com/example/streamwarden/streamwarden/detect/Frame" = some m.cls := findClass_of_methodNamed Bd.named
  have hnm := (name_of_methodNamed Bd.named Bd.method).1
  have X0 : Stand p l e rr1 s m #[(.int p0), (.int p1)] below meth c s₁ [] 0 0 := Stand.of_body Bd
  have e0 : s₁.heap = h0 := by rw [← hh, Bd.state]; rfl
  have N0 := Fr.nil n0
  have pre0 : ∀ t, Steps p.tables e below (s₁.setTop (mkF m 0 #[.val (.int p0), .val (.int p1)] [])) t → Steps p.tables e below (s₁.setTop (entryFrame m #[(.int p0), (.int p1)] 2)) t := fun t k => castTop (ef1 m p0 p1) k
  obtain ⟨_, _, ⟨T1, L1, k1, n1⟩, -, X1, ⟨Lc1, hQ1, l1, y1, z1⟩, st1⟩ := Jvm.LawKit.callS X0 hx (y := (⟨"com/example/streamwarden/streamwarden/detect/Frame", "checkSize", "(II)V"⟩ : MethodName)) hown (mvT hZ (hw _ (List.mem_of_getElem? (i := 5) rfl))) (mvT hZ (hw _ (List.mem_of_getElem? (i := 6) rfl))) (mvT hZ (hw _ (List.mem_of_getElem? (i := 3) rfl))) (mvT hZ (hw _ (List.mem_of_getElem? (i := 7) rfl))) (by decide) (backOf (W := 0) (rm2 l Z aw hw [] p0 p1 h0 n0 Z0 c1 c2 c3 c4) hZ (hw _ (List.mem_of_getElem? (i := 7) rfl)) (hw _ (List.mem_of_getElem? (i := 3) rfl)) (by decide) (by decide)) (g := (mkF m 2 #[.val (.int p0), .val (.int p1)] [(.int p1), (.int p0)])) rfl (by rw [hml]; rfl) (argsL := [(.int p0), (.int p1)]) (rest := []) (lenOf pd_1 rfl) rfl (by show 2 * 0 + _ ≤ _; exact Nat.le_of_eq rfl) (hb hby d1_2) (fun _ _ => ⟨rfl, e0, (by decide : 0 + 0 ≤ _), (by decide : 0 + 0 ≤ _)⟩)
  dsimp only [Pt.U, Pt.locs, Pt.cells, Pt.slots] at X1 l1 y1 z1 st1 hQ1
  subst l1 y1 z1
  obtain ⟨rfl, N1q, e1⟩ := hQ1
  have N1 := Fr.app N0 N1q
  obtain ⟨_, _, ⟨T2, L2, k2, n2⟩, -, X2, ⟨Lc2, hQ2, l2, y2, z2⟩, st2⟩ := Jvm.LawKit.callS X1 hx (y := (⟨"com/example/streamwarden/streamwarden/detect/Frame", "chromaSize", "(II)I"⟩ : MethodName)) hown (mvT hZ (hw _ (List.mem_of_getElem? (i := 8) rfl))) (mvT hZ (hw _ (List.mem_of_getElem? (i := 9) rfl))) (mvT hZ (hw _ (List.mem_of_getElem? (i := 3) rfl))) (mvT hZ (hw _ (List.mem_of_getElem? (i := 10) rfl))) (by decide) (backOf (W := 2) (rm3 l Z aw hw [] p0 p1 h0 n0 Z0 ) hZ (hw _ (List.mem_of_getElem? (i := 10) rfl)) (hw _ (List.mem_of_getElem? (i := 3) rfl)) (by decide) (by decide)) (g := (mkF m 11 #[.val (.int p0), .val (.int p1)] [(.int p1), (.int p0), (.int (2 : Int32)), (.int (p0 * p1))])) rfl (by rw [hml]; rfl) (argsL := [(.int p0), (.int p1)]) (rest := [(.int (2 : Int32)), (.int (p0 * p1))]) (lenOf pd_2 rfl) rfl (by show 2 * 0 + _ ≤ _; exact Nat.le_of_eq rfl) (hb hby d1_11) (fun _ _ => ⟨rfl, e1, (by decide : 0 + 0 ≤ _), (by decide : 0 + 0 ≤ _)⟩)
  dsimp only [Pt.U, Pt.locs, Pt.cells, Pt.slots] at X2 l2 y2 z2 st2 hQ2
  subst l2 y2 z2
  obtain ⟨rfl, N2q, e2⟩ := hQ2
  have N2 := Fr.app N1 N2q
  obtain ⟨fs, hr, hrun, hended, hW, hsame⟩ := X2.leave (v := some (.int ((p0 * p1) + ((2 : Int32) * (((p0 + (1 : Int32)) / (2 : Int32)) * ((p1 + (1 : Int32)) / (2 : Int32))))))) (fun h => by rw [Bd.returns] at h; cases h)
  refine ⟨_, _, pre0 _ ?_, hrun, hended, _, _, rfl, ?_, ⟨_, rfl⟩, hW, hsame.mono (by decide) (by decide)⟩
  · skip
    show Steps p.tables e below (s₁.setTop (mkF m 0 #[.val (.int p0), .val (.int p1)] [])) _
    refine XS.iloadN X0.here hx rfl (hb hby d1_0) rfl ?_
    show Steps p.tables e below (s₁.setTop (mkF m 1 #[.val (.int p0), .val (.int p1)] [(.int p0)])) _
    refine XS.iloadN X0.here hx rfl (hb hby d1_1) rfl ?_
    show Steps p.tables e below (s₁.setTop (mkF m 2 #[.val (.int p0), .val (.int p1)] [(.int p1), (.int p0)])) _
    refine st1 _ ?_
    show Steps p.tables e below (T1.setTop (mkF m 5 #[.val (.int p0), .val (.int p1)] [])) _
    refine XS.iloadN X1.here hx rfl (hb hby d1_5) rfl ?_
    show Steps p.tables e below (T1.setTop (mkF m 6 #[.val (.int p0), .val (.int p1)] [(.int p0)])) _
    refine XS.iloadN X1.here hx rfl (hb hby d1_6) rfl ?_
    show Steps p.tables e below (T1.setTop (mkF m 7 #[.val (.int p0), .val (.int p1)] [(.int p1), (.int p0)])) _
    refine XS.imul X1.here hx rfl (hb hby d1_7) rfl ?_
    show Steps p.tables e below (T1.setTop (mkF m 8 #[.val (.int p0), .val (.int p1)] [(.int (p0 * p1))])) _
    refine XS.iconst X1.here hx rfl (hb hby d1_8) ?_
    show Steps p.tables e below (T1.setTop (mkF m 9 #[.val (.int p0), .val (.int p1)] [(.int (2 : Int32)), (.int (p0 * p1))])) _
    refine XS.iloadN X1.here hx rfl (hb hby d1_9) rfl ?_
    show Steps p.tables e below (T1.setTop (mkF m 10 #[.val (.int p0), .val (.int p1)] [(.int p0), (.int (2 : Int32)), (.int (p0 * p1))])) _
    refine XS.iloadN X1.here hx rfl (hb hby d1_10) rfl ?_
    show Steps p.tables e below (T1.setTop (mkF m 11 #[.val (.int p0), .val (.int p1)] [(.int p1), (.int p0), (.int (2 : Int32)), (.int (p0 * p1))])) _
    refine st2 _ ?_
    show Steps p.tables e below (T2.setTop (mkF m 14 #[.val (.int p0), .val (.int p1)] [(.int (((p0 + (1 : Int32)) / (2 : Int32)) * ((p1 + (1 : Int32)) / (2 : Int32)))), (.int (2 : Int32)), (.int (p0 * p1))])) _
    refine XS.imul X2.here hx rfl (hb hby d1_14) rfl ?_
    show Steps p.tables e below (T2.setTop (mkF m 15 #[.val (.int p0), .val (.int p1)] [(.int ((2 : Int32) * (((p0 + (1 : Int32)) / (2 : Int32)) * ((p1 + (1 : Int32)) / (2 : Int32))))), (.int (p0 * p1))])) _
    refine XS.iadd X2.here hx rfl (hb hby d1_15) rfl ?_
    show Steps p.tables e below (T2.setTop (mkF m 16 #[.val (.int p0), .val (.int p1)] [(.int ((p0 * p1) + ((2 : Int32) * (((p0 + (1 : Int32)) / (2 : Int32)) * ((p1 + (1 : Int32)) / (2 : Int32))))))])) _
    exact retOut X2 hx Bd.returns rfl (Or.inl ⟨rfl, Or.inl rfl, _, rfl⟩) (hb hby d1_16) hr
  · show Q1 Z p0 p1 h0 n0 _ T2.heap _
    rw [e2]
    exact ⟨rfl, N2, rfl⟩
theorem own_w (a : Int32) : ((a &&& (16383 : Int32)) + (1 : Int32)).toInt = a.toInt % 2 ^ 14 + 1 := by
  have e : (a &&& (16383 : Int32)).toInt = a.toInt % 2 ^ 14 := Jvm.Kit.i32_mask a 16383 (k := 14) (by decide) (by decide)
  have o : (1 : Int32).toInt = 1 := rfl
  rw [Jvm.Kit.i32_add] <;> rw [e, o] <;> omega
theorem own_wb (a : Int32) : ¬ ((a &&& (16383 : Int32)) + (1 : Int32)) < (1 : Int32) ∧ ¬ (16384 : Int32) < ((a &&& (16383 : Int32)) + (1 : Int32)) := by
  have o : (1 : Int32).toInt = 1 := rfl
  have o' : (16384 : Int32).toInt = 16384 := rfl
  rw [Int32.lt_iff_toInt_lt, Int32.lt_iff_toInt_lt, own_w, o, o']; omega
theorem own_half (w : Int32) (h1 : 1 ≤ w.toInt) (h2 : w.toInt ≤ 16384) : (w + (1 : Int32)) / (2 : Int32) = w - (w >>> ((1 : Int32) &&& 31)) ∧ 0 ≤ (w - (w >>> ((1 : Int32) &&& 31))).toInt ∧ (w - (w >>> ((1 : Int32) &&& 31))).toInt ≤ 8192 := by
  have o : (1 : Int32).toInt = 1 := rfl
  have t : (2 : Int32).toInt = 2 := rfl
  have e1 : (w + (1 : Int32)).toInt = w.toInt + 1 := by rw [Jvm.Kit.i32_add] <;> rw [o] <;> omega
  have e2 : (w >>> ((1 : Int32) &&& 31)).toInt = w.toInt / 2 ^ 1 := Jvm.Kit.i32_shr w _ (by decide)
  have e3 : (w - (w >>> ((1 : Int32) &&& 31))).toInt = w.toInt - w.toInt / 2 ^ 1 := by rw [Jvm.Kit.i32_sub] <;> rw [e2] <;> omega
  refine ⟨?_, by omega, by omega⟩
  rw [← Int32.toInt_inj, e3, Jvm.Kit.i32_div (by rw [t]; omega), e1, t, Int.tdiv_eq_ediv_of_nonneg (by omega)]
  omega
theorem own_law (w h : Int32) (h1 : 1 ≤ w.toInt) (h2 : w.toInt ≤ 16384) (h3 : 1 ≤ h.toInt) (h4 : h.toInt ≤ 16384) :
    (w * h + (2 : Int32) * (((w + (1 : Int32)) / (2 : Int32)) * ((h + (1 : Int32)) / (2 : Int32)))).toInt64 = (w.toInt64 * h.toInt64) + (((2 : Int64) * (w - (w >>> ((1 : Int32) &&& 31))).toInt64) * (h - (h >>> ((1 : Int32) &&& 31))).toInt64) := by
  obtain ⟨a1, a2, a3⟩ := own_half w h1 h2
  obtain ⟨b1, b2, b3⟩ := own_half h h3 h4
  rw [a1, b1]
  generalize w - (w >>> ((1 : Int32) &&& 31)) = x at *
  generalize h - (h >>> ((1 : Int32) &&& 31)) = y at *
  have c1 : 0 ≤ w.toInt * h.toInt := Int.mul_nonneg (by omega) (by omega)
  have c2 : w.toInt * h.toInt ≤ 16384 * 16384 := Int.mul_le_mul h2 h4 (by omega) (by omega)
  have c3 : 0 ≤ x.toInt * y.toInt := Int.mul_nonneg (by omega) (by omega)
  have c4 : x.toInt * y.toInt ≤ 8192 * 8192 := Int.mul_le_mul a3 b3 (by omega) (by omega)
  have t : (2 : Int32).toInt = 2 := rfl
  have t6 : (2 : Int64).toInt = 2 := rfl
  have e1 : (w * h).toInt = w.toInt * h.toInt := Jvm.Kit.i32_mul (by omega) (by omega)
  have e2 : (x * y).toInt = x.toInt * y.toInt := Jvm.Kit.i32_mul (by omega) (by omega)
  have e3 : ((2 : Int32) * (x * y)).toInt = 2 * (x.toInt * y.toInt) := by rw [Jvm.Kit.i32_mul] <;> rw [e2, t] <;> omega
  have e4 : (w * h + (2 : Int32) * (x * y)).toInt = w.toInt * h.toInt + 2 * (x.toInt * y.toInt) := by rw [Jvm.Kit.i32_add] <;> rw [e1, e3] <;> omega
  have f1 : (w.toInt64 * h.toInt64).toInt = w.toInt * h.toInt := by rw [Jvm.Kit.i64_mul] <;> rw [Jvm.Kit.i64_of_i32, Jvm.Kit.i64_of_i32] <;> omega
  have f2 : ((2 : Int64) * x.toInt64).toInt = 2 * x.toInt := by rw [Jvm.Kit.i64_mul] <;> rw [Jvm.Kit.i64_of_i32, t6] <;> omega
  have f3 : (((2 : Int64) * x.toInt64) * y.toInt64).toInt = 2 * (x.toInt * y.toInt) := by rw [Jvm.Kit.i64_mul] <;> rw [f2, Jvm.Kit.i64_of_i32, Int.mul_assoc] <;> omega
  rw [← Int64.toInt_inj, Jvm.Kit.i64_of_i32, e4, Jvm.Kit.i64_add] <;> rw [f1, f3] <;> omega
def j0_0 (p0 : Int32) (p1 : Int32) : Int32 := (if (((((p0 &&& (16383 : Int32)) + (1 : Int32)) * ((p1 &&& (16383 : Int32)) + (1 : Int32))) + ((2 : Int32) * (((((p0 &&& (16383 : Int32)) + (1 : Int32)) + (1 : Int32)) / (2 : Int32)) * ((((p1 &&& (16383 : Int32)) + (1 : Int32)) + (1 : Int32)) / (2 : Int32))))).toInt64) = (((((p0 &&& (16383 : Int32)) + (1 : Int32)).toInt64) * (((p1 &&& (16383 : Int32)) + (1 : Int32)).toInt64)) + (((2 : Int64) * ((((p0 &&& (16383 : Int32)) + (1 : Int32)) - (((p0 &&& (16383 : Int32)) + (1 : Int32)) >>> ((1 : Int32) &&& 31))).toInt64)) * ((((p1 &&& (16383 : Int32)) + (1 : Int32)) - (((p1 &&& (16383 : Int32)) + (1 : Int32)) >>> ((1 : Int32) &&& 31))).toInt64))) then (1 : Int32) else (0 : Int32))
theorem pn_2 : plainName "com/example/streamwarden/streamwarden/detect/FrameByteCountPinLaw" = true := by first | (simp [plainName, overriddenIn]; done) | decide +kernel
theorem ef0 (m : MethodId) (x0 : Int32) (x1 : Int32) : entryFrame m #[(.int x0), (.int x1)] maxLocals = mkF m 0 #[.val (.int x0), .val (.int x1), .unset, .unset, .unset, .unset, .unset, .unset, .unset, .unset] [] := by first | (simp [entryFrame, mkF, argsToLocals, Value.category, maxLocals]; done) | rfl
def Q0 (Z : State) (p0 : Int32) (p1 : Int32) (h0 : Heap) (n0 : Nat) (v : Option Value) (h : Heap) (L : List Loc) : Prop := v = some (.int (nar .boolean (j0_0 p0 p1))) ∧ Fr n0 L
set_option maxRecDepth 65536 in
set_option maxHeartbeats 40000000 in
theorem rm0 (l : Launch) (Z : State) (aw : Array Value) (hw : ∀ d ∈ tables_1, d.before aw Z = true) (ws : List Jvm.Cond) (p0 : Int32) (p1 : Int32) (h0 : Heap) (n0 : Nat) (Z0 : n0 ≤ h0.size)  :
    MetFree l x (head1 (Jvm.Cond.code x code maxLocals ret :: ws) room_1) (fun a U => a = #[(.int p0), (.int p1)] ∧ Z.Warmed39 U.vm ∧ U.heap = h0) (fun _ _ _ _ _ => True) (fun _ U o U' => ∃ v L, o = .returned v ∧ Q0 Z p0 p1 h0 n0 v U'.heap L ∧ FrameEnd U o U' L room_1.cells room_1.slots) := by
  refine MetFree.of_bodySF (plainFor_of_name pn_2) hisR ?_
  intro p e s m args below meth c s₁ Bd hml0 hP hK
  obtain ⟨rfl, hZ, hh⟩ := hP
  have hx := Bd.exec
  have hby := Bd.bytes
  have hml : c.maxLocals = 10 := hml0
  have hown : s.vm.findClass "com/example/streamwarden/streamwarden/detect/FrameByteCountPinLaw" = some m.cls := findClass_of_methodNamed Bd.named
  have hnm := (name_of_methodNamed Bd.named Bd.method).1
  have X0 : Stand p l e room_1 s m #[(.int p0), (.int p1)] below meth c s₁ [] 0 0 := Stand.of_body Bd
  have e0 : s₁.heap = h0 := by rw [← hh, Bd.state]; rfl
  have N0 := Fr.nil n0
  have pre0 : ∀ t, Steps p.tables e below (s₁.setTop (mkF m 0 #[.val (.int p0), .val (.int p1), .unset, .unset, .unset, .unset, .unset, .unset, .unset, .unset] [])) t → Steps p.tables e below (s₁.setTop (entryFrame m #[(.int p0), (.int p1)] maxLocals)) t := fun t k => castTop (ef0 m p0 p1) k
  obtain ⟨_, _, ⟨T3, L3, k3, n3⟩, -, X3, ⟨Lc3, hQ3, l3, y3, z3⟩, st3⟩ := Jvm.LawKit.callS X0 hx (y := (⟨"com/example/streamwarden/streamwarden/detect/Frame", "byteCount", "(II)I"⟩ : MethodName)) hown (mvT hZ (hw _ (List.mem_of_getElem? (i := 1) rfl))) (mvT hZ (hw _ (List.mem_of_getElem? (i := 2) rfl))) (mvT hZ (hw _ (List.mem_of_getElem? (i := 3) rfl))) (mvT hZ (hw _ (List.mem_of_getElem? (i := 4) rfl))) (by decide) (backOf (W := 0) (rm1 l Z aw hw [] (((p0 &&& (16383 : Int32)) + (1 : Int32))) (((p1 &&& (16383 : Int32)) + (1 : Int32))) h0 n0 Z0 (own_wb p0).1 (own_wb p1).1 (own_wb p0).2 (own_wb p1).2) hZ (hw _ (List.mem_of_getElem? (i := 4) rfl)) (hw _ (List.mem_of_getElem? (i := 3) rfl)) (by decide) (by decide)) (g := (mkF m 51 #[.val (.int p0), .val (.int p1), .val (.int ((p0 &&& (16383 : Int32)) + (1 : Int32))), .val (.int ((p1 &&& (16383 : Int32)) + (1 : Int32))), .val (.long ((((p0 &&& (16383 : Int32)) + (1 : Int32)) - (((p0 &&& (16383 : Int32)) + (1 : Int32)) >>> ((1 : Int32) &&& 31))).toInt64)), .second, .val (.long ((((p1 &&& (16383 : Int32)) + (1 : Int32)) - (((p1 &&& (16383 : Int32)) + (1 : Int32)) >>> ((1 : Int32) &&& 31))).toInt64)), .second, .val (.long (((((p0 &&& (16383 : Int32)) + (1 : Int32)).toInt64) * (((p1 &&& (16383 : Int32)) + (1 : Int32)).toInt64)) + (((2 : Int64) * ((((p0 &&& (16383 : Int32)) + (1 : Int32)) - (((p0 &&& (16383 : Int32)) + (1 : Int32)) >>> ((1 : Int32) &&& 31))).toInt64)) * ((((p1 &&& (16383 : Int32)) + (1 : Int32)) - (((p1 &&& (16383 : Int32)) + (1 : Int32)) >>> ((1 : Int32) &&& 31))).toInt64)))), .second] [(.int ((p1 &&& (16383 : Int32)) + (1 : Int32))), (.int ((p0 &&& (16383 : Int32)) + (1 : Int32)))])) rfl (by rw [hml]; rfl) (argsL := [(.int ((p0 &&& (16383 : Int32)) + (1 : Int32))), (.int ((p1 &&& (16383 : Int32)) + (1 : Int32)))]) (rest := []) (lenOf pd_2 rfl) rfl (by show 2 * 0 + _ ≤ _; exact Nat.le_of_eq rfl) (hb hby at_51) (fun _ _ => ⟨rfl, e0, (by decide : 0 + 0 ≤ _), (by decide : 0 + 0 ≤ _)⟩)
  dsimp only [Pt.U, Pt.locs, Pt.cells, Pt.slots] at X3 l3 y3 z3 st3 hQ3
  subst l3 y3 z3
  obtain ⟨rfl, N3q, e3⟩ := hQ3
  have N3 := Fr.app N0 N3q
  have pre4 := fun (t : State) (k : Steps p.tables e below (T3.setTop (mkF m 58 #[.val (.int p0), .val (.int p1), .val (.int ((p0 &&& (16383 : Int32)) + (1 : Int32))), .val (.int ((p1 &&& (16383 : Int32)) + (1 : Int32))), .val (.long ((((p0 &&& (16383 : Int32)) + (1 : Int32)) - (((p0 &&& (16383 : Int32)) + (1 : Int32)) >>> ((1 : Int32) &&& 31))).toInt64)), .second, .val (.long ((((p1 &&& (16383 : Int32)) + (1 : Int32)) - (((p1 &&& (16383 : Int32)) + (1 : Int32)) >>> ((1 : Int32) &&& 31))).toInt64)), .second, .val (.long (((((p0 &&& (16383 : Int32)) + (1 : Int32)).toInt64) * (((p1 &&& (16383 : Int32)) + (1 : Int32)).toInt64)) + (((2 : Int64) * ((((p0 &&& (16383 : Int32)) + (1 : Int32)) - (((p0 &&& (16383 : Int32)) + (1 : Int32)) >>> ((1 : Int32) &&& 31))).toInt64)) * ((((p1 &&& (16383 : Int32)) + (1 : Int32)) - (((p1 &&& (16383 : Int32)) + (1 : Int32)) >>> ((1 : Int32) &&& 31))).toInt64)))), .second] [(.int (lcmpW (((((p0 &&& (16383 : Int32)) + (1 : Int32)) * ((p1 &&& (16383 : Int32)) + (1 : Int32))) + ((2 : Int32) * (((((p0 &&& (16383 : Int32)) + (1 : Int32)) + (1 : Int32)) / (2 : Int32)) * ((((p1 &&& (16383 : Int32)) + (1 : Int32)) + (1 : Int32)) / (2 : Int32))))).toInt64) (((((p0 &&& (16383 : Int32)) + (1 : Int32)).toInt64) * (((p1 &&& (16383 : Int32)) + (1 : Int32)).toInt64)) + (((2 : Int64) * ((((p0 &&& (16383 : Int32)) + (1 : Int32)) - (((p0 &&& (16383 : Int32)) + (1 : Int32)) >>> ((1 : Int32) &&& 31))).toInt64)) * ((((p1 &&& (16383 : Int32)) + (1 : Int32)) - (((p1 &&& (16383 : Int32)) + (1 : Int32)) >>> ((1 : Int32) &&& 31))).toInt64)))))])) t) => pre0 t (by
    show Steps p.tables e below (s₁.setTop (mkF m 0 #[.val (.int p0), .val (.int p1), .unset, .unset, .unset, .unset, .unset, .unset, .unset, .unset] [])) _
    refine XS.iloadN X0.here hx rfl (hb hby at_0) rfl ?_
    show Steps p.tables e below (s₁.setTop (mkF m 1 #[.val (.int p0), .val (.int p1), .unset, .unset, .unset, .unset, .unset, .unset, .unset, .unset] [(.int p0)])) _
    refine XS.sipush X0.here hx rfl (hb hby at_1) ?_
    show Steps p.tables e below (s₁.setTop (mkF m 4 #[.val (.int p0), .val (.int p1), .unset, .unset, .unset, .unset, .unset, .unset, .unset, .unset] [(.int (16383 : Int32)), (.int p0)])) _
    refine XS.iand X0.here hx rfl (hb hby at_4) rfl ?_
    show Steps p.tables e below (s₁.setTop (mkF m 5 #[.val (.int p0), .val (.int p1), .unset, .unset, .unset, .unset, .unset, .unset, .unset, .unset] [(.int (p0 &&& (16383 : Int32)))])) _
    refine XS.iconst X0.here hx rfl (hb hby at_5) ?_
    show Steps p.tables e below (s₁.setTop (mkF m 6 #[.val (.int p0), .val (.int p1), .unset, .unset, .unset, .unset, .unset, .unset, .unset, .unset] [(.int (1 : Int32)), (.int (p0 &&& (16383 : Int32)))])) _
    refine XS.iadd X0.here hx rfl (hb hby at_6) rfl ?_
    show Steps p.tables e below (s₁.setTop (mkF m 7 #[.val (.int p0), .val (.int p1), .unset, .unset, .unset, .unset, .unset, .unset, .unset, .unset] [(.int ((p0 &&& (16383 : Int32)) + (1 : Int32)))])) _
    refine XS.istoreN X0.here hx rfl (hb hby at_7) rfl (l' := #[.val (.int p0), .val (.int p1), .val (.int ((p0 &&& (16383 : Int32)) + (1 : Int32))), .unset, .unset, .unset, .unset, .unset, .unset, .unset]) rfl ?_
    show Steps p.tables e below (s₁.setTop (mkF m 8 #[.val (.int p0), .val (.int p1), .val (.int ((p0 &&& (16383 : Int32)) + (1 : Int32))), .unset, .unset, .unset, .unset, .unset, .unset, .unset] [])) _
    refine XS.iloadN X0.here hx rfl (hb hby at_8) rfl ?_
    show Steps p.tables e below (s₁.setTop (mkF m 9 #[.val (.int p0), .val (.int p1), .val (.int ((p0 &&& (16383 : Int32)) + (1 : Int32))), .unset, .unset, .unset, .unset, .unset, .unset, .unset] [(.int p1)])) _
    refine XS.sipush X0.here hx rfl (hb hby at_9) ?_
    show Steps p.tables e below (s₁.setTop (mkF m 12 #[.val (.int p0), .val (.int p1), .val (.int ((p0 &&& (16383 : Int32)) + (1 : Int32))), .unset, .unset, .unset, .unset, .unset, .unset, .unset] [(.int (16383 : Int32)), (.int p1)])) _
    refine XS.iand X0.here hx rfl (hb hby at_12) rfl ?_
    show Steps p.tables e below (s₁.setTop (mkF m 13 #[.val (.int p0), .val (.int p1), .val (.int ((p0 &&& (16383 : Int32)) + (1 : Int32))), .unset, .unset, .unset, .unset, .unset, .unset, .unset] [(.int (p1 &&& (16383 : Int32)))])) _
    refine XS.iconst X0.here hx rfl (hb hby at_13) ?_
    show Steps p.tables e below (s₁.setTop (mkF m 14 #[.val (.int p0), .val (.int p1), .val (.int ((p0 &&& (16383 : Int32)) + (1 : Int32))), .unset, .unset, .unset, .unset, .unset, .unset, .unset] [(.int (1 : Int32)), (.int (p1 &&& (16383 : Int32)))])) _
    refine XS.iadd X0.here hx rfl (hb hby at_14) rfl ?_
    show Steps p.tables e below (s₁.setTop (mkF m 15 #[.val (.int p0), .val (.int p1), .val (.int ((p0 &&& (16383 : Int32)) + (1 : Int32))), .unset, .unset, .unset, .unset, .unset, .unset, .unset] [(.int ((p1 &&& (16383 : Int32)) + (1 : Int32)))])) _
    refine XS.istoreN X0.here hx rfl (hb hby at_15) rfl (l' := #[.val (.int p0), .val (.int p1), .val (.int ((p0 &&& (16383 : Int32)) + (1 : Int32))), .val (.int ((p1 &&& (16383 : Int32)) + (1 : Int32))), .unset, .unset, .unset, .unset, .unset, .unset]) rfl ?_
    show Steps p.tables e below (s₁.setTop (mkF m 16 #[.val (.int p0), .val (.int p1), .val (.int ((p0 &&& (16383 : Int32)) + (1 : Int32))), .val (.int ((p1 &&& (16383 : Int32)) + (1 : Int32))), .unset, .unset, .unset, .unset, .unset, .unset] [])) _
    refine XS.iloadN X0.here hx rfl (hb hby at_16) rfl ?_
    show Steps p.tables e below (s₁.setTop (mkF m 17 #[.val (.int p0), .val (.int p1), .val (.int ((p0 &&& (16383 : Int32)) + (1 : Int32))), .val (.int ((p1 &&& (16383 : Int32)) + (1 : Int32))), .unset, .unset, .unset, .unset, .unset, .unset] [(.int ((p0 &&& (16383 : Int32)) + (1 : Int32)))])) _
    refine XS.iloadN X0.here hx rfl (hb hby at_17) rfl ?_
    show Steps p.tables e below (s₁.setTop (mkF m 18 #[.val (.int p0), .val (.int p1), .val (.int ((p0 &&& (16383 : Int32)) + (1 : Int32))), .val (.int ((p1 &&& (16383 : Int32)) + (1 : Int32))), .unset, .unset, .unset, .unset, .unset, .unset] [(.int ((p0 &&& (16383 : Int32)) + (1 : Int32))), (.int ((p0 &&& (16383 : Int32)) + (1 : Int32)))])) _
    refine XS.iconst X0.here hx rfl (hb hby at_18) ?_
    show Steps p.tables e below (s₁.setTop (mkF m 19 #[.val (.int p0), .val (.int p1), .val (.int ((p0 &&& (16383 : Int32)) + (1 : Int32))), .val (.int ((p1 &&& (16383 : Int32)) + (1 : Int32))), .unset, .unset, .unset, .unset, .unset, .unset] [(.int (1 : Int32)), (.int ((p0 &&& (16383 : Int32)) + (1 : Int32))), (.int ((p0 &&& (16383 : Int32)) + (1 : Int32)))])) _
    refine XS.ishr X0.here hx rfl (hb hby at_19) rfl ?_
    show Steps p.tables e below (s₁.setTop (mkF m 20 #[.val (.int p0), .val (.int p1), .val (.int ((p0 &&& (16383 : Int32)) + (1 : Int32))), .val (.int ((p1 &&& (16383 : Int32)) + (1 : Int32))), .unset, .unset, .unset, .unset, .unset, .unset] [(.int (((p0 &&& (16383 : Int32)) + (1 : Int32)) >>> ((1 : Int32) &&& 31))), (.int ((p0 &&& (16383 : Int32)) + (1 : Int32)))])) _
    refine XS.isub X0.here hx rfl (hb hby at_20) rfl ?_
    show Steps p.tables e below (s₁.setTop (mkF m 21 #[.val (.int p0), .val (.int p1), .val (.int ((p0 &&& (16383 : Int32)) + (1 : Int32))), .val (.int ((p1 &&& (16383 : Int32)) + (1 : Int32))), .unset, .unset, .unset, .unset, .unset, .unset] [(.int (((p0 &&& (16383 : Int32)) + (1 : Int32)) - (((p0 &&& (16383 : Int32)) + (1 : Int32)) >>> ((1 : Int32) &&& 31))))])) _
    refine XS.i2l X0.here hx rfl (hb hby at_21) rfl ?_
    show Steps p.tables e below (s₁.setTop (mkF m 22 #[.val (.int p0), .val (.int p1), .val (.int ((p0 &&& (16383 : Int32)) + (1 : Int32))), .val (.int ((p1 &&& (16383 : Int32)) + (1 : Int32))), .unset, .unset, .unset, .unset, .unset, .unset] [(.long ((((p0 &&& (16383 : Int32)) + (1 : Int32)) - (((p0 &&& (16383 : Int32)) + (1 : Int32)) >>> ((1 : Int32) &&& 31))).toInt64))])) _
    refine XS.lstore X0.here hx rfl (hb hby at_22) rfl (l' := #[.val (.int p0), .val (.int p1), .val (.int ((p0 &&& (16383 : Int32)) + (1 : Int32))), .val (.int ((p1 &&& (16383 : Int32)) + (1 : Int32))), .val (.long ((((p0 &&& (16383 : Int32)) + (1 : Int32)) - (((p0 &&& (16383 : Int32)) + (1 : Int32)) >>> ((1 : Int32) &&& 31))).toInt64)), .second, .unset, .unset, .unset, .unset]) rfl ?_
    show Steps p.tables e below (s₁.setTop (mkF m 24 #[.val (.int p0), .val (.int p1), .val (.int ((p0 &&& (16383 : Int32)) + (1 : Int32))), .val (.int ((p1 &&& (16383 : Int32)) + (1 : Int32))), .val (.long ((((p0 &&& (16383 : Int32)) + (1 : Int32)) - (((p0 &&& (16383 : Int32)) + (1 : Int32)) >>> ((1 : Int32) &&& 31))).toInt64)), .second, .unset, .unset, .unset, .unset] [])) _
    refine XS.iloadN X0.here hx rfl (hb hby at_24) rfl ?_
    show Steps p.tables e below (s₁.setTop (mkF m 25 #[.val (.int p0), .val (.int p1), .val (.int ((p0 &&& (16383 : Int32)) + (1 : Int32))), .val (.int ((p1 &&& (16383 : Int32)) + (1 : Int32))), .val (.long ((((p0 &&& (16383 : Int32)) + (1 : Int32)) - (((p0 &&& (16383 : Int32)) + (1 : Int32)) >>> ((1 : Int32) &&& 31))).toInt64)), .second, .unset, .unset, .unset, .unset] [(.int ((p1 &&& (16383 : Int32)) + (1 : Int32)))])) _
    refine XS.iloadN X0.here hx rfl (hb hby at_25) rfl ?_
    show Steps p.tables e below (s₁.setTop (mkF m 26 #[.val (.int p0), .val (.int p1), .val (.int ((p0 &&& (16383 : Int32)) + (1 : Int32))), .val (.int ((p1 &&& (16383 : Int32)) + (1 : Int32))), .val (.long ((((p0 &&& (16383 : Int32)) + (1 : Int32)) - (((p0 &&& (16383 : Int32)) + (1 : Int32)) >>> ((1 : Int32) &&& 31))).toInt64)), .second, .unset, .unset, .unset, .unset] [(.int ((p1 &&& (16383 : Int32)) + (1 : Int32))), (.int ((p1 &&& (16383 : Int32)) + (1 : Int32)))])) _
    refine XS.iconst X0.here hx rfl (hb hby at_26) ?_
    show Steps p.tables e below (s₁.setTop (mkF m 27 #[.val (.int p0), .val (.int p1), .val (.int ((p0 &&& (16383 : Int32)) + (1 : Int32))), .val (.int ((p1 &&& (16383 : Int32)) + (1 : Int32))), .val (.long ((((p0 &&& (16383 : Int32)) + (1 : Int32)) - (((p0 &&& (16383 : Int32)) + (1 : Int32)) >>> ((1 : Int32) &&& 31))).toInt64)), .second, .unset, .unset, .unset, .unset] [(.int (1 : Int32)), (.int ((p1 &&& (16383 : Int32)) + (1 : Int32))), (.int ((p1 &&& (16383 : Int32)) + (1 : Int32)))])) _
    refine XS.ishr X0.here hx rfl (hb hby at_27) rfl ?_
    show Steps p.tables e below (s₁.setTop (mkF m 28 #[.val (.int p0), .val (.int p1), .val (.int ((p0 &&& (16383 : Int32)) + (1 : Int32))), .val (.int ((p1 &&& (16383 : Int32)) + (1 : Int32))), .val (.long ((((p0 &&& (16383 : Int32)) + (1 : Int32)) - (((p0 &&& (16383 : Int32)) + (1 : Int32)) >>> ((1 : Int32) &&& 31))).toInt64)), .second, .unset, .unset, .unset, .unset] [(.int (((p1 &&& (16383 : Int32)) + (1 : Int32)) >>> ((1 : Int32) &&& 31))), (.int ((p1 &&& (16383 : Int32)) + (1 : Int32)))])) _
    refine XS.isub X0.here hx rfl (hb hby at_28) rfl ?_
    show Steps p.tables e below (s₁.setTop (mkF m 29 #[.val (.int p0), .val (.int p1), .val (.int ((p0 &&& (16383 : Int32)) + (1 : Int32))), .val (.int ((p1 &&& (16383 : Int32)) + (1 : Int32))), .val (.long ((((p0 &&& (16383 : Int32)) + (1 : Int32)) - (((p0 &&& (16383 : Int32)) + (1 : Int32)) >>> ((1 : Int32) &&& 31))).toInt64)), .second, .unset, .unset, .unset, .unset] [(.int (((p1 &&& (16383 : Int32)) + (1 : Int32)) - (((p1 &&& (16383 : Int32)) + (1 : Int32)) >>> ((1 : Int32) &&& 31))))])) _
    refine XS.i2l X0.here hx rfl (hb hby at_29) rfl ?_
    show Steps p.tables e below (s₁.setTop (mkF m 30 #[.val (.int p0), .val (.int p1), .val (.int ((p0 &&& (16383 : Int32)) + (1 : Int32))), .val (.int ((p1 &&& (16383 : Int32)) + (1 : Int32))), .val (.long ((((p0 &&& (16383 : Int32)) + (1 : Int32)) - (((p0 &&& (16383 : Int32)) + (1 : Int32)) >>> ((1 : Int32) &&& 31))).toInt64)), .second, .unset, .unset, .unset, .unset] [(.long ((((p1 &&& (16383 : Int32)) + (1 : Int32)) - (((p1 &&& (16383 : Int32)) + (1 : Int32)) >>> ((1 : Int32) &&& 31))).toInt64))])) _
    refine XS.lstore X0.here hx rfl (hb hby at_30) rfl (l' := #[.val (.int p0), .val (.int p1), .val (.int ((p0 &&& (16383 : Int32)) + (1 : Int32))), .val (.int ((p1 &&& (16383 : Int32)) + (1 : Int32))), .val (.long ((((p0 &&& (16383 : Int32)) + (1 : Int32)) - (((p0 &&& (16383 : Int32)) + (1 : Int32)) >>> ((1 : Int32) &&& 31))).toInt64)), .second, .val (.long ((((p1 &&& (16383 : Int32)) + (1 : Int32)) - (((p1 &&& (16383 : Int32)) + (1 : Int32)) >>> ((1 : Int32) &&& 31))).toInt64)), .second, .unset, .unset]) rfl ?_
    show Steps p.tables e below (s₁.setTop (mkF m 32 #[.val (.int p0), .val (.int p1), .val (.int ((p0 &&& (16383 : Int32)) + (1 : Int32))), .val (.int ((p1 &&& (16383 : Int32)) + (1 : Int32))), .val (.long ((((p0 &&& (16383 : Int32)) + (1 : Int32)) - (((p0 &&& (16383 : Int32)) + (1 : Int32)) >>> ((1 : Int32) &&& 31))).toInt64)), .second, .val (.long ((((p1 &&& (16383 : Int32)) + (1 : Int32)) - (((p1 &&& (16383 : Int32)) + (1 : Int32)) >>> ((1 : Int32) &&& 31))).toInt64)), .second, .unset, .unset] [])) _
    refine XS.iloadN X0.here hx rfl (hb hby at_32) rfl ?_
    show Steps p.tables e below (s₁.setTop (mkF m 33 #[.val (.int p0), .val (.int p1), .val (.int ((p0 &&& (16383 : Int32)) + (1 : Int32))), .val (.int ((p1 &&& (16383 : Int32)) + (1 : Int32))), .val (.long ((((p0 &&& (16383 : Int32)) + (1 : Int32)) - (((p0 &&& (16383 : Int32)) + (1 : Int32)) >>> ((1 : Int32) &&& 31))).toInt64)), .second, .val (.long ((((p1 &&& (16383 : Int32)) + (1 : Int32)) - (((p1 &&& (16383 : Int32)) + (1 : Int32)) >>> ((1 : Int32) &&& 31))).toInt64)), .second, .unset, .unset] [(.int ((p0 &&& (16383 : Int32)) + (1 : Int32)))])) _
    refine XS.i2l X0.here hx rfl (hb hby at_33) rfl ?_
    show Steps p.tables e below (s₁.setTop (mkF m 34 #[.val (.int p0), .val (.int p1), .val (.int ((p0 &&& (16383 : Int32)) + (1 : Int32))), .val (.int ((p1 &&& (16383 : Int32)) + (1 : Int32))), .val (.long ((((p0 &&& (16383 : Int32)) + (1 : Int32)) - (((p0 &&& (16383 : Int32)) + (1 : Int32)) >>> ((1 : Int32) &&& 31))).toInt64)), .second, .val (.long ((((p1 &&& (16383 : Int32)) + (1 : Int32)) - (((p1 &&& (16383 : Int32)) + (1 : Int32)) >>> ((1 : Int32) &&& 31))).toInt64)), .second, .unset, .unset] [(.long (((p0 &&& (16383 : Int32)) + (1 : Int32)).toInt64))])) _
    refine XS.iloadN X0.here hx rfl (hb hby at_34) rfl ?_
    show Steps p.tables e below (s₁.setTop (mkF m 35 #[.val (.int p0), .val (.int p1), .val (.int ((p0 &&& (16383 : Int32)) + (1 : Int32))), .val (.int ((p1 &&& (16383 : Int32)) + (1 : Int32))), .val (.long ((((p0 &&& (16383 : Int32)) + (1 : Int32)) - (((p0 &&& (16383 : Int32)) + (1 : Int32)) >>> ((1 : Int32) &&& 31))).toInt64)), .second, .val (.long ((((p1 &&& (16383 : Int32)) + (1 : Int32)) - (((p1 &&& (16383 : Int32)) + (1 : Int32)) >>> ((1 : Int32) &&& 31))).toInt64)), .second, .unset, .unset] [(.int ((p1 &&& (16383 : Int32)) + (1 : Int32))), (.long (((p0 &&& (16383 : Int32)) + (1 : Int32)).toInt64))])) _
    refine XS.i2l X0.here hx rfl (hb hby at_35) rfl ?_
    show Steps p.tables e below (s₁.setTop (mkF m 36 #[.val (.int p0), .val (.int p1), .val (.int ((p0 &&& (16383 : Int32)) + (1 : Int32))), .val (.int ((p1 &&& (16383 : Int32)) + (1 : Int32))), .val (.long ((((p0 &&& (16383 : Int32)) + (1 : Int32)) - (((p0 &&& (16383 : Int32)) + (1 : Int32)) >>> ((1 : Int32) &&& 31))).toInt64)), .second, .val (.long ((((p1 &&& (16383 : Int32)) + (1 : Int32)) - (((p1 &&& (16383 : Int32)) + (1 : Int32)) >>> ((1 : Int32) &&& 31))).toInt64)), .second, .unset, .unset] [(.long (((p1 &&& (16383 : Int32)) + (1 : Int32)).toInt64)), (.long (((p0 &&& (16383 : Int32)) + (1 : Int32)).toInt64))])) _
    refine XS.lmul X0.here hx rfl (hb hby at_36) rfl ?_
    show Steps p.tables e below (s₁.setTop (mkF m 37 #[.val (.int p0), .val (.int p1), .val (.int ((p0 &&& (16383 : Int32)) + (1 : Int32))), .val (.int ((p1 &&& (16383 : Int32)) + (1 : Int32))), .val (.long ((((p0 &&& (16383 : Int32)) + (1 : Int32)) - (((p0 &&& (16383 : Int32)) + (1 : Int32)) >>> ((1 : Int32) &&& 31))).toInt64)), .second, .val (.long ((((p1 &&& (16383 : Int32)) + (1 : Int32)) - (((p1 &&& (16383 : Int32)) + (1 : Int32)) >>> ((1 : Int32) &&& 31))).toInt64)), .second, .unset, .unset] [(.long ((((p0 &&& (16383 : Int32)) + (1 : Int32)).toInt64) * (((p1 &&& (16383 : Int32)) + (1 : Int32)).toInt64)))])) _
    refine X0.ldc2Long hx hown (mvT hZ (hw _ (List.mem_of_getElem? (i := 0) rfl))) (g := (mkF m 37 #[.val (.int p0), .val (.int p1), .val (.int ((p0 &&& (16383 : Int32)) + (1 : Int32))), .val (.int ((p1 &&& (16383 : Int32)) + (1 : Int32))), .val (.long ((((p0 &&& (16383 : Int32)) + (1 : Int32)) - (((p0 &&& (16383 : Int32)) + (1 : Int32)) >>> ((1 : Int32) &&& 31))).toInt64)), .second, .val (.long ((((p1 &&& (16383 : Int32)) + (1 : Int32)) - (((p1 &&& (16383 : Int32)) + (1 : Int32)) >>> ((1 : Int32) &&& 31))).toInt64)), .second, .unset, .unset] [(.long ((((p0 &&& (16383 : Int32)) + (1 : Int32)).toInt64) * (((p1 &&& (16383 : Int32)) + (1 : Int32)).toInt64)))])) rfl (hb hby at_37) _ ?_
    show Steps p.tables e below (s₁.setTop (mkF m 40 #[.val (.int p0), .val (.int p1), .val (.int ((p0 &&& (16383 : Int32)) + (1 : Int32))), .val (.int ((p1 &&& (16383 : Int32)) + (1 : Int32))), .val (.long ((((p0 &&& (16383 : Int32)) + (1 : Int32)) - (((p0 &&& (16383 : Int32)) + (1 : Int32)) >>> ((1 : Int32) &&& 31))).toInt64)), .second, .val (.long ((((p1 &&& (16383 : Int32)) + (1 : Int32)) - (((p1 &&& (16383 : Int32)) + (1 : Int32)) >>> ((1 : Int32) &&& 31))).toInt64)), .second, .unset, .unset] [(.long (2 : Int64)), (.long ((((p0 &&& (16383 : Int32)) + (1 : Int32)).toInt64) * (((p1 &&& (16383 : Int32)) + (1 : Int32)).toInt64)))])) _
    refine XS.lload X0.here hx rfl (hb hby at_40) rfl ?_
    show Steps p.tables e below (s₁.setTop (mkF m 42 #[.val (.int p0), .val (.int p1), .val (.int ((p0 &&& (16383 : Int32)) + (1 : Int32))), .val (.int ((p1 &&& (16383 : Int32)) + (1 : Int32))), .val (.long ((((p0 &&& (16383 : Int32)) + (1 : Int32)) - (((p0 &&& (16383 : Int32)) + (1 : Int32)) >>> ((1 : Int32) &&& 31))).toInt64)), .second, .val (.long ((((p1 &&& (16383 : Int32)) + (1 : Int32)) - (((p1 &&& (16383 : Int32)) + (1 : Int32)) >>> ((1 : Int32) &&& 31))).toInt64)), .second, .unset, .unset] [(.long ((((p0 &&& (16383 : Int32)) + (1 : Int32)) - (((p0 &&& (16383 : Int32)) + (1 : Int32)) >>> ((1 : Int32) &&& 31))).toInt64)), (.long (2 : Int64)), (.long ((((p0 &&& (16383 : Int32)) + (1 : Int32)).toInt64) * (((p1 &&& (16383 : Int32)) + (1 : Int32)).toInt64)))])) _
    refine XS.lmul X0.here hx rfl (hb hby at_42) rfl ?_
    show Steps p.tables e below (s₁.setTop (mkF m 43 #[.val (.int p0), .val (.int p1), .val (.int ((p0 &&& (16383 : Int32)) + (1 : Int32))), .val (.int ((p1 &&& (16383 : Int32)) + (1 : Int32))), .val (.long ((((p0 &&& (16383 : Int32)) + (1 : Int32)) - (((p0 &&& (16383 : Int32)) + (1 : Int32)) >>> ((1 : Int32) &&& 31))).toInt64)), .second, .val (.long ((((p1 &&& (16383 : Int32)) + (1 : Int32)) - (((p1 &&& (16383 : Int32)) + (1 : Int32)) >>> ((1 : Int32) &&& 31))).toInt64)), .second, .unset, .unset] [(.long ((2 : Int64) * ((((p0 &&& (16383 : Int32)) + (1 : Int32)) - (((p0 &&& (16383 : Int32)) + (1 : Int32)) >>> ((1 : Int32) &&& 31))).toInt64))), (.long ((((p0 &&& (16383 : Int32)) + (1 : Int32)).toInt64) * (((p1 &&& (16383 : Int32)) + (1 : Int32)).toInt64)))])) _
    refine XS.lload X0.here hx rfl (hb hby at_43) rfl ?_
    show Steps p.tables e below (s₁.setTop (mkF m 45 #[.val (.int p0), .val (.int p1), .val (.int ((p0 &&& (16383 : Int32)) + (1 : Int32))), .val (.int ((p1 &&& (16383 : Int32)) + (1 : Int32))), .val (.long ((((p0 &&& (16383 : Int32)) + (1 : Int32)) - (((p0 &&& (16383 : Int32)) + (1 : Int32)) >>> ((1 : Int32) &&& 31))).toInt64)), .second, .val (.long ((((p1 &&& (16383 : Int32)) + (1 : Int32)) - (((p1 &&& (16383 : Int32)) + (1 : Int32)) >>> ((1 : Int32) &&& 31))).toInt64)), .second, .unset, .unset] [(.long ((((p1 &&& (16383 : Int32)) + (1 : Int32)) - (((p1 &&& (16383 : Int32)) + (1 : Int32)) >>> ((1 : Int32) &&& 31))).toInt64)), (.long ((2 : Int64) * ((((p0 &&& (16383 : Int32)) + (1 : Int32)) - (((p0 &&& (16383 : Int32)) + (1 : Int32)) >>> ((1 : Int32) &&& 31))).toInt64))), (.long ((((p0 &&& (16383 : Int32)) + (1 : Int32)).toInt64) * (((p1 &&& (16383 : Int32)) + (1 : Int32)).toInt64)))])) _
    refine XS.lmul X0.here hx rfl (hb hby at_45) rfl ?_
    show Steps p.tables e below (s₁.setTop (mkF m 46 #[.val (.int p0), .val (.int p1), .val (.int ((p0 &&& (16383 : Int32)) + (1 : Int32))), .val (.int ((p1 &&& (16383 : Int32)) + (1 : Int32))), .val (.long ((((p0 &&& (16383 : Int32)) + (1 : Int32)) - (((p0 &&& (16383 : Int32)) + (1 : Int32)) >>> ((1 : Int32) &&& 31))).toInt64)), .second, .val (.long ((((p1 &&& (16383 : Int32)) + (1 : Int32)) - (((p1 &&& (16383 : Int32)) + (1 : Int32)) >>> ((1 : Int32) &&& 31))).toInt64)), .second, .unset, .unset] [(.long (((2 : Int64) * ((((p0 &&& (16383 : Int32)) + (1 : Int32)) - (((p0 &&& (16383 : Int32)) + (1 : Int32)) >>> ((1 : Int32) &&& 31))).toInt64)) * ((((p1 &&& (16383 : Int32)) + (1 : Int32)) - (((p1 &&& (16383 : Int32)) + (1 : Int32)) >>> ((1 : Int32) &&& 31))).toInt64))), (.long ((((p0 &&& (16383 : Int32)) + (1 : Int32)).toInt64) * (((p1 &&& (16383 : Int32)) + (1 : Int32)).toInt64)))])) _
    refine XS.ladd X0.here hx rfl (hb hby at_46) rfl ?_
    show Steps p.tables e below (s₁.setTop (mkF m 47 #[.val (.int p0), .val (.int p1), .val (.int ((p0 &&& (16383 : Int32)) + (1 : Int32))), .val (.int ((p1 &&& (16383 : Int32)) + (1 : Int32))), .val (.long ((((p0 &&& (16383 : Int32)) + (1 : Int32)) - (((p0 &&& (16383 : Int32)) + (1 : Int32)) >>> ((1 : Int32) &&& 31))).toInt64)), .second, .val (.long ((((p1 &&& (16383 : Int32)) + (1 : Int32)) - (((p1 &&& (16383 : Int32)) + (1 : Int32)) >>> ((1 : Int32) &&& 31))).toInt64)), .second, .unset, .unset] [(.long (((((p0 &&& (16383 : Int32)) + (1 : Int32)).toInt64) * (((p1 &&& (16383 : Int32)) + (1 : Int32)).toInt64)) + (((2 : Int64) * ((((p0 &&& (16383 : Int32)) + (1 : Int32)) - (((p0 &&& (16383 : Int32)) + (1 : Int32)) >>> ((1 : Int32) &&& 31))).toInt64)) * ((((p1 &&& (16383 : Int32)) + (1 : Int32)) - (((p1 &&& (16383 : Int32)) + (1 : Int32)) >>> ((1 : Int32) &&& 31))).toInt64))))])) _
    refine XS.lstore X0.here hx rfl (hb hby at_47) rfl (l' := #[.val (.int p0), .val (.int p1), .val (.int ((p0 &&& (16383 : Int32)) + (1 : Int32))), .val (.int ((p1 &&& (16383 : Int32)) + (1 : Int32))), .val (.long ((((p0 &&& (16383 : Int32)) + (1 : Int32)) - (((p0 &&& (16383 : Int32)) + (1 : Int32)) >>> ((1 : Int32) &&& 31))).toInt64)), .second, .val (.long ((((p1 &&& (16383 : Int32)) + (1 : Int32)) - (((p1 &&& (16383 : Int32)) + (1 : Int32)) >>> ((1 : Int32) &&& 31))).toInt64)), .second, .val (.long (((((p0 &&& (16383 : Int32)) + (1 : Int32)).toInt64) * (((p1 &&& (16383 : Int32)) + (1 : Int32)).toInt64)) + (((2 : Int64) * ((((p0 &&& (16383 : Int32)) + (1 : Int32)) - (((p0 &&& (16383 : Int32)) + (1 : Int32)) >>> ((1 : Int32) &&& 31))).toInt64)) * ((((p1 &&& (16383 : Int32)) + (1 : Int32)) - (((p1 &&& (16383 : Int32)) + (1 : Int32)) >>> ((1 : Int32) &&& 31))).toInt64)))), .second]) rfl ?_
    show Steps p.tables e below (s₁.setTop (mkF m 49 #[.val (.int p0), .val (.int p1), .val (.int ((p0 &&& (16383 : Int32)) + (1 : Int32))), .val (.int ((p1 &&& (16383 : Int32)) + (1 : Int32))), .val (.long ((((p0 &&& (16383 : Int32)) + (1 : Int32)) - (((p0 &&& (16383 : Int32)) + (1 : Int32)) >>> ((1 : Int32) &&& 31))).toInt64)), .second, .val (.long ((((p1 &&& (16383 : Int32)) + (1 : Int32)) - (((p1 &&& (16383 : Int32)) + (1 : Int32)) >>> ((1 : Int32) &&& 31))).toInt64)), .second, .val (.long (((((p0 &&& (16383 : Int32)) + (1 : Int32)).toInt64) * (((p1 &&& (16383 : Int32)) + (1 : Int32)).toInt64)) + (((2 : Int64) * ((((p0 &&& (16383 : Int32)) + (1 : Int32)) - (((p0 &&& (16383 : Int32)) + (1 : Int32)) >>> ((1 : Int32) &&& 31))).toInt64)) * ((((p1 &&& (16383 : Int32)) + (1 : Int32)) - (((p1 &&& (16383 : Int32)) + (1 : Int32)) >>> ((1 : Int32) &&& 31))).toInt64)))), .second] [])) _
    refine XS.iloadN X0.here hx rfl (hb hby at_49) rfl ?_
    show Steps p.tables e below (s₁.setTop (mkF m 50 #[.val (.int p0), .val (.int p1), .val (.int ((p0 &&& (16383 : Int32)) + (1 : Int32))), .val (.int ((p1 &&& (16383 : Int32)) + (1 : Int32))), .val (.long ((((p0 &&& (16383 : Int32)) + (1 : Int32)) - (((p0 &&& (16383 : Int32)) + (1 : Int32)) >>> ((1 : Int32) &&& 31))).toInt64)), .second, .val (.long ((((p1 &&& (16383 : Int32)) + (1 : Int32)) - (((p1 &&& (16383 : Int32)) + (1 : Int32)) >>> ((1 : Int32) &&& 31))).toInt64)), .second, .val (.long (((((p0 &&& (16383 : Int32)) + (1 : Int32)).toInt64) * (((p1 &&& (16383 : Int32)) + (1 : Int32)).toInt64)) + (((2 : Int64) * ((((p0 &&& (16383 : Int32)) + (1 : Int32)) - (((p0 &&& (16383 : Int32)) + (1 : Int32)) >>> ((1 : Int32) &&& 31))).toInt64)) * ((((p1 &&& (16383 : Int32)) + (1 : Int32)) - (((p1 &&& (16383 : Int32)) + (1 : Int32)) >>> ((1 : Int32) &&& 31))).toInt64)))), .second] [(.int ((p0 &&& (16383 : Int32)) + (1 : Int32)))])) _
    refine XS.iloadN X0.here hx rfl (hb hby at_50) rfl ?_
    show Steps p.tables e below (s₁.setTop (mkF m 51 #[.val (.int p0), .val (.int p1), .val (.int ((p0 &&& (16383 : Int32)) + (1 : Int32))), .val (.int ((p1 &&& (16383 : Int32)) + (1 : Int32))), .val (.long ((((p0 &&& (16383 : Int32)) + (1 : Int32)) - (((p0 &&& (16383 : Int32)) + (1 : Int32)) >>> ((1 : Int32) &&& 31))).toInt64)), .second, .val (.long ((((p1 &&& (16383 : Int32)) + (1 : Int32)) - (((p1 &&& (16383 : Int32)) + (1 : Int32)) >>> ((1 : Int32) &&& 31))).toInt64)), .second, .val (.long (((((p0 &&& (16383 : Int32)) + (1 : Int32)).toInt64) * (((p1 &&& (16383 : Int32)) + (1 : Int32)).toInt64)) + (((2 : Int64) * ((((p0 &&& (16383 : Int32)) + (1 : Int32)) - (((p0 &&& (16383 : Int32)) + (1 : Int32)) >>> ((1 : Int32) &&& 31))).toInt64)) * ((((p1 &&& (16383 : Int32)) + (1 : Int32)) - (((p1 &&& (16383 : Int32)) + (1 : Int32)) >>> ((1 : Int32) &&& 31))).toInt64)))), .second] [(.int ((p1 &&& (16383 : Int32)) + (1 : Int32))), (.int ((p0 &&& (16383 : Int32)) + (1 : Int32)))])) _
    refine st3 _ ?_
    show Steps p.tables e below (T3.setTop (mkF m 54 #[.val (.int p0), .val (.int p1), .val (.int ((p0 &&& (16383 : Int32)) + (1 : Int32))), .val (.int ((p1 &&& (16383 : Int32)) + (1 : Int32))), .val (.long ((((p0 &&& (16383 : Int32)) + (1 : Int32)) - (((p0 &&& (16383 : Int32)) + (1 : Int32)) >>> ((1 : Int32) &&& 31))).toInt64)), .second, .val (.long ((((p1 &&& (16383 : Int32)) + (1 : Int32)) - (((p1 &&& (16383 : Int32)) + (1 : Int32)) >>> ((1 : Int32) &&& 31))).toInt64)), .second, .val (.long (((((p0 &&& (16383 : Int32)) + (1 : Int32)).toInt64) * (((p1 &&& (16383 : Int32)) + (1 : Int32)).toInt64)) + (((2 : Int64) * ((((p0 &&& (16383 : Int32)) + (1 : Int32)) - (((p0 &&& (16383 : Int32)) + (1 : Int32)) >>> ((1 : Int32) &&& 31))).toInt64)) * ((((p1 &&& (16383 : Int32)) + (1 : Int32)) - (((p1 &&& (16383 : Int32)) + (1 : Int32)) >>> ((1 : Int32) &&& 31))).toInt64)))), .second] [(.int ((((p0 &&& (16383 : Int32)) + (1 : Int32)) * ((p1 &&& (16383 : Int32)) + (1 : Int32))) + ((2 : Int32) * (((((p0 &&& (16383 : Int32)) + (1 : Int32)) + (1 : Int32)) / (2 : Int32)) * ((((p1 &&& (16383 : Int32)) + (1 : Int32)) + (1 : Int32)) / (2 : Int32))))))])) _
    refine XS.i2l X3.here hx rfl (hb hby at_54) rfl ?_
    show Steps p.tables e below (T3.setTop (mkF m 55 #[.val (.int p0), .val (.int p1), .val (.int ((p0 &&& (16383 : Int32)) + (1 : Int32))), .val (.int ((p1 &&& (16383 : Int32)) + (1 : Int32))), .val (.long ((((p0 &&& (16383 : Int32)) + (1 : Int32)) - (((p0 &&& (16383 : Int32)) + (1 : Int32)) >>> ((1 : Int32) &&& 31))).toInt64)), .second, .val (.long ((((p1 &&& (16383 : Int32)) + (1 : Int32)) - (((p1 &&& (16383 : Int32)) + (1 : Int32)) >>> ((1 : Int32) &&& 31))).toInt64)), .second, .val (.long (((((p0 &&& (16383 : Int32)) + (1 : Int32)).toInt64) * (((p1 &&& (16383 : Int32)) + (1 : Int32)).toInt64)) + (((2 : Int64) * ((((p0 &&& (16383 : Int32)) + (1 : Int32)) - (((p0 &&& (16383 : Int32)) + (1 : Int32)) >>> ((1 : Int32) &&& 31))).toInt64)) * ((((p1 &&& (16383 : Int32)) + (1 : Int32)) - (((p1 &&& (16383 : Int32)) + (1 : Int32)) >>> ((1 : Int32) &&& 31))).toInt64)))), .second] [(.long (((((p0 &&& (16383 : Int32)) + (1 : Int32)) * ((p1 &&& (16383 : Int32)) + (1 : Int32))) + ((2 : Int32) * (((((p0 &&& (16383 : Int32)) + (1 : Int32)) + (1 : Int32)) / (2 : Int32)) * ((((p1 &&& (16383 : Int32)) + (1 : Int32)) + (1 : Int32)) / (2 : Int32))))).toInt64))])) _
    refine XS.lload X3.here hx rfl (hb hby at_55) rfl ?_
    show Steps p.tables e below (T3.setTop (mkF m 57 #[.val (.int p0), .val (.int p1), .val (.int ((p0 &&& (16383 : Int32)) + (1 : Int32))), .val (.int ((p1 &&& (16383 : Int32)) + (1 : Int32))), .val (.long ((((p0 &&& (16383 : Int32)) + (1 : Int32)) - (((p0 &&& (16383 : Int32)) + (1 : Int32)) >>> ((1 : Int32) &&& 31))).toInt64)), .second, .val (.long ((((p1 &&& (16383 : Int32)) + (1 : Int32)) - (((p1 &&& (16383 : Int32)) + (1 : Int32)) >>> ((1 : Int32) &&& 31))).toInt64)), .second, .val (.long (((((p0 &&& (16383 : Int32)) + (1 : Int32)).toInt64) * (((p1 &&& (16383 : Int32)) + (1 : Int32)).toInt64)) + (((2 : Int64) * ((((p0 &&& (16383 : Int32)) + (1 : Int32)) - (((p0 &&& (16383 : Int32)) + (1 : Int32)) >>> ((1 : Int32) &&& 31))).toInt64)) * ((((p1 &&& (16383 : Int32)) + (1 : Int32)) - (((p1 &&& (16383 : Int32)) + (1 : Int32)) >>> ((1 : Int32) &&& 31))).toInt64)))), .second] [(.long (((((p0 &&& (16383 : Int32)) + (1 : Int32)).toInt64) * (((p1 &&& (16383 : Int32)) + (1 : Int32)).toInt64)) + (((2 : Int64) * ((((p0 &&& (16383 : Int32)) + (1 : Int32)) - (((p0 &&& (16383 : Int32)) + (1 : Int32)) >>> ((1 : Int32) &&& 31))).toInt64)) * ((((p1 &&& (16383 : Int32)) + (1 : Int32)) - (((p1 &&& (16383 : Int32)) + (1 : Int32)) >>> ((1 : Int32) &&& 31))).toInt64)))), (.long (((((p0 &&& (16383 : Int32)) + (1 : Int32)) * ((p1 &&& (16383 : Int32)) + (1 : Int32))) + ((2 : Int32) * (((((p0 &&& (16383 : Int32)) + (1 : Int32)) + (1 : Int32)) / (2 : Int32)) * ((((p1 &&& (16383 : Int32)) + (1 : Int32)) + (1 : Int32)) / (2 : Int32))))).toInt64))])) _
    refine XS.lcmp X3.here hx rfl (hb hby at_57) rfl ?_
    exact k)
  have pre5 := fun (t : State) (k : Steps p.tables e below (T3.setTop (mkF m 66 #[.val (.int p0), .val (.int p1), .val (.int ((p0 &&& (16383 : Int32)) + (1 : Int32))), .val (.int ((p1 &&& (16383 : Int32)) + (1 : Int32))), .val (.long ((((p0 &&& (16383 : Int32)) + (1 : Int32)) - (((p0 &&& (16383 : Int32)) + (1 : Int32)) >>> ((1 : Int32) &&& 31))).toInt64)), .second, .val (.long ((((p1 &&& (16383 : Int32)) + (1 : Int32)) - (((p1 &&& (16383 : Int32)) + (1 : Int32)) >>> ((1 : Int32) &&& 31))).toInt64)), .second, .val (.long (((((p0 &&& (16383 : Int32)) + (1 : Int32)).toInt64) * (((p1 &&& (16383 : Int32)) + (1 : Int32)).toInt64)) + (((2 : Int64) * ((((p0 &&& (16383 : Int32)) + (1 : Int32)) - (((p0 &&& (16383 : Int32)) + (1 : Int32)) >>> ((1 : Int32) &&& 31))).toInt64)) * ((((p1 &&& (16383 : Int32)) + (1 : Int32)) - (((p1 &&& (16383 : Int32)) + (1 : Int32)) >>> ((1 : Int32) &&& 31))).toInt64)))), .second] [(.int (j0_0 p0 p1))])) t) => pre4 t (by
    by_cases hc6 : (((((p0 &&& (16383 : Int32)) + (1 : Int32)) * ((p1 &&& (16383 : Int32)) + (1 : Int32))) + ((2 : Int32) * (((((p0 &&& (16383 : Int32)) + (1 : Int32)) + (1 : Int32)) / (2 : Int32)) * ((((p1 &&& (16383 : Int32)) + (1 : Int32)) + (1 : Int32)) / (2 : Int32))))).toInt64) = (((((p0 &&& (16383 : Int32)) + (1 : Int32)).toInt64) * (((p1 &&& (16383 : Int32)) + (1 : Int32)).toInt64)) + (((2 : Int64) * ((((p0 &&& (16383 : Int32)) + (1 : Int32)) - (((p0 &&& (16383 : Int32)) + (1 : Int32)) >>> ((1 : Int32) &&& 31))).toInt64)) * ((((p1 &&& (16383 : Int32)) + (1 : Int32)) - (((p1 &&& (16383 : Int32)) + (1 : Int32)) >>> ((1 : Int32) &&& 31))).toInt64)))
    · skip
      show Steps p.tables e below (T3.setTop (mkF m 58 #[.val (.int p0), .val (.int p1), .val (.int ((p0 &&& (16383 : Int32)) + (1 : Int32))), .val (.int ((p1 &&& (16383 : Int32)) + (1 : Int32))), .val (.long ((((p0 &&& (16383 : Int32)) + (1 : Int32)) - (((p0 &&& (16383 : Int32)) + (1 : Int32)) >>> ((1 : Int32) &&& 31))).toInt64)), .second, .val (.long ((((p1 &&& (16383 : Int32)) + (1 : Int32)) - (((p1 &&& (16383 : Int32)) + (1 : Int32)) >>> ((1 : Int32) &&& 31))).toInt64)), .second, .val (.long (((((p0 &&& (16383 : Int32)) + (1 : Int32)).toInt64) * (((p1 &&& (16383 : Int32)) + (1 : Int32)).toInt64)) + (((2 : Int64) * ((((p0 &&& (16383 : Int32)) + (1 : Int32)) - (((p0 &&& (16383 : Int32)) + (1 : Int32)) >>> ((1 : Int32) &&& 31))).toInt64)) * ((((p1 &&& (16383 : Int32)) + (1 : Int32)) - (((p1 &&& (16383 : Int32)) + (1 : Int32)) >>> ((1 : Int32) &&& 31))).toInt64)))), .second] [(.int (lcmpW (((((p0 &&& (16383 : Int32)) + (1 : Int32)) * ((p1 &&& (16383 : Int32)) + (1 : Int32))) + ((2 : Int32) * (((((p0 &&& (16383 : Int32)) + (1 : Int32)) + (1 : Int32)) / (2 : Int32)) * ((((p1 &&& (16383 : Int32)) + (1 : Int32)) + (1 : Int32)) / (2 : Int32))))).toInt64) (((((p0 &&& (16383 : Int32)) + (1 : Int32)).toInt64) * (((p1 &&& (16383 : Int32)) + (1 : Int32)).toInt64)) + (((2 : Int64) * ((((p0 &&& (16383 : Int32)) + (1 : Int32)) - (((p0 &&& (16383 : Int32)) + (1 : Int32)) >>> ((1 : Int32) &&& 31))).toInt64)) * ((((p1 &&& (16383 : Int32)) + (1 : Int32)) - (((p1 &&& (16383 : Int32)) + (1 : Int32)) >>> ((1 : Int32) &&& 31))).toInt64)))))])) _
      refine XS.ifNo X3.here hx rfl (hb hby at_58) rfl ((if0 _ _).trans (teq ((own_eq (((((p0 &&& (16383 : Int32)) + (1 : Int32)) * ((p1 &&& (16383 : Int32)) + (1 : Int32))) + ((2 : Int32) * (((((p0 &&& (16383 : Int32)) + (1 : Int32)) + (1 : Int32)) / (2 : Int32)) * ((((p1 &&& (16383 : Int32)) + (1 : Int32)) + (1 : Int32)) / (2 : Int32))))).toInt64) (((((p0 &&& (16383 : Int32)) + (1 : Int32)).toInt64) * (((p1 &&& (16383 : Int32)) + (1 : Int32)).toInt64)) + (((2 : Int64) * ((((p0 &&& (16383 : Int32)) + (1 : Int32)) - (((p0 &&& (16383 : Int32)) + (1 : Int32)) >>> ((1 : Int32) &&& 31))).toInt64)) * ((((p1 &&& (16383 : Int32)) + (1 : Int32)) - (((p1 &&& (16383 : Int32)) + (1 : Int32)) >>> ((1 : Int32) &&& 31))).toInt64)))).mpr hc6)).2) ?_
      show Steps p.tables e below (T3.setTop (mkF m 61 #[.val (.int p0), .val (.int p1), .val (.int ((p0 &&& (16383 : Int32)) + (1 : Int32))), .val (.int ((p1 &&& (16383 : Int32)) + (1 : Int32))), .val (.long ((((p0 &&& (16383 : Int32)) + (1 : Int32)) - (((p0 &&& (16383 : Int32)) + (1 : Int32)) >>> ((1 : Int32) &&& 31))).toInt64)), .second, .val (.long ((((p1 &&& (16383 : Int32)) + (1 : Int32)) - (((p1 &&& (16383 : Int32)) + (1 : Int32)) >>> ((1 : Int32) &&& 31))).toInt64)), .second, .val (.long (((((p0 &&& (16383 : Int32)) + (1 : Int32)).toInt64) * (((p1 &&& (16383 : Int32)) + (1 : Int32)).toInt64)) + (((2 : Int64) * ((((p0 &&& (16383 : Int32)) + (1 : Int32)) - (((p0 &&& (16383 : Int32)) + (1 : Int32)) >>> ((1 : Int32) &&& 31))).toInt64)) * ((((p1 &&& (16383 : Int32)) + (1 : Int32)) - (((p1 &&& (16383 : Int32)) + (1 : Int32)) >>> ((1 : Int32) &&& 31))).toInt64)))), .second] [])) _
      refine XS.iconst X3.here hx rfl (hb hby at_61) ?_
      show Steps p.tables e below (T3.setTop (mkF m 62 #[.val (.int p0), .val (.int p1), .val (.int ((p0 &&& (16383 : Int32)) + (1 : Int32))), .val (.int ((p1 &&& (16383 : Int32)) + (1 : Int32))), .val (.long ((((p0 &&& (16383 : Int32)) + (1 : Int32)) - (((p0 &&& (16383 : Int32)) + (1 : Int32)) >>> ((1 : Int32) &&& 31))).toInt64)), .second, .val (.long ((((p1 &&& (16383 : Int32)) + (1 : Int32)) - (((p1 &&& (16383 : Int32)) + (1 : Int32)) >>> ((1 : Int32) &&& 31))).toInt64)), .second, .val (.long (((((p0 &&& (16383 : Int32)) + (1 : Int32)).toInt64) * (((p1 &&& (16383 : Int32)) + (1 : Int32)).toInt64)) + (((2 : Int64) * ((((p0 &&& (16383 : Int32)) + (1 : Int32)) - (((p0 &&& (16383 : Int32)) + (1 : Int32)) >>> ((1 : Int32) &&& 31))).toInt64)) * ((((p1 &&& (16383 : Int32)) + (1 : Int32)) - (((p1 &&& (16383 : Int32)) + (1 : Int32)) >>> ((1 : Int32) &&& 31))).toInt64)))), .second] [(.int (1 : Int32))])) _
      refine XS.goto X3.here hx rfl (pc0 := 62) (pc' := 66) rfl (hb hby at_62) (by decide) (by decide) ?_
      have hj7 : (j0_0 p0 p1) = (1 : Int32) := by unfold j0_0; first | (rw [if_pos hc6]) | (simp only [if_pos hc6])
      rw [hj7] at k
      exact k
    · skip
      show Steps p.tables e below (T3.setTop (mkF m 58 #[.val (.int p0), .val (.int p1), .val (.int ((p0 &&& (16383 : Int32)) + (1 : Int32))), .val (.int ((p1 &&& (16383 : Int32)) + (1 : Int32))), .val (.long ((((p0 &&& (16383 : Int32)) + (1 : Int32)) - (((p0 &&& (16383 : Int32)) + (1 : Int32)) >>> ((1 : Int32) &&& 31))).toInt64)), .second, .val (.long ((((p1 &&& (16383 : Int32)) + (1 : Int32)) - (((p1 &&& (16383 : Int32)) + (1 : Int32)) >>> ((1 : Int32) &&& 31))).toInt64)), .second, .val (.long (((((p0 &&& (16383 : Int32)) + (1 : Int32)).toInt64) * (((p1 &&& (16383 : Int32)) + (1 : Int32)).toInt64)) + (((2 : Int64) * ((((p0 &&& (16383 : Int32)) + (1 : Int32)) - (((p0 &&& (16383 : Int32)) + (1 : Int32)) >>> ((1 : Int32) &&& 31))).toInt64)) * ((((p1 &&& (16383 : Int32)) + (1 : Int32)) - (((p1 &&& (16383 : Int32)) + (1 : Int32)) >>> ((1 : Int32) &&& 31))).toInt64)))), .second] [(.int (lcmpW (((((p0 &&& (16383 : Int32)) + (1 : Int32)) * ((p1 &&& (16383 : Int32)) + (1 : Int32))) + ((2 : Int32) * (((((p0 &&& (16383 : Int32)) + (1 : Int32)) + (1 : Int32)) / (2 : Int32)) * ((((p1 &&& (16383 : Int32)) + (1 : Int32)) + (1 : Int32)) / (2 : Int32))))).toInt64) (((((p0 &&& (16383 : Int32)) + (1 : Int32)).toInt64) * (((p1 &&& (16383 : Int32)) + (1 : Int32)).toInt64)) + (((2 : Int64) * ((((p0 &&& (16383 : Int32)) + (1 : Int32)) - (((p0 &&& (16383 : Int32)) + (1 : Int32)) >>> ((1 : Int32) &&& 31))).toInt64)) * ((((p1 &&& (16383 : Int32)) + (1 : Int32)) - (((p1 &&& (16383 : Int32)) + (1 : Int32)) >>> ((1 : Int32) &&& 31))).toInt64)))))])) _
      refine XS.ifYes X3.here hx rfl (pc0 := 58) (pc' := 65) rfl (hb hby at_58) rfl ((if0 _ _).trans (feq (mt (own_eq (((((p0 &&& (16383 : Int32)) + (1 : Int32)) * ((p1 &&& (16383 : Int32)) + (1 : Int32))) + ((2 : Int32) * (((((p0 &&& (16383 : Int32)) + (1 : Int32)) + (1 : Int32)) / (2 : Int32)) * ((((p1 &&& (16383 : Int32)) + (1 : Int32)) + (1 : Int32)) / (2 : Int32))))).toInt64) (((((p0 &&& (16383 : Int32)) + (1 : Int32)).toInt64) * (((p1 &&& (16383 : Int32)) + (1 : Int32)).toInt64)) + (((2 : Int64) * ((((p0 &&& (16383 : Int32)) + (1 : Int32)) - (((p0 &&& (16383 : Int32)) + (1 : Int32)) >>> ((1 : Int32) &&& 31))).toInt64)) * ((((p1 &&& (16383 : Int32)) + (1 : Int32)) - (((p1 &&& (16383 : Int32)) + (1 : Int32)) >>> ((1 : Int32) &&& 31))).toInt64)))).mp hc6)).2) (by decide) (by decide) ?_
      show Steps p.tables e below (T3.setTop (mkF m 65 #[.val (.int p0), .val (.int p1), .val (.int ((p0 &&& (16383 : Int32)) + (1 : Int32))), .val (.int ((p1 &&& (16383 : Int32)) + (1 : Int32))), .val (.long ((((p0 &&& (16383 : Int32)) + (1 : Int32)) - (((p0 &&& (16383 : Int32)) + (1 : Int32)) >>> ((1 : Int32) &&& 31))).toInt64)), .second, .val (.long ((((p1 &&& (16383 : Int32)) + (1 : Int32)) - (((p1 &&& (16383 : Int32)) + (1 : Int32)) >>> ((1 : Int32) &&& 31))).toInt64)), .second, .val (.long (((((p0 &&& (16383 : Int32)) + (1 : Int32)).toInt64) * (((p1 &&& (16383 : Int32)) + (1 : Int32)).toInt64)) + (((2 : Int64) * ((((p0 &&& (16383 : Int32)) + (1 : Int32)) - (((p0 &&& (16383 : Int32)) + (1 : Int32)) >>> ((1 : Int32) &&& 31))).toInt64)) * ((((p1 &&& (16383 : Int32)) + (1 : Int32)) - (((p1 &&& (16383 : Int32)) + (1 : Int32)) >>> ((1 : Int32) &&& 31))).toInt64)))), .second] [])) _
      refine XS.iconst X3.here hx rfl (hb hby at_65) ?_
      have hj8 : (j0_0 p0 p1) = (0 : Int32) := by unfold j0_0; first | (rw [if_neg hc6]) | (simp only [if_neg hc6])
      rw [hj8] at k
      exact k)
  obtain ⟨fs, hr, hrun, hended, hW, hsame⟩ := X3.leave (v := some (.int (nar .boolean (j0_0 p0 p1)))) (fun h => by rw [Bd.returns] at h; cases h)
  refine ⟨_, _, pre5 _ ?_, hrun, hended, _, _, rfl, ?_, ⟨_, rfl⟩, hW, hsame.mono (by decide) (by decide)⟩
  · skip
    show Steps p.tables e below (T3.setTop (mkF m 66 #[.val (.int p0), .val (.int p1), .val (.int ((p0 &&& (16383 : Int32)) + (1 : Int32))), .val (.int ((p1 &&& (16383 : Int32)) + (1 : Int32))), .val (.long ((((p0 &&& (16383 : Int32)) + (1 : Int32)) - (((p0 &&& (16383 : Int32)) + (1 : Int32)) >>> ((1 : Int32) &&& 31))).toInt64)), .second, .val (.long ((((p1 &&& (16383 : Int32)) + (1 : Int32)) - (((p1 &&& (16383 : Int32)) + (1 : Int32)) >>> ((1 : Int32) &&& 31))).toInt64)), .second, .val (.long (((((p0 &&& (16383 : Int32)) + (1 : Int32)).toInt64) * (((p1 &&& (16383 : Int32)) + (1 : Int32)).toInt64)) + (((2 : Int64) * ((((p0 &&& (16383 : Int32)) + (1 : Int32)) - (((p0 &&& (16383 : Int32)) + (1 : Int32)) >>> ((1 : Int32) &&& 31))).toInt64)) * ((((p1 &&& (16383 : Int32)) + (1 : Int32)) - (((p1 &&& (16383 : Int32)) + (1 : Int32)) >>> ((1 : Int32) &&& 31))).toInt64)))), .second] [(.int (j0_0 p0 p1))])) _
    exact retN X3 hx (t := .boolean) Bd.returns (by simp) (hb hby at_66) hr
  · show Q0 Z p0 p1 h0 n0 _ T3.heap _
    rw [e3]
    exact ⟨rfl, N3⟩
theorem law_one (p0 p1 : Int32) : (nar .boolean (j0_0 p0 p1)) = 1 := by
  have b0 := own_w p0
  have b1 := own_w p1
  unfold j0_0
  rw [if_pos (own_law _ _ (by omega) (by omega) (by omega) (by omega))]
  rfl
set_option maxRecDepth 65536 in
set_option maxHeartbeats 40000000 in
theorem comes_1 {Post : Tables → Env → Array Value → State → Outcome → State → Prop} (hpost : ∀ tb e args s v u, (limb_1_1.after args s (.returned v) u = true ∧ limb_1_2.after args s (.returned v) u = true ∧ True) → FrameEnd s (.returned v) u (Jvm.fieldLocs frame_1_writes args s ++ Jvm.arrayLocs frame_1_arrays args s ++ Jvm.staticLocs frame_1_statics s) 0 0 → Post tb e args s (.returned v) u) :
    ArmFor flags0 classFile x code maxLocals ret World_1 tables_1 room_1 Calls_1 rest_1 Pre_1 Post := by
  intro l hfl _ _ p e ha hc hk s m args below hf hA hF happ hP
  obtain ⟨hcalls, hrest, hpre⟩ := hP
  obtain ⟨-, -, -, hnamed, -, -, -, hat⟩ := (Spec.applies_iff hf).mp happ
  obtain ⟨hg, hn⟩ := and_e (Cond.before_iff.mp (show (Jvm.Cond.and given_1 narrow_1).before args s = true from hpre))
  obtain ⟨hcount, r0⟩ := and_e hg
  obtain ⟨k0, r1⟩ := and_e r0
  have k1 := r1
  obtain ⟨w0, w1, rfl⟩ : ∃ w0 w1 : Value, args = #[w0, w1] := by
    have hs : args.size = 2 := by simpa [Cond.value, given_1] using hcount
    obtain ⟨L⟩ := args
    match L, hs with
    | [w0, w1], _ => exact ⟨w0, w1, rfl⟩
  have hw := fun d (hd : d ∈ tables_1) => atoms_spec (ws := Jvm.Cond.code x code maxLocals ret :: tables_1) hat d (List.mem_cons_of_mem _ hd)
  obtain ⟨i0, ei0⟩ := is_v k0
  obtain rfl : w0 = (.int i0) := Option.some.inj ei0
  obtain ⟨i1, ei1⟩ := is_v k1
  obtain rfl : w1 = (.int i1) := Option.some.inj ei1
  obtain ⟨n, o, h1, h2, h3, v, L, rfl, ⟨hv, N⟩, hq⟩ := rm0 l s _ hw tables_1 i0 i1 s.heap s.heap.size (Nat.le_refl _) p e ha hc hk s m _ below hf ((Spec.applies_iff_loose hf).mp happ).1 ⟨rfl, State.Warmed39.refl s, rfl⟩ trivial
  rw [law_one i0 i1] at hv
  subst hv
  refine ⟨n, _, h1, h2, h3, hpost _ _ _ _ _ _ ⟨Cond.after_iff.mpr rfl, Cond.after_iff.mpr (eq_i res_at (Term.int_eval (1)) rfl), trivial⟩ ⟨hq.1, hq.2.1, (hq.2.2.sift fun y hy => Or.inr (N y hy)).mono (by decide) (by decide)⟩⟩
theorem main_1_1 : Claimed_1_1 := comes_1 fun _ _ _ _ _ _ h hF => ⟨h.1, hF⟩
theorem main_1_2 : Claimed_1_2 := comes_1 fun _ _ _ _ _ _ h hF => ⟨h.2.1, hF⟩
end Jvm.Pilot.@@N@@
namespace Jvm.Pilot.@@N@@
open Jvm Jvm.ClassFile Sem Op Lib Jvm.Free Jvm.Stand Jvm.Pilot.@@N@@.Jvm.D
/-! MADE BY PROGRAM (witnessworld.py) out of the Statement's table words and the real class files: 9 classes; the members and pool entries that the words name. The judged class is class 1, her method 1. -/
namespace start1
open Jvm.ClassFile
def u (s : String) : CpInfo := .utf8 (stringToUtf16 s)
/-- a pool by its gaps: so many unusable entries, then the entry; so many at the end -/
def gap : Nat → List CpInfo → List CpInfo
  | 0, r => r
  | n + 1, r => .unusable :: gap n r
def poolList (es : List (Nat × CpInfo)) (last : Nat) : List CpInfo := es.foldr (fun e r => gap e.1 (e.2 :: r)) (gap last [])
def pool (es : List (Nat × CpInfo)) (last : Nat) : Array CpInfo := ⟨poolList es last⟩
def fileOf (pool : Array CpInfo) (this : Nat) (attrs : Array Attribute := #[]) (ms : Array MethodInfo := #[]) (fl : Nat := 33) (sup : Nat := 0) (ifs : Array Nat := #[]) (fds : Array FieldInfo := #[]) : ClassFile where
  minorVersion := 0
  majorVersion := 65
  constantPool := pool
  accessFlags := fl
  thisClass := this
  superClass := sup
  interfaces := ifs
  fields := fds
  methods := ms
  attributes := attrs
def plain (name : String) (sup : Option ClassId) : Class where
  name := name
  kind := .ordinary
  loader := none
  accessFlags := 33
  super := sup
  interfaces := #[]
  cf := none
  fields := #[]
  methods := #[]
  instanceTypes := #[]
  staticTypes := #[]
  resolved := #[]
  callSites := []
  init := .initialized
  statics := none
  mirror := none

def pool0 : Array CpInfo := pool [(5, u "<init>"), (0, u "()V"), (1, .class_ 10), (1, u "java/lang/Object")] 113

def k0m0 : Method := { name := "<init>", desc := "()V", sig := { parameters := [], returnType := none }, accessFlags := 1, code := none }
/-- java/lang/Object -/
def k0 : Class := { plain "java/lang/Object" none with
  accessFlags := 33
  interfaces := #[]
  cf := some (fileOf pool0 8 #[] #[{ accessFlags := 1, nameIndex := 5, descriptorIndex := 6, attributes := #[] }] 33 0 #[] #[])
  fields := #[]
  methods := #[k0m0]
  instanceTypes := #[]
  staticTypes := #[]
  resolved := Array.replicate 124 none
  statics := none }

def pool1 : Array CpInfo := pool [(2, .class_ 4), (1, u "java/lang/Object"), (0, u "<init>"), (0, u "()V"), (0, .long 2), (1, .methodref 10 11), (0, .class_ 12), (0, .nameAndType 13 14), (0, u "com/example/streamwarden/streamwarden/detect/Frame"), (0, u "byteCount"), (0, u "(II)I"), (0, .class_ 16), (0, u "com/example/streamwarden/streamwarden/detect/FrameByteCountPinLaw"), (2, u "law"), (0, u "(II)Z")] 3

def k1m0 : Method := { name := "<init>", desc := "()V", sig := { parameters := [], returnType := none }, accessFlags := 1, code := none }
def k1c1 : Code := { maxStack := 6, maxLocals := 10, code := code, exceptionTable := #[], attributes := #[] }
def k1m1 : Method := { name := "law", desc := "(II)Z", sig := { parameters := [.int, .int], returnType := some .boolean }, accessFlags := 9, code := some k1c1 }
/-- com/example/streamwarden/streamwarden/detect/FrameByteCountPinLaw -/
def k1 : Class := { plain "com/example/streamwarden/streamwarden/detect/FrameByteCountPinLaw" (some 0) with
  accessFlags := 49
  interfaces := #[]
  cf := some (fileOf pool1 15 #[] #[{ accessFlags := 1, nameIndex := 5, descriptorIndex := 6, attributes := #[] }, { accessFlags := 9, nameIndex := 19, descriptorIndex := 20, attributes := #[] }] 49 2 #[] #[])
  fields := #[]
  methods := #[k1m0, k1m1]
  instanceTypes := #[]
  staticTypes := #[]
  resolved := Array.replicate 24 none
  statics := none }

def pool2 : Array CpInfo := pool [(1, .class_ 2), (0, u "com/example/streamwarden/streamwarden/detect/Frame"), (1, .class_ 6), (1, u "java/lang/Object"), (4, u "byteCount"), (0, u "(II)I"), (11, u "width"), (0, u "I"), (2, u "height"), (2, u "samples"), (0, u "[B"), (0, .methodref 1 34), (0, .nameAndType 35 36), (0, u "checkSize"), (0, u "(II)V"), (0, .methodref 1 38), (0, .nameAndType 39 12), (0, u "chromaSize"), (48, u "FULL_RANGE_CHROMA"), (2, u "FULL_RANGE_LUMA"), (104, .class_ 198), (1, u "com/example/streamwarden/streamwarden/detect/Frame$Spans"), (16, u "MAX_DIMENSION"), (2, u "RED_IN_LUMA"), (0, u "F"), (1, u "BLUE_IN_LUMA"), (1, u "GREEN_IN_LUMA"), (1, u "RED_FROM_V"), (0, u "BLUE_FROM_U"), (0, u "GREEN_FROM_U"), (0, u "GREEN_FROM_V"), (0, u "LUMA_GAIN"), (0, u "CHROMA_GAIN"), (0, u "JPEG_QUALITY")] 39

def k2c0 : Code := { maxStack := 4, maxLocals := 2, code := prog_3_method_2_code, exceptionTable := #[], attributes := #[] }
def k2m0 : Method := { name := "byteCount", desc := "(II)I", sig := { parameters := [.int, .int], returnType := some .int }, accessFlags := 9, code := some k2c0 }
def k2c1 : Code := { maxStack := 4, maxLocals := 2, code := prog_3_method_10_code, exceptionTable := #[], attributes := #[] }
def k2m1 : Method := { name := "checkSize", desc := "(II)V", sig := { parameters := [.int, .int], returnType := none }, accessFlags := 10, code := some k2c1 }
def k2c2 : Code := { maxStack := 3, maxLocals := 2, code := prog_3_method_11_code, exceptionTable := #[], attributes := #[] }
def k2m2 : Method := { name := "chromaSize", desc := "(II)I", sig := { parameters := [.int, .int], returnType := some .int }, accessFlags := 10, code := some k2c2 }
/-- com/example/streamwarden/streamwarden/detect/Frame -/
def k2 : Class := { plain "com/example/streamwarden/streamwarden/detect/Frame" (some 0) with
  accessFlags := 49
  interfaces := #[]
  cf := some (fileOf pool2 1 #[.nestMembers #[196]] #[{ accessFlags := 9, nameIndex := 11, descriptorIndex := 12, attributes := #[] }, { accessFlags := 10, nameIndex := 35, descriptorIndex := 36, attributes := #[] }, { accessFlags := 10, nameIndex := 39, descriptorIndex := 12, attributes := #[] }] 49 4 #[] #[{ accessFlags := 25, nameIndex := 215, descriptorIndex := 25, attributes := #[] }, { accessFlags := 26, nameIndex := 218, descriptorIndex := 219, attributes := #[] }, { accessFlags := 26, nameIndex := 221, descriptorIndex := 219, attributes := #[] }, { accessFlags := 26, nameIndex := 223, descriptorIndex := 219, attributes := #[] }, { accessFlags := 26, nameIndex := 225, descriptorIndex := 219, attributes := #[] }, { accessFlags := 26, nameIndex := 226, descriptorIndex := 219, attributes := #[] }, { accessFlags := 26, nameIndex := 227, descriptorIndex := 219, attributes := #[] }, { accessFlags := 26, nameIndex := 228, descriptorIndex := 219, attributes := #[] }, { accessFlags := 26, nameIndex := 229, descriptorIndex := 219, attributes := #[] }, { accessFlags := 26, nameIndex := 230, descriptorIndex := 219, attributes := #[] }, { accessFlags := 26, nameIndex := 91, descriptorIndex := 32, attributes := #[] }, { accessFlags := 26, nameIndex := 88, descriptorIndex := 32, attributes := #[] }, { accessFlags := 26, nameIndex := 231, descriptorIndex := 219, attributes := #[] }, { accessFlags := 18, nameIndex := 24, descriptorIndex := 25, attributes := #[] }, { accessFlags := 18, nameIndex := 28, descriptorIndex := 25, attributes := #[] }, { accessFlags := 18, nameIndex := 31, descriptorIndex := 32, attributes := #[] }])
  fields := #[{ name := "MAX_DIMENSION", type := .int, accessFlags := 25, slot := 0, constantValue := 0 }, { name := "RED_IN_LUMA", type := .float, accessFlags := 26, slot := 1, constantValue := 0 }, { name := "BLUE_IN_LUMA", type := .float, accessFlags := 26, slot := 2, constantValue := 0 }, { name := "GREEN_IN_LUMA", type := .float, accessFlags := 26, slot := 3, constantValue := 0 }, { name := "RED_FROM_V", type := .float, accessFlags := 26, slot := 4, constantValue := 0 }, { name := "BLUE_FROM_U", type := .float, accessFlags := 26, slot := 5, constantValue := 0 }, { name := "GREEN_FROM_U", type := .float, accessFlags := 26, slot := 6, constantValue := 0 }, { name := "GREEN_FROM_V", type := .float, accessFlags := 26, slot := 7, constantValue := 0 }, { name := "LUMA_GAIN", type := .float, accessFlags := 26, slot := 8, constantValue := 0 }, { name := "CHROMA_GAIN", type := .float, accessFlags := 26, slot := 9, constantValue := 0 }, { name := "FULL_RANGE_LUMA", type := (.array .byte), accessFlags := 26, slot := 10, constantValue := 0 }, { name := "FULL_RANGE_CHROMA", type := (.array .byte), accessFlags := 26, slot := 11, constantValue := 0 }, { name := "JPEG_QUALITY", type := .float, accessFlags := 26, slot := 12, constantValue := 0 }, { name := "width", type := .int, accessFlags := 18, slot := 0, constantValue := 0 }, { name := "height", type := .int, accessFlags := 18, slot := 1, constantValue := 0 }, { name := "samples", type := (.array .byte), accessFlags := 18, slot := 2, constantValue := 0 }]
  methods := #[k2m0, k2m1, k2m2]
  instanceTypes := #[.int, .int, (.array .byte)]
  staticTypes := #[.int, .float, .float, .float, .float, .float, .float, .float, .float, .float, (.array .byte), (.array .byte), .float]
  resolved := Array.replicate 271 none
  statics := none }

def pool3 : Array CpInfo := pool [(1, u "java/lang/Cloneable"), (0, .class_ 1), (0, u "java/lang/Object"), (0, .class_ 3)] 3

/-- java/lang/Cloneable -/
def k3 : Class := { plain "java/lang/Cloneable" (some 0) with
  accessFlags := 1537
  interfaces := #[]
  cf := some (fileOf pool3 2 #[] #[] 1537 4 #[] #[])
  fields := #[]
  methods := #[]
  instanceTypes := #[]
  staticTypes := #[]
  resolved := Array.replicate 8 none
  statics := none }

def pool4 : Array CpInfo := pool [(1, u "java/io/Serializable"), (0, .class_ 1), (0, u "java/lang/Object"), (0, .class_ 3)] 3

/-- java/io/Serializable -/
def k4 : Class := { plain "java/io/Serializable" (some 0) with
  accessFlags := 1537
  interfaces := #[]
  cf := some (fileOf pool4 2 #[] #[] 1537 4 #[] #[])
  fields := #[]
  methods := #[]
  instanceTypes := #[]
  staticTypes := #[]
  resolved := Array.replicate 8 none
  statics := none }

/-- the primitive byte -/
def k5 : Class := { plain "byte" none with kind := .primitive 'B', accessFlags := 0x411 }
/-- [B -/
def k6 : Class := { plain "[B" (some 0) with kind := .array 5 .byte, interfaces := #[3, 4], accessFlags := 1041 }

/-- the primitive int -/
def k7 : Class := { plain "int" none with kind := .primitive 'I', accessFlags := 0x411 }
/-- [I -/
def k8 : Class := { plain "[I" (some 0) with kind := .array 7 .int, interfaces := #[3, 4], accessFlags := 1041 }

def heap : Heap := #[]
def classes : Array Class := #[k0, k1, k2, k3, k4, k5, k6, k7, k8]
def interned : List (Array UInt16 × Addr) := []
def slotsUsed : Nat := 0
def theMethod : MethodId := ⟨1, 1⟩
def args0 : Array Value := #[.int 5, .int 5]
def aboutOver (below : List Frame) : State where
  vm := { classes := classes, interned := interned.toArray }
  heap := heap
  slotsUsed := slotsUsed
  threads := #[{ frames := .invoking theMethod args0 :: below }]
def below0 : List Frame := [.native { method := ⟨0, 0⟩, args := #[] }]
def about1 : State := aboutOver below0
def p0 : Program := .bare "" "" ""
def e0 : Env := launch0.env 0 0 0
theorem w_frames : about1.frames = Frame.invoking theMethod args0 :: below0 := rfl
set_option maxRecDepth 65536 in
theorem w_args : argsFit about1.vm theMethod args0 = true := by decide +kernel
set_option maxRecDepth 65536 in
theorem w_heap : heapFits about1 = true := by decide +kernel
set_option maxRecDepth 65536 in
theorem w_runnable : about1.curStatus? = some .runnable := by decide +kernel
set_option maxRecDepth 65536 in
theorem w_alone : about1.alone = true := by decide +kernel
set_option maxRecDepth 65536 in
theorem w_named : about1.methodNamed? x = some theMethod := by decide +kernel
set_option maxRecDepth 65536 in
theorem w_hears : about1.hears theMethod below0 = true := by decide +kernel
set_option maxRecDepth 65536 in
theorem w_ripe : about1.ripe theMethod args0 below0 = true := by decide +kernel
theorem w_running : about1.status = .running := rfl
set_option maxRecDepth 65536 in
theorem w_room : about1.hasRoom e0.platform room_1 = true :=
  launch0.hasRoom_least _ room_1 (by decide +kernel) (by decide +kernel) (by decide +kernel) (by decide +kernel) (by decide +kernel) (by decide +kernel)
theorem allAtoms_all (ts : List Jvm.Cond) (a : Array Jvm.Value) (st : Jvm.State) : (allAtoms ts).before a st = ts.all (fun c => c.before a st) := by
  induction ts with
  | nil => rfl
  | cons c t ih =>
    show (Jvm.Cond.and c (allAtoms t)).before a st = _
    rw [Jvm.Cond.before_and, ih, List.all_cons]
def words1 : List Jvm.Cond := Jvm.Cond.code x code maxLocals ret :: tables_1
/-- a 'code' word, met by the world's own term for the bytes: nothing is compared byte by byte -/
theorem code_word {y : MethodName} {bytes : ByteArray} {mx : Nat} {rt : Option FieldType} {a : Array Value} {s : State} {m : MethodId} {meth : Method} {c : Code} (h1 : s.methodNamed? y = some m) (h2 : s.vm.method? m = some meth) (h3 : meth.code = some c) (h4 : c.code = bytes)
    (h5 : (c.maxLocals == mx && c.exceptionTable.isEmpty && decide (c.maxStack ≤ mostOperands) && decide (meth.sig.returnType = rt) && !meth.locks && decide (parseMethodDescriptor y.desc = some meth.sig)) = true) : (Jvm.Cond.code y bytes mx rt).before a s = true := by
  simp only [Bool.and_eq_true, beq_iff_eq, Bool.not_eq_true', decide_eq_true_eq] at h5
  obtain ⟨⟨⟨⟨⟨g1, g2⟩, g3⟩, g4⟩, g5⟩, g6⟩ := h5
  simp [Cond.before, Cond.holds, Cond.value, h1, h2, h3, h4, g1, g2, g3, g4, g5, g6]
def isCode : Jvm.Cond → Bool
  | .code _ _ _ _ => true
  | _ => false
theorem all_split {L : List Jvm.Cond} {P : Jvm.Cond → Bool} (h1 : L.all (fun c => isCode c || P c) = true) (h2 : ∀ c ∈ L.filter isCode, P c = true) : L.all P = true := by
  refine List.all_eq_true.mpr fun c hc => ?_
  have h := List.all_eq_true.mp h1 c hc
  rcases Bool.eq_false_or_eq_true (isCode c) with hi | hi
  · exact h2 c (List.mem_filter.mpr ⟨hc, hi⟩)
  · simpa [hi] using h
set_option maxRecDepth 65536 in
theorem w_c0 : (Jvm.Cond.code x code maxLocals ret).before args0 about1 = true := code_word (m := ⟨1, 1⟩) (meth := k1m1) (c := k1c1) (by decide +kernel) rfl rfl rfl (by decide +kernel)
set_option maxRecDepth 65536 in
theorem w_c1 : (Jvm.Cond.code ({ cls := "com/example/streamwarden/streamwarden/detect/Frame", name := "byteCount", desc := "(II)I" } : Jvm.MethodName) prog_3_method_2_code (2 : Nat) (Option.some Jvm.ClassFile.FieldType.int)).before args0 about1 = true := code_word (m := ⟨2, 0⟩) (meth := k2m0) (c := k2c0) (by decide +kernel) rfl rfl rfl (by decide +kernel)
set_option maxRecDepth 65536 in
theorem w_c2 : (Jvm.Cond.code ({ cls := "com/example/streamwarden/streamwarden/detect/Frame", name := "checkSize", desc := "(II)V" } : Jvm.MethodName) prog_3_method_10_code (2 : Nat) (Option.none : Option Jvm.ClassFile.FieldType)).before args0 about1 = true := code_word (m := ⟨2, 1⟩) (meth := k2m1) (c := k2c1) (by decide +kernel) rfl rfl rfl (by decide +kernel)
set_option maxRecDepth 65536 in
theorem w_c3 : (Jvm.Cond.code ({ cls := "com/example/streamwarden/streamwarden/detect/Frame", name := "chromaSize", desc := "(II)I" } : Jvm.MethodName) prog_3_method_11_code (2 : Nat) (Option.some Jvm.ClassFile.FieldType.int)).before args0 about1 = true := code_word (m := ⟨2, 2⟩) (meth := k2m2) (c := k2c2) (by decide +kernel) rfl rfl rfl (by decide +kernel)
def codes1 : List Jvm.Cond := [Jvm.Cond.code x code maxLocals ret, Jvm.Cond.code ({ cls := "com/example/streamwarden/streamwarden/detect/Frame", name := "byteCount", desc := "(II)I" } : Jvm.MethodName) prog_3_method_2_code (2 : Nat) (Option.some Jvm.ClassFile.FieldType.int), Jvm.Cond.code ({ cls := "com/example/streamwarden/streamwarden/detect/Frame", name := "checkSize", desc := "(II)V" } : Jvm.MethodName) prog_3_method_10_code (2 : Nat) (Option.none : Option Jvm.ClassFile.FieldType), Jvm.Cond.code ({ cls := "com/example/streamwarden/streamwarden/detect/Frame", name := "chromaSize", desc := "(II)I" } : Jvm.MethodName) prog_3_method_11_code (2 : Nat) (Option.some Jvm.ClassFile.FieldType.int)]
set_option maxRecDepth 65536 in
theorem codes_eq : words1.filter isCode = codes1 := rfl
theorem w_codes : ∀ c ∈ words1.filter isCode, c.before args0 about1 = true := by
  rw [codes_eq]
  intro c hc
  simp only [codes1, List.mem_cons, List.not_mem_nil, or_false] at hc
  rcases hc with rfl | rfl | rfl | rfl
  · exact w_c0
  · exact w_c1
  · exact w_c2
  · exact w_c3
set_option maxRecDepth 65536 in
theorem w_t1 : words1.all (fun c => isCode c || c.before args0 about1) = true := by decide +kernel
theorem w_tables : (allAtoms (Jvm.Cond.code x code maxLocals ret :: tables_1)).before args0 about1 = true := by
  rw [allAtoms_all]
  show words1.all (fun c => c.before args0 about1) = true
  refine all_split ?_ w_codes
  rw [w_t1]
set_option maxRecDepth 65536 in
theorem w_case : (Jvm.Cond.and given_1 narrow_1).before args0 about1 = true := by decide +kernel
theorem w_applies : (headSpec (Jvm.Cond.code x code maxLocals ret :: tables_1) room_1).applies x e0.platform about1 = true :=
  (Spec.applies_iff w_frames).mpr ⟨w_running, w_runnable, w_alone, w_named, w_hears, w_ripe, w_room, w_tables⟩
theorem atStart : AtStart classFile x code maxLocals ret World_1 tables_1 room_1 Calls_1 rest_1 Pre_1 launch0 p0 e0 about1 theMethod args0 below0 :=
  ⟨lists_1, trivial, launch0.admits_env _ _ _, launch0.least_env, fairChoices_fair.cas, fairChoices_fair.clock, w_frames, w_args, w_heap, w_applies, trivial, trivial, w_case⟩
end start1
theorem witness_1 : WitnessClaimed_1 := ⟨start1.p0, start1.e0, start1.about1, start1.theMethod, start1.args0, start1.below0, start1.atStart⟩
end Jvm.Pilot.@@N@@
