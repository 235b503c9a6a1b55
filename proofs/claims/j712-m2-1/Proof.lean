import JvmDerived
import JvmDerived.Pilot.@@N@@Statement
import JvmDerived.Pilot.@@N@@Code
set_option linter.unusedVariables false
set_option linter.unusedSimpArgs false
@@BLOCK:NumsL.lean.txt@@
namespace Jvm.Pilot.@@N@@
open Jvm Jvm.ClassFile Sem Op Lib Jvm.Free Jvm.Stand Jvm.LawKit Jvm.RoadKit Bundle Jvm.Pilot.@@N@@.Jvm.D
theorem own_m {Z : State} {aw : Array Value} (hw : ∀ d ∈ tables_1, d.before aw Z = true) (i : Nat) {d : Jvm.Cond} (h : tables_1[i]? = some d) : d.before aw Z = true := hw d (List.mem_of_getElem? h)
theorem own_hk {α : Type} {k : Nat} {a b : Array α} (x : k ≤ b.size) (e : a = b) : k ≤ a.size := e ▸ x
theorem own_tnc (x : Int32) : x.toNatClampNeg = x.toInt.toNat := rfl
theorem own_lc (x y : Int64) : lcmpW x y = if x > y then 1 else if x = y then 0 else -1 := rfl
theorem own_lt (x y : Int64) : lcmpW x y < 0 ↔ x < y := by
  rw [own_lc]; split
  · rename_i h; exact ⟨fun q => absurd q (by decide), fun q => absurd h (Int64.lt_asymm q)⟩
  · split
    · rename_i h1 h2; subst h2; exact ⟨fun q => absurd q (by decide), fun q => absurd q Int64.lt_irrefl⟩
    · rename_i h1 h2; exact ⟨fun _ => (Int64.lt_or_lt_of_ne h2).resolve_right h1, fun _ => by decide⟩
theorem own_gt (x y : Int64) : 0 < lcmpW x y ↔ y < x := by
  rw [own_lc]; split
  · rename_i h; exact ⟨fun _ => h, fun _ => by decide⟩
  · split
    · rename_i h1 h2; exact ⟨fun q => absurd q (by decide), fun q => absurd q h1⟩
    · rename_i h1 h2; exact ⟨fun q => absurd q (by decide), fun q => absurd q h1⟩
theorem own_eq (x y : Int64) : lcmpW x y = 0 ↔ x = y := by
  rw [own_lc]; split
  · rename_i h; exact ⟨fun q => absurd q (by decide), fun q => absurd (q ▸ h) Int64.lt_irrefl⟩
  · split
    · rename_i h1 h2; exact ⟨fun _ => h2, fun _ => rfl⟩
    · rename_i h1 h2; exact ⟨fun q => absurd q (by decide), fun q => absurd q h2⟩
def own_i : Nat → Int32
  | 0 => 0
  | n + 1 => own_i n + (1 : Int32)
def own_o (s : Int32) (xs : List Int32) : Nat → Int32
  | 0 => s
  | n + 1 => own_o s xs n ||| xs.getD n 0
def own_k (s : Int32) (xs : List Int32) : Nat → Int64
  | 0 => s.toInt64
  | n + 1 => own_k s xs n ||| ((xs.getD n 0).toInt64 <<< (((3 : Int32) * (own_i n + (1 : Int32))) &&& 0x3f).toInt64)
theorem own_in : ∀ n : Nat, n < 2147483648 → (own_i n).toInt = n
  | 0, _ => rfl
  | n + 1, h => by
    have ih := own_in n (by omega)
    have o : (1 : Int32).toInt = 1 := rfl
    show (own_i n + (1 : Int32)).toInt = _
    rw [Jvm.Kit.i32_add] <;> rw [ih, o] <;> omega
theorem own_tn (n : Nat) (h : n < 2147483648) : (own_i n).toNatClampNeg = n := by
  have := own_in n h
  simp only [own_tnc, this]; omega
theorem own_iN (p : Int32) (h : ¬ p < (0 : Int32)) : own_i p.toNatClampNeg = p := by
  have z : (0 : Int32).toInt = 0 := rfl
  have hl := p.toInt_lt
  rw [Int32.lt_iff_toInt_lt] at h
  rw [← Int32.toInt_inj, own_in]
  · simp only [own_tnc]; omega
  · simp only [own_tnc]; omega
theorem own_lt_in {p : Int32} {n : Nat} (h : n < p.toNatClampNeg) : own_i n < p := by
  have hl := p.toInt_lt
  simp only [own_tnc] at h
  rw [Int32.lt_iff_toInt_lt, own_in n (by omega)]; omega
theorem own_lt_out {p : Int32} (h : ¬ p < (0 : Int32)) : ¬ own_i p.toNatClampNeg < p := by
  rw [own_iN p h]; exact Int32.lt_irrefl
theorem own_idx {p z : Int32} {n : Nat} (h : n < p.toNatClampNeg) (hz : ¬ z < p) : ¬ own_i n < 0 ∧ own_i n < z := by
  have q := own_lt_in h
  have hl := p.toInt_lt
  simp only [own_tnc] at h
  have e := own_in n (by omega)
  have z0 : (0 : Int32).toInt = 0 := rfl
  rw [Int32.lt_iff_toInt_lt] at *; rw [Int32.lt_iff_toInt_lt]; omega
theorem own_gm (l : List Int32) (n : Nat) : (l.map Value.int).getD n (.int 0) = .int (l.getD n 0) := by
  simp only [List.getD_eq_getElem?_getD, List.getElem?_map]
  cases l[n]? <;> rfl
theorem own_get {p : Int32} (l : List Int32) {n : Nat} (h : n < p.toNatClampNeg) : (l.map Value.int).getD (own_i n).toNatClampNeg (.int (0 : Int32)) = .int (l.getD n 0) := by
  have hl := p.toInt_lt
  rw [own_tn n (by simp only [own_tnc] at h; omega)]; exact own_gm l n
theorem d1_0 : decode prog_80_method_2_code 0 = .ok (.iload_n 2, 1) := by decide +kernel
theorem d1_1 : decode prog_80_method_2_code 1 = .ok (.bipush 20, 2) := by decide +kernel
theorem d1_3 : decode prog_80_method_2_code 3 = .ok (.if_icmp .lt 7, 3) := by decide +kernel
theorem d1_10 : decode prog_80_method_2_code 10 = .ok (.iload_n 0, 1) := by decide +kernel
theorem d1_11 : decode prog_80_method_2_code 11 = .ok (.i2l, 1) := by decide +kernel
theorem d1_12 : decode prog_80_method_2_code 12 = .ok (.lstore_n 3, 1) := by decide +kernel
theorem d1_13 : decode prog_80_method_2_code 13 = .ok (.iload_n 0, 1) := by decide +kernel
theorem d1_14 : decode prog_80_method_2_code 14 = .ok (.istore 5, 2) := by decide +kernel
theorem d1_16 : decode prog_80_method_2_code 16 = .ok (.iconst 0, 1) := by decide +kernel
theorem d1_17 : decode prog_80_method_2_code 17 = .ok (.istore 6, 2) := by decide +kernel
theorem d1_19 : decode prog_80_method_2_code 19 = .ok (.iload 6, 2) := by decide +kernel
theorem d1_21 : decode prog_80_method_2_code 21 = .ok (.iload_n 2, 1) := by decide +kernel
theorem d1_22 : decode prog_80_method_2_code 22 = .ok (.if_icmp .ge 33, 3) := by decide +kernel
theorem d1_25 : decode prog_80_method_2_code 25 = .ok (.iload 5, 2) := by decide +kernel
theorem d1_27 : decode prog_80_method_2_code 27 = .ok (.aload_n 1, 1) := by decide +kernel
theorem d1_28 : decode prog_80_method_2_code 28 = .ok (.iload 6, 2) := by decide +kernel
theorem d1_30 : decode prog_80_method_2_code 30 = .ok (.iaload, 1) := by decide +kernel
theorem d1_31 : decode prog_80_method_2_code 31 = .ok (.ior, 1) := by decide +kernel
theorem d1_32 : decode prog_80_method_2_code 32 = .ok (.istore 5, 2) := by decide +kernel
theorem d1_34 : decode prog_80_method_2_code 34 = .ok (.lload_n 3, 1) := by decide +kernel
theorem d1_35 : decode prog_80_method_2_code 35 = .ok (.aload_n 1, 1) := by decide +kernel
theorem d1_36 : decode prog_80_method_2_code 36 = .ok (.iload 6, 2) := by decide +kernel
theorem d1_38 : decode prog_80_method_2_code 38 = .ok (.iaload, 1) := by decide +kernel
theorem d1_39 : decode prog_80_method_2_code 39 = .ok (.i2l, 1) := by decide +kernel
theorem d1_40 : decode prog_80_method_2_code 40 = .ok (.iconst 3, 1) := by decide +kernel
theorem d1_41 : decode prog_80_method_2_code 41 = .ok (.iload 6, 2) := by decide +kernel
theorem d1_43 : decode prog_80_method_2_code 43 = .ok (.iconst 1, 1) := by decide +kernel
theorem d1_44 : decode prog_80_method_2_code 44 = .ok (.iadd, 1) := by decide +kernel
theorem d1_45 : decode prog_80_method_2_code 45 = .ok (.imul, 1) := by decide +kernel
theorem d1_46 : decode prog_80_method_2_code 46 = .ok (.lshl, 1) := by decide +kernel
theorem d1_47 : decode prog_80_method_2_code 47 = .ok (.lor, 1) := by decide +kernel
theorem d1_48 : decode prog_80_method_2_code 48 = .ok (.lstore_n 3, 1) := by decide +kernel
theorem d1_49 : decode prog_80_method_2_code 49 = .ok (.iinc 6 1, 3) := by decide +kernel
theorem d1_52 : decode prog_80_method_2_code 52 = .ok (.goto (-33), 3) := by decide +kernel
theorem d1_55 : decode prog_80_method_2_code 55 = .ok (.iload 5, 2) := by decide +kernel
theorem d1_57 : decode prog_80_method_2_code 57 = .ok (.bipush 8, 2) := by decide +kernel
theorem d1_59 : decode prog_80_method_2_code 59 = .ok (.if_icmp .ge 15, 3) := by decide +kernel
theorem d1_62 : decode prog_80_method_2_code 62 = .ok (.lload_n 3, 1) := by decide +kernel
theorem d1_63 : decode prog_80_method_2_code 63 = .ok (.lconst 1, 1) := by decide +kernel
theorem d1_64 : decode prog_80_method_2_code 64 = .ok (.iconst 3, 1) := by decide +kernel
theorem d1_65 : decode prog_80_method_2_code 65 = .ok (.iload_n 2, 1) := by decide +kernel
theorem d1_66 : decode prog_80_method_2_code 66 = .ok (.iconst 1, 1) := by decide +kernel
theorem d1_67 : decode prog_80_method_2_code 67 = .ok (.iadd, 1) := by decide +kernel
theorem d1_68 : decode prog_80_method_2_code 68 = .ok (.imul, 1) := by decide +kernel
theorem d1_69 : decode prog_80_method_2_code 69 = .ok (.lshl, 1) := by decide +kernel
theorem d1_70 : decode prog_80_method_2_code 70 = .ok (.lor, 1) := by decide +kernel
theorem d1_71 : decode prog_80_method_2_code 71 = .ok (.goto 6, 3) := by decide +kernel
theorem d1_74 : decode prog_80_method_2_code 74 = .ok (.ldc2_w 28, 3) := by decide +kernel
theorem d1_77 : decode prog_80_method_2_code 77 = .ok (.lreturn, 1) := by decide +kernel
theorem d1_6 : decode prog_80_method_2_code 6 = .ok (.ldc2_w 28, 3) := by decide +kernel
theorem d1_9 : decode prog_80_method_2_code 9 = .ok (.lreturn, 1) := by decide +kernel
def j1_0 (p0 : Int32) (p2 : Int32) (xs : List Int32) : Int64 := (if (own_o p0 xs p2.toNatClampNeg) < (8 : Int32) then ((own_k p0 xs p2.toNatClampNeg) ||| ((1 : Int64) <<< (((3 : Int32) * (p2 + (1 : Int32))) &&& 0x3f).toInt64)) else (-1 : Int64))
def v1 (p0 : Int32) (p2 : Int32) (xs : List Int32) : Int64 := (if p2 < (20 : Int32) then (j1_0 p0 p2 xs) else (-1 : Int64))
theorem pn_1 : plainName "com/example/dedlock/dedlock/csp/StateTable" = true := by first | (simp [plainName, overriddenIn]; done) | decide +kernel
theorem ef1 (m : MethodId) (x0 : Int32) (x1 : Addr) (x2 : Int32) : entryFrame m #[(.int x0), (.ref x1), (.int x2)] 7 = mkF m 0 #[.val (.int x0), .val (.ref x1), .val (.int x2), .unset, .unset, .unset, .unset] [] := by first | (simp [entryFrame, mkF, argsToLocals, Value.category]; done) | rfl
abbrev rr1 : Room := { frames := 0, cells := 0, slots := 0, locals := 0 }
def Q1 (Z : State) (p0 : Int32) (a1 : Addr) (p2 : Int32) (xs : List Int32) (k_a1 : ClassId) (h0 : Heap) (n0 : Nat) (v : Option Value) (h : Heap) (L : List Loc) : Prop := v = some (.long (v1 p0 p2 xs)) ∧ Fr n0 L ∧ h = h0
set_option maxRecDepth 65536 in
set_option maxHeartbeats 40000000 in
theorem rm1 (l : Launch) (Z : State) (aw : Array Value) (hw : ∀ d ∈ tables_1, d.before aw Z = true) (ws : List Jvm.Cond) (p0 : Int32) (a1 : Addr) (p2 : Int32) (xs : List Int32) (k_a1 : ClassId) (h0 : Heap) (n0 : Nat) (Z0 : n0 ≤ h0.size) (V_a1 : Arv Z h0 a1 k_a1 .int (19 : Int32) (xs.map Value.int) (.int (0 : Int32))) (hp0 : ¬ p2 < (0 : Int32)) (hp1 : ¬ (19 : Int32) < p2) :
    MetFree l (⟨"com/example/dedlock/dedlock/csp/StateTable", "key", "(I[II)J"⟩ : MethodName) (head1 (Jvm.Cond.code (⟨"com/example/dedlock/dedlock/csp/StateTable", "key", "(I[II)J"⟩ : MethodName) prog_80_method_2_code 7 (some .long) :: ws) rr1) (fun a U => a = #[(.int p0), (.ref a1), (.int p2)] ∧ Z.Warmed39 U.vm ∧ U.heap = h0) (fun _ _ _ _ _ => True) (fun _ U o U' => ∃ v L, o = .returned v ∧ Q1 Z p0 a1 p2 xs k_a1 h0 n0 v U'.heap L ∧ FrameEnd U o U' L rr1.cells rr1.slots) := by
  refine MetFree.of_bodySF (plainFor_of_name pn_1) hisR ?_
  intro p e s m args below meth c s₁ Bd hml0 hP hK
  obtain ⟨rfl, hZ, hh⟩ := hP
  have hx := Bd.exec
  have hby := Bd.bytes
  have hml : c.maxLocals = 7 := hml0
  have hown : s.vm.findClass "com/example/dedlock/dedlock/csp/StateTable" = some m.cls := findClass_of_methodNamed Bd.named
  have hnm := (name_of_methodNamed Bd.named Bd.method).1
  have X0 : Stand p l e rr1 s m #[(.int p0), (.ref a1), (.int p2)] below meth c s₁ [] 0 0 := Stand.of_body Bd
  have e0 : s₁.heap = h0 := by rw [← hh, Bd.state]; rfl
  have N0 := Fr.nil n0
  have pre0 : ∀ t, Steps p.tables e below (s₁.setTop (mkF m 0 #[.val (.int p0), .val (.ref a1), .val (.int p2), .unset, .unset, .unset, .unset] [])) t → Steps p.tables e below (s₁.setTop (entryFrame m #[(.int p0), (.ref a1), (.int p2)] 7)) t := fun t k => castTop (ef1 m p0 a1 p2) k
  have pre2 := fun (t : State) (k : Steps p.tables e below (s₁.setTop (mkF m 3 #[.val (.int p0), .val (.ref a1), .val (.int p2), .unset, .unset, .unset, .unset] [(.int (20 : Int32)), (.int p2)])) t) => pre0 t (by
    show Steps p.tables e below (s₁.setTop (mkF m 0 #[.val (.int p0), .val (.ref a1), .val (.int p2), .unset, .unset, .unset, .unset] [])) _
    refine XS.iloadN X0.here hx rfl (hb hby d1_0) rfl ?_
    show Steps p.tables e below (s₁.setTop (mkF m 1 #[.val (.int p0), .val (.ref a1), .val (.int p2), .unset, .unset, .unset, .unset] [(.int p2)])) _
    refine XS.bipush X0.here hx rfl (hb hby d1_1) ?_
    exact k)
  by_cases hc1 : p2 < (20 : Int32)
  · skip
    have pre3 := fun (t : State) (k : Steps p.tables e below (s₁.setTop (mkF m 19 #[.val (.int p0), .val (.ref a1), .val (.int p2), .val (.long (p0.toInt64)), .second, .val (.int p0), .val (.int (0 : Int32))] [])) t) => pre2 t (by
      show Steps p.tables e below (s₁.setTop (mkF m 3 #[.val (.int p0), .val (.ref a1), .val (.int p2), .unset, .unset, .unset, .unset] [(.int (20 : Int32)), (.int p2)])) _
      refine XS.icmpYes X0.here hx rfl (pc0 := 3) (pc' := 10) rfl (hb hby d1_3) rfl (tlt hc1).1 (by decide) (by decide) ?_
      show Steps p.tables e below (s₁.setTop (mkF m 10 #[.val (.int p0), .val (.ref a1), .val (.int p2), .unset, .unset, .unset, .unset] [])) _
      refine XS.iloadN X0.here hx rfl (hb hby d1_10) rfl ?_
      show Steps p.tables e below (s₁.setTop (mkF m 11 #[.val (.int p0), .val (.ref a1), .val (.int p2), .unset, .unset, .unset, .unset] [(.int p0)])) _
      refine XS.i2l X0.here hx rfl (hb hby d1_11) rfl ?_
      show Steps p.tables e below (s₁.setTop (mkF m 12 #[.val (.int p0), .val (.ref a1), .val (.int p2), .unset, .unset, .unset, .unset] [(.long (p0.toInt64))])) _
      refine XS.lstoreN X0.here hx rfl (hb hby d1_12) rfl (l' := #[.val (.int p0), .val (.ref a1), .val (.int p2), .val (.long (p0.toInt64)), .second, .unset, .unset]) rfl ?_
      show Steps p.tables e below (s₁.setTop (mkF m 13 #[.val (.int p0), .val (.ref a1), .val (.int p2), .val (.long (p0.toInt64)), .second, .unset, .unset] [])) _
      refine XS.iloadN X0.here hx rfl (hb hby d1_13) rfl ?_
      show Steps p.tables e below (s₁.setTop (mkF m 14 #[.val (.int p0), .val (.ref a1), .val (.int p2), .val (.long (p0.toInt64)), .second, .unset, .unset] [(.int p0)])) _
      refine XS.istore X0.here hx rfl (hb hby d1_14) rfl (l' := #[.val (.int p0), .val (.ref a1), .val (.int p2), .val (.long (p0.toInt64)), .second, .val (.int p0), .unset]) rfl ?_
      show Steps p.tables e below (s₁.setTop (mkF m 16 #[.val (.int p0), .val (.ref a1), .val (.int p2), .val (.long (p0.toInt64)), .second, .val (.int p0), .unset] [])) _
      refine XS.iconst X0.here hx rfl (hb hby d1_16) ?_
      show Steps p.tables e below (s₁.setTop (mkF m 17 #[.val (.int p0), .val (.ref a1), .val (.int p2), .val (.long (p0.toInt64)), .second, .val (.int p0), .unset] [(.int (0 : Int32))])) _
      refine XS.istore X0.here hx rfl (hb hby d1_17) rfl (l' := #[.val (.int p0), .val (.ref a1), .val (.int p2), .val (.long (p0.toInt64)), .second, .val (.int p0), .val (.int (0 : Int32))]) rfl ?_
      exact k)
    have lp4 : ∀ d n : Nat, n + d = p2.toNatClampNeg → ∀ t, Steps p.tables e below (s₁.setTop (mkF m 19 #[.val (.int p0), .val (.ref a1), .val (.int p2), .val (.long (own_k p0 xs p2.toNatClampNeg)), .second, .val (.int (own_o p0 xs p2.toNatClampNeg)), .val (.int (own_i p2.toNatClampNeg))] [])) t → Steps p.tables e below (s₁.setTop (mkF m 19 #[.val (.int p0), .val (.ref a1), .val (.int p2), .val (.long (own_k p0 xs n)), .second, .val (.int (own_o p0 xs n)), .val (.int (own_i n))] [])) t := by
      intro d
      induction d with
      | zero =>
        intro n hn t k
        have hn' : n = p2.toNatClampNeg := by omega
        rw [hn']; exact k
      | succ d ih =>
        intro n hn t k
        have k := ih (n + 1) (by omega) t k
        have hnN : n < p2.toNatClampNeg := by omega
        obtain ⟨cl5, Ar5, q5, S5, M5, H5, G5⟩ := id V_a1
        have hin6 : ¬ ((own_i n) < 0 ∨ cl5.slots.size ≤ ((own_i n)).toNatClampNeg) := inb_of S5 (own_idx hnN hp1)
        have hat7 : cl5.slots[((own_i n)).toNatClampNeg]? = some (.int (xs.getD n 0)) := H5.at hin6 (own_get (p := p2) xs hnN)
        obtain ⟨cl8, Ar8, q8, S8, M8, H8, G8⟩ := id V_a1
        have hin9 : ¬ ((own_i n) < 0 ∨ cl8.slots.size ≤ ((own_i n)).toNatClampNeg) := inb_of S8 (own_idx hnN hp1)
        have hat10 : cl8.slots[((own_i n)).toNatClampNeg]? = some (.int (xs.getD n 0)) := H8.at hin9 (own_get (p := p2) xs hnN)
        show Steps p.tables e below (s₁.setTop (mkF m 19 #[.val (.int p0), .val (.ref a1), .val (.int p2), .val (.long (own_k p0 xs n)), .second, .val (.int (own_o p0 xs n)), .val (.int (own_i n))] [])) _
        refine XS.iload X0.here hx rfl (hb hby d1_19) rfl ?_
        show Steps p.tables e below (s₁.setTop (mkF m 21 #[.val (.int p0), .val (.ref a1), .val (.int p2), .val (.long (own_k p0 xs n)), .second, .val (.int (own_o p0 xs n)), .val (.int (own_i n))] [(.int (own_i n))])) _
        refine XS.iloadN X0.here hx rfl (hb hby d1_21) rfl ?_
        show Steps p.tables e below (s₁.setTop (mkF m 22 #[.val (.int p0), .val (.ref a1), .val (.int p2), .val (.long (own_k p0 xs n)), .second, .val (.int (own_o p0 xs n)), .val (.int (own_i n))] [(.int p2), (.int (own_i n))])) _
        refine XS.icmpNo X0.here hx rfl (hb hby d1_22) rfl (tlt (own_lt_in hnN)).2.1 ?_
        show Steps p.tables e below (s₁.setTop (mkF m 25 #[.val (.int p0), .val (.ref a1), .val (.int p2), .val (.long (own_k p0 xs n)), .second, .val (.int (own_o p0 xs n)), .val (.int (own_i n))] [])) _
        refine XS.iload X0.here hx rfl (hb hby d1_25) rfl ?_
        show Steps p.tables e below (s₁.setTop (mkF m 27 #[.val (.int p0), .val (.ref a1), .val (.int p2), .val (.long (own_k p0 xs n)), .second, .val (.int (own_o p0 xs n)), .val (.int (own_i n))] [(.int (own_o p0 xs n))])) _
        refine XS.aloadN X0.here hx rfl (hb hby d1_27) rfl rfl ?_
        show Steps p.tables e below (s₁.setTop (mkF m 28 #[.val (.int p0), .val (.ref a1), .val (.int p2), .val (.long (own_k p0 xs n)), .second, .val (.int (own_o p0 xs n)), .val (.int (own_i n))] [(.ref a1), (.int (own_o p0 xs n))])) _
        refine XS.iload X0.here hx rfl (hb hby d1_28) rfl ?_
        show Steps p.tables e below (s₁.setTop (mkF m 30 #[.val (.int p0), .val (.ref a1), .val (.int p2), .val (.long (own_k p0 xs n)), .second, .val (.int (own_o p0 xs n)), .val (.int (own_i n))] [(.int (own_i n)), (.ref a1), (.int (own_o p0 xs n))])) _
        refine X0.iaload hx (j := (own_i n)) (v := (.int (xs.getD n 0))) (by rw [e0]; exact Ar5.1) (State.isArrayOf_alike hZ.alike Ar5.2.1) Ar5.2.2 hin6 hat7 (g := (mkF m 30 #[.val (.int p0), .val (.ref a1), .val (.int p2), .val (.long (own_k p0 xs n)), .second, .val (.int (own_o p0 xs n)), .val (.int (own_i n))] [(.int (own_i n)), (.ref a1), (.int (own_o p0 xs n))])) rfl rfl (hb hby d1_30) _ ?_
        show Steps p.tables e below (s₁.setTop (mkF m 31 #[.val (.int p0), .val (.ref a1), .val (.int p2), .val (.long (own_k p0 xs n)), .second, .val (.int (own_o p0 xs n)), .val (.int (own_i n))] [(.int (xs.getD n 0)), (.int (own_o p0 xs n))])) _
        refine XS.ior X0.here hx rfl (hb hby d1_31) rfl ?_
        show Steps p.tables e below (s₁.setTop (mkF m 32 #[.val (.int p0), .val (.ref a1), .val (.int p2), .val (.long (own_k p0 xs n)), .second, .val (.int (own_o p0 xs n)), .val (.int (own_i n))] [(.int ((own_o p0 xs n) ||| (xs.getD n 0)))])) _
        refine XS.istore X0.here hx rfl (hb hby d1_32) rfl (l' := #[.val (.int p0), .val (.ref a1), .val (.int p2), .val (.long (own_k p0 xs n)), .second, .val (.int ((own_o p0 xs n) ||| (xs.getD n 0))), .val (.int (own_i n))]) rfl ?_
        show Steps p.tables e below (s₁.setTop (mkF m 34 #[.val (.int p0), .val (.ref a1), .val (.int p2), .val (.long (own_k p0 xs n)), .second, .val (.int ((own_o p0 xs n) ||| (xs.getD n 0))), .val (.int (own_i n))] [])) _
        refine XS.lloadN X0.here hx rfl (hb hby d1_34) rfl ?_
        show Steps p.tables e below (s₁.setTop (mkF m 35 #[.val (.int p0), .val (.ref a1), .val (.int p2), .val (.long (own_k p0 xs n)), .second, .val (.int ((own_o p0 xs n) ||| (xs.getD n 0))), .val (.int (own_i n))] [(.long (own_k p0 xs n))])) _
        refine XS.aloadN X0.here hx rfl (hb hby d1_35) rfl rfl ?_
        show Steps p.tables e below (s₁.setTop (mkF m 36 #[.val (.int p0), .val (.ref a1), .val (.int p2), .val (.long (own_k p0 xs n)), .second, .val (.int ((own_o p0 xs n) ||| (xs.getD n 0))), .val (.int (own_i n))] [(.ref a1), (.long (own_k p0 xs n))])) _
        refine XS.iload X0.here hx rfl (hb hby d1_36) rfl ?_
        show Steps p.tables e below (s₁.setTop (mkF m 38 #[.val (.int p0), .val (.ref a1), .val (.int p2), .val (.long (own_k p0 xs n)), .second, .val (.int ((own_o p0 xs n) ||| (xs.getD n 0))), .val (.int (own_i n))] [(.int (own_i n)), (.ref a1), (.long (own_k p0 xs n))])) _
        refine X0.iaload hx (j := (own_i n)) (v := (.int (xs.getD n 0))) (by rw [e0]; exact Ar8.1) (State.isArrayOf_alike hZ.alike Ar8.2.1) Ar8.2.2 hin9 hat10 (g := (mkF m 38 #[.val (.int p0), .val (.ref a1), .val (.int p2), .val (.long (own_k p0 xs n)), .second, .val (.int ((own_o p0 xs n) ||| (xs.getD n 0))), .val (.int (own_i n))] [(.int (own_i n)), (.ref a1), (.long (own_k p0 xs n))])) rfl rfl (hb hby d1_38) _ ?_
        show Steps p.tables e below (s₁.setTop (mkF m 39 #[.val (.int p0), .val (.ref a1), .val (.int p2), .val (.long (own_k p0 xs n)), .second, .val (.int ((own_o p0 xs n) ||| (xs.getD n 0))), .val (.int (own_i n))] [(.int (xs.getD n 0)), (.long (own_k p0 xs n))])) _
        refine XS.i2l X0.here hx rfl (hb hby d1_39) rfl ?_
        show Steps p.tables e below (s₁.setTop (mkF m 40 #[.val (.int p0), .val (.ref a1), .val (.int p2), .val (.long (own_k p0 xs n)), .second, .val (.int ((own_o p0 xs n) ||| (xs.getD n 0))), .val (.int (own_i n))] [(.long ((xs.getD n 0).toInt64)), (.long (own_k p0 xs n))])) _
        refine XS.iconst X0.here hx rfl (hb hby d1_40) ?_
        show Steps p.tables e below (s₁.setTop (mkF m 41 #[.val (.int p0), .val (.ref a1), .val (.int p2), .val (.long (own_k p0 xs n)), .second, .val (.int ((own_o p0 xs n) ||| (xs.getD n 0))), .val (.int (own_i n))] [(.int (3 : Int32)), (.long ((xs.getD n 0).toInt64)), (.long (own_k p0 xs n))])) _
        refine XS.iload X0.here hx rfl (hb hby d1_41) rfl ?_
        show Steps p.tables e below (s₁.setTop (mkF m 43 #[.val (.int p0), .val (.ref a1), .val (.int p2), .val (.long (own_k p0 xs n)), .second, .val (.int ((own_o p0 xs n) ||| (xs.getD n 0))), .val (.int (own_i n))] [(.int (own_i n)), (.int (3 : Int32)), (.long ((xs.getD n 0).toInt64)), (.long (own_k p0 xs n))])) _
        refine XS.iconst X0.here hx rfl (hb hby d1_43) ?_
        show Steps p.tables e below (s₁.setTop (mkF m 44 #[.val (.int p0), .val (.ref a1), .val (.int p2), .val (.long (own_k p0 xs n)), .second, .val (.int ((own_o p0 xs n) ||| (xs.getD n 0))), .val (.int (own_i n))] [(.int (1 : Int32)), (.int (own_i n)), (.int (3 : Int32)), (.long ((xs.getD n 0).toInt64)), (.long (own_k p0 xs n))])) _
        refine XS.iadd X0.here hx rfl (hb hby d1_44) rfl ?_
        show Steps p.tables e below (s₁.setTop (mkF m 45 #[.val (.int p0), .val (.ref a1), .val (.int p2), .val (.long (own_k p0 xs n)), .second, .val (.int ((own_o p0 xs n) ||| (xs.getD n 0))), .val (.int (own_i n))] [(.int ((own_i n) + (1 : Int32))), (.int (3 : Int32)), (.long ((xs.getD n 0).toInt64)), (.long (own_k p0 xs n))])) _
        refine XS.imul X0.here hx rfl (hb hby d1_45) rfl ?_
        show Steps p.tables e below (s₁.setTop (mkF m 46 #[.val (.int p0), .val (.ref a1), .val (.int p2), .val (.long (own_k p0 xs n)), .second, .val (.int ((own_o p0 xs n) ||| (xs.getD n 0))), .val (.int (own_i n))] [(.int ((3 : Int32) * ((own_i n) + (1 : Int32)))), (.long ((xs.getD n 0).toInt64)), (.long (own_k p0 xs n))])) _
        refine XS.lshl X0.here hx rfl (hb hby d1_46) rfl ?_
        show Steps p.tables e below (s₁.setTop (mkF m 47 #[.val (.int p0), .val (.ref a1), .val (.int p2), .val (.long (own_k p0 xs n)), .second, .val (.int ((own_o p0 xs n) ||| (xs.getD n 0))), .val (.int (own_i n))] [(.long (((xs.getD n 0).toInt64) <<< (((3 : Int32) * ((own_i n) + (1 : Int32))) &&& 0x3f).toInt64)), (.long (own_k p0 xs n))])) _
        refine XS.lor X0.here hx rfl (hb hby d1_47) rfl ?_
        show Steps p.tables e below (s₁.setTop (mkF m 48 #[.val (.int p0), .val (.ref a1), .val (.int p2), .val (.long (own_k p0 xs n)), .second, .val (.int ((own_o p0 xs n) ||| (xs.getD n 0))), .val (.int (own_i n))] [(.long ((own_k p0 xs n) ||| (((xs.getD n 0).toInt64) <<< (((3 : Int32) * ((own_i n) + (1 : Int32))) &&& 0x3f).toInt64)))])) _
        refine XS.lstoreN X0.here hx rfl (hb hby d1_48) rfl (l' := #[.val (.int p0), .val (.ref a1), .val (.int p2), .val (.long ((own_k p0 xs n) ||| (((xs.getD n 0).toInt64) <<< (((3 : Int32) * ((own_i n) + (1 : Int32))) &&& 0x3f).toInt64))), .second, .val (.int ((own_o p0 xs n) ||| (xs.getD n 0))), .val (.int (own_i n))]) rfl ?_
        show Steps p.tables e below (s₁.setTop (mkF m 49 #[.val (.int p0), .val (.ref a1), .val (.int p2), .val (.long ((own_k p0 xs n) ||| (((xs.getD n 0).toInt64) <<< (((3 : Int32) * ((own_i n) + (1 : Int32))) &&& 0x3f).toInt64))), .second, .val (.int ((own_o p0 xs n) ||| (xs.getD n 0))), .val (.int (own_i n))] [])) _
        refine XS.iinc X0.here hx rfl (hb hby d1_49) rfl (l' := #[.val (.int p0), .val (.ref a1), .val (.int p2), .val (.long ((own_k p0 xs n) ||| (((xs.getD n 0).toInt64) <<< (((3 : Int32) * ((own_i n) + (1 : Int32))) &&& 0x3f).toInt64))), .second, .val (.int ((own_o p0 xs n) ||| (xs.getD n 0))), .val (.int ((own_i n) + (1 : Int32)))]) rfl ?_
        show Steps p.tables e below (s₁.setTop (mkF m 52 #[.val (.int p0), .val (.ref a1), .val (.int p2), .val (.long ((own_k p0 xs n) ||| (((xs.getD n 0).toInt64) <<< (((3 : Int32) * ((own_i n) + (1 : Int32))) &&& 0x3f).toInt64))), .second, .val (.int ((own_o p0 xs n) ||| (xs.getD n 0))), .val (.int ((own_i n) + (1 : Int32)))] [])) _
        refine XS.goto X0.here hx rfl (pc0 := 52) (pc' := 19) rfl (hb hby d1_52) (by decide) (by decide) ?_
        exact k
    have pre11 := fun (t : State) (k : Steps p.tables e below (s₁.setTop (mkF m 19 #[.val (.int p0), .val (.ref a1), .val (.int p2), .val (.long (own_k p0 xs p2.toNatClampNeg)), .second, .val (.int (own_o p0 xs p2.toNatClampNeg)), .val (.int (own_i p2.toNatClampNeg))] [])) t) => pre3 t (lp4 p2.toNatClampNeg 0 (Nat.zero_add _) t k)
    have pre12 := fun (t : State) (k : Steps p.tables e below (s₁.setTop (mkF m 59 #[.val (.int p0), .val (.ref a1), .val (.int p2), .val (.long (own_k p0 xs p2.toNatClampNeg)), .second, .val (.int (own_o p0 xs p2.toNatClampNeg)), .val (.int (own_i p2.toNatClampNeg))] [(.int (8 : Int32)), (.int (own_o p0 xs p2.toNatClampNeg))])) t) => pre11 t (by
      show Steps p.tables e below (s₁.setTop (mkF m 19 #[.val (.int p0), .val (.ref a1), .val (.int p2), .val (.long (own_k p0 xs p2.toNatClampNeg)), .second, .val (.int (own_o p0 xs p2.toNatClampNeg)), .val (.int (own_i p2.toNatClampNeg))] [])) _
      refine XS.iload X0.here hx rfl (hb hby d1_19) rfl ?_
      show Steps p.tables e below (s₁.setTop (mkF m 21 #[.val (.int p0), .val (.ref a1), .val (.int p2), .val (.long (own_k p0 xs p2.toNatClampNeg)), .second, .val (.int (own_o p0 xs p2.toNatClampNeg)), .val (.int (own_i p2.toNatClampNeg))] [(.int (own_i p2.toNatClampNeg))])) _
      refine XS.iloadN X0.here hx rfl (hb hby d1_21) rfl ?_
      show Steps p.tables e below (s₁.setTop (mkF m 22 #[.val (.int p0), .val (.ref a1), .val (.int p2), .val (.long (own_k p0 xs p2.toNatClampNeg)), .second, .val (.int (own_o p0 xs p2.toNatClampNeg)), .val (.int (own_i p2.toNatClampNeg))] [(.int p2), (.int (own_i p2.toNatClampNeg))])) _
      refine XS.icmpYes X0.here hx rfl (pc0 := 22) (pc' := 55) rfl (hb hby d1_22) rfl (flt (own_lt_out hp0)).2.1 (by decide) (by decide) ?_
      show Steps p.tables e below (s₁.setTop (mkF m 55 #[.val (.int p0), .val (.ref a1), .val (.int p2), .val (.long (own_k p0 xs p2.toNatClampNeg)), .second, .val (.int (own_o p0 xs p2.toNatClampNeg)), .val (.int (own_i p2.toNatClampNeg))] [])) _
      refine XS.iload X0.here hx rfl (hb hby d1_55) rfl ?_
      show Steps p.tables e below (s₁.setTop (mkF m 57 #[.val (.int p0), .val (.ref a1), .val (.int p2), .val (.long (own_k p0 xs p2.toNatClampNeg)), .second, .val (.int (own_o p0 xs p2.toNatClampNeg)), .val (.int (own_i p2.toNatClampNeg))] [(.int (own_o p0 xs p2.toNatClampNeg))])) _
      refine XS.bipush X0.here hx rfl (hb hby d1_57) ?_
      exact k)
    have pre13 := fun (t : State) (k : Steps p.tables e below (s₁.setTop (mkF m 77 #[.val (.int p0), .val (.ref a1), .val (.int p2), .val (.long (own_k p0 xs p2.toNatClampNeg)), .second, .val (.int (own_o p0 xs p2.toNatClampNeg)), .val (.int (own_i p2.toNatClampNeg))] [(.long (j1_0 p0 p2 xs))])) t) => pre12 t (by
      by_cases hc14 : (own_o p0 xs p2.toNatClampNeg) < (8 : Int32)
      · skip
        show Steps p.tables e below (s₁.setTop (mkF m 59 #[.val (.int p0), .val (.ref a1), .val (.int p2), .val (.long (own_k p0 xs p2.toNatClampNeg)), .second, .val (.int (own_o p0 xs p2.toNatClampNeg)), .val (.int (own_i p2.toNatClampNeg))] [(.int (8 : Int32)), (.int (own_o p0 xs p2.toNatClampNeg))])) _
        refine XS.icmpNo X0.here hx rfl (hb hby d1_59) rfl (tlt hc14).2.1 ?_
        show Steps p.tables e below (s₁.setTop (mkF m 62 #[.val (.int p0), .val (.ref a1), .val (.int p2), .val (.long (own_k p0 xs p2.toNatClampNeg)), .second, .val (.int (own_o p0 xs p2.toNatClampNeg)), .val (.int (own_i p2.toNatClampNeg))] [])) _
        refine XS.lloadN X0.here hx rfl (hb hby d1_62) rfl ?_
        show Steps p.tables e below (s₁.setTop (mkF m 63 #[.val (.int p0), .val (.ref a1), .val (.int p2), .val (.long (own_k p0 xs p2.toNatClampNeg)), .second, .val (.int (own_o p0 xs p2.toNatClampNeg)), .val (.int (own_i p2.toNatClampNeg))] [(.long (own_k p0 xs p2.toNatClampNeg))])) _
        refine XS.lconst X0.here hx rfl (hb hby d1_63) ?_
        show Steps p.tables e below (s₁.setTop (mkF m 64 #[.val (.int p0), .val (.ref a1), .val (.int p2), .val (.long (own_k p0 xs p2.toNatClampNeg)), .second, .val (.int (own_o p0 xs p2.toNatClampNeg)), .val (.int (own_i p2.toNatClampNeg))] [(.long (1 : Int64)), (.long (own_k p0 xs p2.toNatClampNeg))])) _
        refine XS.iconst X0.here hx rfl (hb hby d1_64) ?_
        show Steps p.tables e below (s₁.setTop (mkF m 65 #[.val (.int p0), .val (.ref a1), .val (.int p2), .val (.long (own_k p0 xs p2.toNatClampNeg)), .second, .val (.int (own_o p0 xs p2.toNatClampNeg)), .val (.int (own_i p2.toNatClampNeg))] [(.int (3 : Int32)), (.long (1 : Int64)), (.long (own_k p0 xs p2.toNatClampNeg))])) _
        refine XS.iloadN X0.here hx rfl (hb hby d1_65) rfl ?_
        show Steps p.tables e below (s₁.setTop (mkF m 66 #[.val (.int p0), .val (.ref a1), .val (.int p2), .val (.long (own_k p0 xs p2.toNatClampNeg)), .second, .val (.int (own_o p0 xs p2.toNatClampNeg)), .val (.int (own_i p2.toNatClampNeg))] [(.int p2), (.int (3 : Int32)), (.long (1 : Int64)), (.long (own_k p0 xs p2.toNatClampNeg))])) _
        refine XS.iconst X0.here hx rfl (hb hby d1_66) ?_
        show Steps p.tables e below (s₁.setTop (mkF m 67 #[.val (.int p0), .val (.ref a1), .val (.int p2), .val (.long (own_k p0 xs p2.toNatClampNeg)), .second, .val (.int (own_o p0 xs p2.toNatClampNeg)), .val (.int (own_i p2.toNatClampNeg))] [(.int (1 : Int32)), (.int p2), (.int (3 : Int32)), (.long (1 : Int64)), (.long (own_k p0 xs p2.toNatClampNeg))])) _
        refine XS.iadd X0.here hx rfl (hb hby d1_67) rfl ?_
        show Steps p.tables e below (s₁.setTop (mkF m 68 #[.val (.int p0), .val (.ref a1), .val (.int p2), .val (.long (own_k p0 xs p2.toNatClampNeg)), .second, .val (.int (own_o p0 xs p2.toNatClampNeg)), .val (.int (own_i p2.toNatClampNeg))] [(.int (p2 + (1 : Int32))), (.int (3 : Int32)), (.long (1 : Int64)), (.long (own_k p0 xs p2.toNatClampNeg))])) _
        refine XS.imul X0.here hx rfl (hb hby d1_68) rfl ?_
        show Steps p.tables e below (s₁.setTop (mkF m 69 #[.val (.int p0), .val (.ref a1), .val (.int p2), .val (.long (own_k p0 xs p2.toNatClampNeg)), .second, .val (.int (own_o p0 xs p2.toNatClampNeg)), .val (.int (own_i p2.toNatClampNeg))] [(.int ((3 : Int32) * (p2 + (1 : Int32)))), (.long (1 : Int64)), (.long (own_k p0 xs p2.toNatClampNeg))])) _
        refine XS.lshl X0.here hx rfl (hb hby d1_69) rfl ?_
        show Steps p.tables e below (s₁.setTop (mkF m 70 #[.val (.int p0), .val (.ref a1), .val (.int p2), .val (.long (own_k p0 xs p2.toNatClampNeg)), .second, .val (.int (own_o p0 xs p2.toNatClampNeg)), .val (.int (own_i p2.toNatClampNeg))] [(.long ((1 : Int64) <<< (((3 : Int32) * (p2 + (1 : Int32))) &&& 0x3f).toInt64)), (.long (own_k p0 xs p2.toNatClampNeg))])) _
        refine XS.lor X0.here hx rfl (hb hby d1_70) rfl ?_
        show Steps p.tables e below (s₁.setTop (mkF m 71 #[.val (.int p0), .val (.ref a1), .val (.int p2), .val (.long (own_k p0 xs p2.toNatClampNeg)), .second, .val (.int (own_o p0 xs p2.toNatClampNeg)), .val (.int (own_i p2.toNatClampNeg))] [(.long ((own_k p0 xs p2.toNatClampNeg) ||| ((1 : Int64) <<< (((3 : Int32) * (p2 + (1 : Int32))) &&& 0x3f).toInt64)))])) _
        refine XS.goto X0.here hx rfl (pc0 := 71) (pc' := 77) rfl (hb hby d1_71) (by decide) (by decide) ?_
        have hj15 : (j1_0 p0 p2 xs) = ((own_k p0 xs p2.toNatClampNeg) ||| ((1 : Int64) <<< (((3 : Int32) * (p2 + (1 : Int32))) &&& 0x3f).toInt64)) := by first | exact (if_pos hc14) | (unfold j1_0; first | (rw [if_pos hc14]) | (simp only [if_pos hc14]))
        rw [hj15] at k
        exact k
      · skip
        show Steps p.tables e below (s₁.setTop (mkF m 59 #[.val (.int p0), .val (.ref a1), .val (.int p2), .val (.long (own_k p0 xs p2.toNatClampNeg)), .second, .val (.int (own_o p0 xs p2.toNatClampNeg)), .val (.int (own_i p2.toNatClampNeg))] [(.int (8 : Int32)), (.int (own_o p0 xs p2.toNatClampNeg))])) _
        refine XS.icmpYes X0.here hx rfl (pc0 := 59) (pc' := 74) rfl (hb hby d1_59) rfl (flt hc14).2.1 (by decide) (by decide) ?_
        show Steps p.tables e below (s₁.setTop (mkF m 74 #[.val (.int p0), .val (.ref a1), .val (.int p2), .val (.long (own_k p0 xs p2.toNatClampNeg)), .second, .val (.int (own_o p0 xs p2.toNatClampNeg)), .val (.int (own_i p2.toNatClampNeg))] [])) _
        refine X0.ldc2Long hx hown (mvT hZ (hw _ (List.mem_of_getElem? (i := 11) rfl))) (g := (mkF m 74 #[.val (.int p0), .val (.ref a1), .val (.int p2), .val (.long (own_k p0 xs p2.toNatClampNeg)), .second, .val (.int (own_o p0 xs p2.toNatClampNeg)), .val (.int (own_i p2.toNatClampNeg))] [])) rfl (hb hby d1_74) _ ?_
        have hj16 : (j1_0 p0 p2 xs) = (-1 : Int64) := by first | exact (if_neg hc14) | (unfold j1_0; first | (rw [if_neg hc14]) | (simp only [if_neg hc14]))
        rw [hj16] at k
        exact k)
    obtain ⟨fs, hr, hrun, hended, hW, hsame⟩ := X0.leave (v := some (.long (j1_0 p0 p2 xs))) (fun h => by rw [Bd.returns] at h; cases h)
    refine ⟨_, _, pre13 _ ?_, hrun, hended, _, _, rfl, ?_, ⟨_, rfl⟩, hW, hsame.mono (by decide) (by decide)⟩
    · skip
      show Steps p.tables e below (s₁.setTop (mkF m 77 #[.val (.int p0), .val (.ref a1), .val (.int p2), .val (.long (own_k p0 xs p2.toNatClampNeg)), .second, .val (.int (own_o p0 xs p2.toNatClampNeg)), .val (.int (own_i p2.toNatClampNeg))] [(.long (j1_0 p0 p2 xs))])) _
      exact retOut X0 hx Bd.returns rfl (Or.inr (Or.inl ⟨rfl, rfl, _, rfl⟩)) (hb hby d1_77) hr
    · show Q1 Z p0 a1 p2 xs k_a1 h0 n0 _ s₁.heap _
      rw [e0]
      have hv : (j1_0 p0 p2 xs) = (v1 p0 p2 xs) := by first | exact (if_pos hc1).symm | (unfold v1; first | (rw [if_pos hc1]) | (simp only [if_pos hc1]))
      exact ⟨(by rw [← hv]), N0, rfl⟩
  · skip
    obtain ⟨fs, hr, hrun, hended, hW, hsame⟩ := X0.leave (v := some (.long (-1 : Int64))) (fun h => by rw [Bd.returns] at h; cases h)
    refine ⟨_, _, pre2 _ ?_, hrun, hended, _, _, rfl, ?_, ⟨_, rfl⟩, hW, hsame.mono (by decide) (by decide)⟩
    · skip
      show Steps p.tables e below (s₁.setTop (mkF m 3 #[.val (.int p0), .val (.ref a1), .val (.int p2), .unset, .unset, .unset, .unset] [(.int (20 : Int32)), (.int p2)])) _
      refine XS.icmpNo X0.here hx rfl (hb hby d1_3) rfl (flt hc1).1 ?_
      show Steps p.tables e below (s₁.setTop (mkF m 6 #[.val (.int p0), .val (.ref a1), .val (.int p2), .unset, .unset, .unset, .unset] [])) _
      refine X0.ldc2Long hx hown (mvT hZ (hw _ (List.mem_of_getElem? (i := 11) rfl))) (g := (mkF m 6 #[.val (.int p0), .val (.ref a1), .val (.int p2), .unset, .unset, .unset, .unset] [])) rfl (hb hby d1_6) _ ?_
      show Steps p.tables e below (s₁.setTop (mkF m 9 #[.val (.int p0), .val (.ref a1), .val (.int p2), .unset, .unset, .unset, .unset] [(.long (-1 : Int64))])) _
      exact retOut X0 hx Bd.returns rfl (Or.inr (Or.inl ⟨rfl, rfl, _, rfl⟩)) (hb hby d1_9) hr
    · show Q1 Z p0 a1 p2 xs k_a1 h0 n0 _ s₁.heap _
      rw [e0]
      have hv : (-1 : Int64) = (v1 p0 p2 xs) := by first | exact (if_neg hc1).symm | (unfold v1; first | (rw [if_neg hc1]) | (simp only [if_neg hc1]))
      exact ⟨(by rw [← hv]), N0, rfl⟩
theorem d2_0 : decode prog_80_method_3_code 0 = .ok (.iconst 3, 1) := by decide +kernel
theorem d2_1 : decode prog_80_method_3_code 1 = .ok (.iload_n 2, 1) := by decide +kernel
theorem d2_2 : decode prog_80_method_3_code 2 = .ok (.iconst 1, 1) := by decide +kernel
theorem d2_3 : decode prog_80_method_3_code 3 = .ok (.iadd, 1) := by decide +kernel
theorem d2_4 : decode prog_80_method_3_code 4 = .ok (.imul, 1) := by decide +kernel
theorem d2_5 : decode prog_80_method_3_code 5 = .ok (.istore 4, 2) := by decide +kernel
theorem d2_7 : decode prog_80_method_3_code 7 = .ok (.iload_n 3, 1) := by decide +kernel
theorem d2_8 : decode prog_80_method_3_code 8 = .ok (.bipush 8, 2) := by decide +kernel
theorem d2_10 : decode prog_80_method_3_code 10 = .ok (.if_icmp .ge 24, 3) := by decide +kernel
theorem d2_13 : decode prog_80_method_3_code 13 = .ok (.lload_n 0, 1) := by decide +kernel
theorem d2_14 : decode prog_80_method_3_code 14 = .ok (.ldc2_w 30, 3) := by decide +kernel
theorem d2_17 : decode prog_80_method_3_code 17 = .ok (.iload 4, 2) := by decide +kernel
theorem d2_19 : decode prog_80_method_3_code 19 = .ok (.lshl, 1) := by decide +kernel
theorem d2_20 : decode prog_80_method_3_code 20 = .ok (.ldc2_w 28, 3) := by decide +kernel
theorem d2_23 : decode prog_80_method_3_code 23 = .ok (.lxor, 1) := by decide +kernel
theorem d2_24 : decode prog_80_method_3_code 24 = .ok (.land, 1) := by decide +kernel
theorem d2_25 : decode prog_80_method_3_code 25 = .ok (.iload_n 3, 1) := by decide +kernel
theorem d2_26 : decode prog_80_method_3_code 26 = .ok (.i2l, 1) := by decide +kernel
theorem d2_27 : decode prog_80_method_3_code 27 = .ok (.iload 4, 2) := by decide +kernel
theorem d2_29 : decode prog_80_method_3_code 29 = .ok (.lshl, 1) := by decide +kernel
theorem d2_30 : decode prog_80_method_3_code 30 = .ok (.lor, 1) := by decide +kernel
theorem d2_31 : decode prog_80_method_3_code 31 = .ok (.goto 6, 3) := by decide +kernel
theorem d2_34 : decode prog_80_method_3_code 34 = .ok (.ldc2_w 28, 3) := by decide +kernel
theorem d2_37 : decode prog_80_method_3_code 37 = .ok (.lreturn, 1) := by decide +kernel
def j2_0 (q0 : Int64) (p1 : Int32) (p2 : Int32) : Int64 := (if p2 < (8 : Int32) then ((q0 &&& (((7 : Int64) <<< (((3 : Int32) * (p1 + (1 : Int32))) &&& 0x3f).toInt64) ^^^ (-1 : Int64))) ||| ((p2.toInt64) <<< (((3 : Int32) * (p1 + (1 : Int32))) &&& 0x3f).toInt64)) else (-1 : Int64))
theorem ef2 (m : MethodId) (x0 : Int64) (x1 : Int32) (x2 : Int32) : entryFrame m #[(.long x0), (.int x1), (.int x2)] 5 = mkF m 0 #[.val (.long x0), .second, .val (.int x1), .val (.int x2), .unset] [] := by first | (simp [entryFrame, mkF, argsToLocals, Value.category]; done) | rfl
abbrev rr2 : Room := { frames := 0, cells := 0, slots := 0, locals := 0 }
def Q2 (Z : State) (q0 : Int64) (p1 : Int32) (p2 : Int32) (h0 : Heap) (n0 : Nat) (v : Option Value) (h : Heap) (L : List Loc) : Prop := v = some (.long (j2_0 q0 p1 p2)) ∧ Fr n0 L ∧ h = h0
set_option maxRecDepth 65536 in
set_option maxHeartbeats 40000000 in
theorem rm2 (l : Launch) (Z : State) (aw : Array Value) (hw : ∀ d ∈ tables_1, d.before aw Z = true) (ws : List Jvm.Cond) (q0 : Int64) (p1 : Int32) (p2 : Int32) (h0 : Heap) (n0 : Nat) (Z0 : n0 ≤ h0.size)  :
    MetFree l (⟨"com/example/dedlock/dedlock/csp/StateTable", "changed", "(JII)J"⟩ : MethodName) (head1 (Jvm.Cond.code (⟨"com/example/dedlock/dedlock/csp/StateTable", "changed", "(JII)J"⟩ : MethodName) prog_80_method_3_code 5 (some .long) :: ws) rr2) (fun a U => a = #[(.long q0), (.int p1), (.int p2)] ∧ Z.Warmed39 U.vm ∧ U.heap = h0) (fun _ _ _ _ _ => True) (fun _ U o U' => ∃ v L, o = .returned v ∧ Q2 Z q0 p1 p2 h0 n0 v U'.heap L ∧ FrameEnd U o U' L rr2.cells rr2.slots) := by
  refine MetFree.of_bodySF (plainFor_of_name pn_1) hisR ?_
  intro p e s m args below meth c s₁ Bd hml0 hP hK
  obtain ⟨rfl, hZ, hh⟩ := hP
  have hx := Bd.exec
  have hby := Bd.bytes
  have hml : c.maxLocals = 5 := hml0
  have hown : s.vm.findClass "com/example/dedlock/dedlock/csp/StateTable" = some m.cls := findClass_of_methodNamed Bd.named
  have hnm := (name_of_methodNamed Bd.named Bd.method).1
  have X0 : Stand p l e rr2 s m #[(.long q0), (.int p1), (.int p2)] below meth c s₁ [] 0 0 := Stand.of_body Bd
  have e0 : s₁.heap = h0 := by rw [← hh, Bd.state]; rfl
  have N0 := Fr.nil n0
  have pre0 : ∀ t, Steps p.tables e below (s₁.setTop (mkF m 0 #[.val (.long q0), .second, .val (.int p1), .val (.int p2), .unset] [])) t → Steps p.tables e below (s₁.setTop (entryFrame m #[(.long q0), (.int p1), (.int p2)] 5)) t := fun t k => castTop (ef2 m q0 p1 p2) k
  have pre17 := fun (t : State) (k : Steps p.tables e below (s₁.setTop (mkF m 10 #[.val (.long q0), .second, .val (.int p1), .val (.int p2), .val (.int ((3 : Int32) * (p1 + (1 : Int32))))] [(.int (8 : Int32)), (.int p2)])) t) => pre0 t (by
    show Steps p.tables e below (s₁.setTop (mkF m 0 #[.val (.long q0), .second, .val (.int p1), .val (.int p2), .unset] [])) _
    refine XS.iconst X0.here hx rfl (hb hby d2_0) ?_
    show Steps p.tables e below (s₁.setTop (mkF m 1 #[.val (.long q0), .second, .val (.int p1), .val (.int p2), .unset] [(.int (3 : Int32))])) _
    refine XS.iloadN X0.here hx rfl (hb hby d2_1) rfl ?_
    show Steps p.tables e below (s₁.setTop (mkF m 2 #[.val (.long q0), .second, .val (.int p1), .val (.int p2), .unset] [(.int p1), (.int (3 : Int32))])) _
    refine XS.iconst X0.here hx rfl (hb hby d2_2) ?_
    show Steps p.tables e below (s₁.setTop (mkF m 3 #[.val (.long q0), .second, .val (.int p1), .val (.int p2), .unset] [(.int (1 : Int32)), (.int p1), (.int (3 : Int32))])) _
    refine XS.iadd X0.here hx rfl (hb hby d2_3) rfl ?_
    show Steps p.tables e below (s₁.setTop (mkF m 4 #[.val (.long q0), .second, .val (.int p1), .val (.int p2), .unset] [(.int (p1 + (1 : Int32))), (.int (3 : Int32))])) _
    refine XS.imul X0.here hx rfl (hb hby d2_4) rfl ?_
    show Steps p.tables e below (s₁.setTop (mkF m 5 #[.val (.long q0), .second, .val (.int p1), .val (.int p2), .unset] [(.int ((3 : Int32) * (p1 + (1 : Int32))))])) _
    refine XS.istore X0.here hx rfl (hb hby d2_5) rfl (l' := #[.val (.long q0), .second, .val (.int p1), .val (.int p2), .val (.int ((3 : Int32) * (p1 + (1 : Int32))))]) rfl ?_
    show Steps p.tables e below (s₁.setTop (mkF m 7 #[.val (.long q0), .second, .val (.int p1), .val (.int p2), .val (.int ((3 : Int32) * (p1 + (1 : Int32))))] [])) _
    refine XS.iloadN X0.here hx rfl (hb hby d2_7) rfl ?_
    show Steps p.tables e below (s₁.setTop (mkF m 8 #[.val (.long q0), .second, .val (.int p1), .val (.int p2), .val (.int ((3 : Int32) * (p1 + (1 : Int32))))] [(.int p2)])) _
    refine XS.bipush X0.here hx rfl (hb hby d2_8) ?_
    exact k)
  have pre18 := fun (t : State) (k : Steps p.tables e below (s₁.setTop (mkF m 37 #[.val (.long q0), .second, .val (.int p1), .val (.int p2), .val (.int ((3 : Int32) * (p1 + (1 : Int32))))] [(.long (j2_0 q0 p1 p2))])) t) => pre17 t (by
    by_cases hc19 : p2 < (8 : Int32)
    · skip
      show Steps p.tables e below (s₁.setTop (mkF m 10 #[.val (.long q0), .second, .val (.int p1), .val (.int p2), .val (.int ((3 : Int32) * (p1 + (1 : Int32))))] [(.int (8 : Int32)), (.int p2)])) _
      refine XS.icmpNo X0.here hx rfl (hb hby d2_10) rfl (tlt hc19).2.1 ?_
      show Steps p.tables e below (s₁.setTop (mkF m 13 #[.val (.long q0), .second, .val (.int p1), .val (.int p2), .val (.int ((3 : Int32) * (p1 + (1 : Int32))))] [])) _
      refine XS.lloadN X0.here hx rfl (hb hby d2_13) rfl ?_
      show Steps p.tables e below (s₁.setTop (mkF m 14 #[.val (.long q0), .second, .val (.int p1), .val (.int p2), .val (.int ((3 : Int32) * (p1 + (1 : Int32))))] [(.long q0)])) _
      refine X0.ldc2Long hx hown (mvT hZ (hw _ (List.mem_of_getElem? (i := 10) rfl))) (g := (mkF m 14 #[.val (.long q0), .second, .val (.int p1), .val (.int p2), .val (.int ((3 : Int32) * (p1 + (1 : Int32))))] [(.long q0)])) rfl (hb hby d2_14) _ ?_
      show Steps p.tables e below (s₁.setTop (mkF m 17 #[.val (.long q0), .second, .val (.int p1), .val (.int p2), .val (.int ((3 : Int32) * (p1 + (1 : Int32))))] [(.long (7 : Int64)), (.long q0)])) _
      refine XS.iload X0.here hx rfl (hb hby d2_17) rfl ?_
      show Steps p.tables e below (s₁.setTop (mkF m 19 #[.val (.long q0), .second, .val (.int p1), .val (.int p2), .val (.int ((3 : Int32) * (p1 + (1 : Int32))))] [(.int ((3 : Int32) * (p1 + (1 : Int32)))), (.long (7 : Int64)), (.long q0)])) _
      refine XS.lshl X0.here hx rfl (hb hby d2_19) rfl ?_
      show Steps p.tables e below (s₁.setTop (mkF m 20 #[.val (.long q0), .second, .val (.int p1), .val (.int p2), .val (.int ((3 : Int32) * (p1 + (1 : Int32))))] [(.long ((7 : Int64) <<< (((3 : Int32) * (p1 + (1 : Int32))) &&& 0x3f).toInt64)), (.long q0)])) _
      refine X0.ldc2Long hx hown (mvT hZ (hw _ (List.mem_of_getElem? (i := 11) rfl))) (g := (mkF m 20 #[.val (.long q0), .second, .val (.int p1), .val (.int p2), .val (.int ((3 : Int32) * (p1 + (1 : Int32))))] [(.long ((7 : Int64) <<< (((3 : Int32) * (p1 + (1 : Int32))) &&& 0x3f).toInt64)), (.long q0)])) rfl (hb hby d2_20) _ ?_
      show Steps p.tables e below (s₁.setTop (mkF m 23 #[.val (.long q0), .second, .val (.int p1), .val (.int p2), .val (.int ((3 : Int32) * (p1 + (1 : Int32))))] [(.long (-1 : Int64)), (.long ((7 : Int64) <<< (((3 : Int32) * (p1 + (1 : Int32))) &&& 0x3f).toInt64)), (.long q0)])) _
      refine XS.lxor X0.here hx rfl (hb hby d2_23) rfl ?_
      show Steps p.tables e below (s₁.setTop (mkF m 24 #[.val (.long q0), .second, .val (.int p1), .val (.int p2), .val (.int ((3 : Int32) * (p1 + (1 : Int32))))] [(.long (((7 : Int64) <<< (((3 : Int32) * (p1 + (1 : Int32))) &&& 0x3f).toInt64) ^^^ (-1 : Int64))), (.long q0)])) _
      refine XS.land X0.here hx rfl (hb hby d2_24) rfl ?_
      show Steps p.tables e below (s₁.setTop (mkF m 25 #[.val (.long q0), .second, .val (.int p1), .val (.int p2), .val (.int ((3 : Int32) * (p1 + (1 : Int32))))] [(.long (q0 &&& (((7 : Int64) <<< (((3 : Int32) * (p1 + (1 : Int32))) &&& 0x3f).toInt64) ^^^ (-1 : Int64))))])) _
      refine XS.iloadN X0.here hx rfl (hb hby d2_25) rfl ?_
      show Steps p.tables e below (s₁.setTop (mkF m 26 #[.val (.long q0), .second, .val (.int p1), .val (.int p2), .val (.int ((3 : Int32) * (p1 + (1 : Int32))))] [(.int p2), (.long (q0 &&& (((7 : Int64) <<< (((3 : Int32) * (p1 + (1 : Int32))) &&& 0x3f).toInt64) ^^^ (-1 : Int64))))])) _
      refine XS.i2l X0.here hx rfl (hb hby d2_26) rfl ?_
      show Steps p.tables e below (s₁.setTop (mkF m 27 #[.val (.long q0), .second, .val (.int p1), .val (.int p2), .val (.int ((3 : Int32) * (p1 + (1 : Int32))))] [(.long (p2.toInt64)), (.long (q0 &&& (((7 : Int64) <<< (((3 : Int32) * (p1 + (1 : Int32))) &&& 0x3f).toInt64) ^^^ (-1 : Int64))))])) _
      refine XS.iload X0.here hx rfl (hb hby d2_27) rfl ?_
      show Steps p.tables e below (s₁.setTop (mkF m 29 #[.val (.long q0), .second, .val (.int p1), .val (.int p2), .val (.int ((3 : Int32) * (p1 + (1 : Int32))))] [(.int ((3 : Int32) * (p1 + (1 : Int32)))), (.long (p2.toInt64)), (.long (q0 &&& (((7 : Int64) <<< (((3 : Int32) * (p1 + (1 : Int32))) &&& 0x3f).toInt64) ^^^ (-1 : Int64))))])) _
      refine XS.lshl X0.here hx rfl (hb hby d2_29) rfl ?_
      show Steps p.tables e below (s₁.setTop (mkF m 30 #[.val (.long q0), .second, .val (.int p1), .val (.int p2), .val (.int ((3 : Int32) * (p1 + (1 : Int32))))] [(.long ((p2.toInt64) <<< (((3 : Int32) * (p1 + (1 : Int32))) &&& 0x3f).toInt64)), (.long (q0 &&& (((7 : Int64) <<< (((3 : Int32) * (p1 + (1 : Int32))) &&& 0x3f).toInt64) ^^^ (-1 : Int64))))])) _
      refine XS.lor X0.here hx rfl (hb hby d2_30) rfl ?_
      show Steps p.tables e below (s₁.setTop (mkF m 31 #[.val (.long q0), .second, .val (.int p1), .val (.int p2), .val (.int ((3 : Int32) * (p1 + (1 : Int32))))] [(.long ((q0 &&& (((7 : Int64) <<< (((3 : Int32) * (p1 + (1 : Int32))) &&& 0x3f).toInt64) ^^^ (-1 : Int64))) ||| ((p2.toInt64) <<< (((3 : Int32) * (p1 + (1 : Int32))) &&& 0x3f).toInt64)))])) _
      refine XS.goto X0.here hx rfl (pc0 := 31) (pc' := 37) rfl (hb hby d2_31) (by decide) (by decide) ?_
      have hj20 : (j2_0 q0 p1 p2) = ((q0 &&& (((7 : Int64) <<< (((3 : Int32) * (p1 + (1 : Int32))) &&& 0x3f).toInt64) ^^^ (-1 : Int64))) ||| ((p2.toInt64) <<< (((3 : Int32) * (p1 + (1 : Int32))) &&& 0x3f).toInt64)) := by first | exact (if_pos hc19) | (unfold j2_0; first | (rw [if_pos hc19]) | (simp only [if_pos hc19]))
      rw [hj20] at k
      exact k
    · skip
      show Steps p.tables e below (s₁.setTop (mkF m 10 #[.val (.long q0), .second, .val (.int p1), .val (.int p2), .val (.int ((3 : Int32) * (p1 + (1 : Int32))))] [(.int (8 : Int32)), (.int p2)])) _
      refine XS.icmpYes X0.here hx rfl (pc0 := 10) (pc' := 34) rfl (hb hby d2_10) rfl (flt hc19).2.1 (by decide) (by decide) ?_
      show Steps p.tables e below (s₁.setTop (mkF m 34 #[.val (.long q0), .second, .val (.int p1), .val (.int p2), .val (.int ((3 : Int32) * (p1 + (1 : Int32))))] [])) _
      refine X0.ldc2Long hx hown (mvT hZ (hw _ (List.mem_of_getElem? (i := 11) rfl))) (g := (mkF m 34 #[.val (.long q0), .second, .val (.int p1), .val (.int p2), .val (.int ((3 : Int32) * (p1 + (1 : Int32))))] [])) rfl (hb hby d2_34) _ ?_
      have hj21 : (j2_0 q0 p1 p2) = (-1 : Int64) := by first | exact (if_neg hc19) | (unfold j2_0; first | (rw [if_neg hc19]) | (simp only [if_neg hc19]))
      rw [hj21] at k
      exact k)
  obtain ⟨fs, hr, hrun, hended, hW, hsame⟩ := X0.leave (v := some (.long (j2_0 q0 p1 p2))) (fun h => by rw [Bd.returns] at h; cases h)
  refine ⟨_, _, pre18 _ ?_, hrun, hended, _, _, rfl, ?_, ⟨_, rfl⟩, hW, hsame.mono (by decide) (by decide)⟩
  · skip
    show Steps p.tables e below (s₁.setTop (mkF m 37 #[.val (.long q0), .second, .val (.int p1), .val (.int p2), .val (.int ((3 : Int32) * (p1 + (1 : Int32))))] [(.long (j2_0 q0 p1 p2))])) _
    exact retOut X0 hx Bd.returns rfl (Or.inr (Or.inl ⟨rfl, rfl, _, rfl⟩)) (hb hby d2_37) hr
  · show Q2 Z q0 p1 p2 h0 n0 _ s₁.heap _
    rw [e0]
    exact ⟨rfl, N0, rfl⟩
def own_xs (q0 : Int64) : List Int32 := [((q0.toInt32) &&& (7 : Int32)), ((((q0.toUInt64 >>> ((3 : Int32) &&& 0x3f).toInt64.toUInt64).toInt64).toInt32) &&& (7 : Int32)), ((((q0.toUInt64 >>> ((6 : Int32) &&& 0x3f).toInt64.toUInt64).toInt64).toInt32) &&& (7 : Int32)), ((((q0.toUInt64 >>> ((9 : Int32) &&& 0x3f).toInt64.toUInt64).toInt64).toInt32) &&& (7 : Int32)), ((((q0.toUInt64 >>> ((12 : Int32) &&& 0x3f).toInt64.toUInt64).toInt64).toInt32) &&& (7 : Int32)), ((((q0.toUInt64 >>> ((15 : Int32) &&& 0x3f).toInt64.toUInt64).toInt64).toInt32) &&& (7 : Int32)), ((((q0.toUInt64 >>> ((18 : Int32) &&& 0x3f).toInt64.toUInt64).toInt64).toInt32) &&& (7 : Int32)), ((((q0.toUInt64 >>> ((21 : Int32) &&& 0x3f).toInt64.toUInt64).toInt64).toInt32) &&& (7 : Int32)), ((((q0.toUInt64 >>> ((24 : Int32) &&& 0x3f).toInt64.toUInt64).toInt64).toInt32) &&& (7 : Int32)), ((((q0.toUInt64 >>> ((27 : Int32) &&& 0x3f).toInt64.toUInt64).toInt64).toInt32) &&& (7 : Int32)), ((((q0.toUInt64 >>> ((30 : Int32) &&& 0x3f).toInt64.toUInt64).toInt64).toInt32) &&& (7 : Int32)), ((((q0.toUInt64 >>> ((33 : Int32) &&& 0x3f).toInt64.toUInt64).toInt64).toInt32) &&& (7 : Int32)), ((((q0.toUInt64 >>> ((36 : Int32) &&& 0x3f).toInt64.toUInt64).toInt64).toInt32) &&& (7 : Int32)), ((((q0.toUInt64 >>> ((39 : Int32) &&& 0x3f).toInt64.toUInt64).toInt64).toInt32) &&& (7 : Int32)), ((((q0.toUInt64 >>> ((42 : Int32) &&& 0x3f).toInt64.toUInt64).toInt64).toInt32) &&& (7 : Int32)), ((((q0.toUInt64 >>> ((45 : Int32) &&& 0x3f).toInt64.toUInt64).toInt64).toInt32) &&& (7 : Int32)), ((((q0.toUInt64 >>> ((48 : Int32) &&& 0x3f).toInt64.toUInt64).toInt64).toInt32) &&& (7 : Int32)), ((((q0.toUInt64 >>> ((51 : Int32) &&& 0x3f).toInt64.toUInt64).toInt64).toInt32) &&& (7 : Int32)), ((((q0.toUInt64 >>> ((54 : Int32) &&& 0x3f).toInt64.toUInt64).toInt64).toInt32) &&& (7 : Int32))]
theorem own_nn (p : Int32) : ((1 : Int32) + ((p &&& (2147483647 : Int32)) % (19 : Int32))).toInt = 1 + p.toInt % 2 ^ 31 % 19 := by
  have e : (p &&& (2147483647 : Int32)).toInt = p.toInt % 2 ^ 31 := Jvm.Kit.i32_mask p 2147483647 (k := 31) (by decide) (by decide)
  have o : (1 : Int32).toInt = 1 := rfl
  have r : ((p &&& (2147483647 : Int32)) % (19 : Int32)).toInt = p.toInt % 2 ^ 31 % 19 := by rw [Jvm.Kit.i32_rem_nonneg (by omega), e]; rfl
  rw [Jvm.Kit.i32_add] <;> rw [o, r] <;> omega
theorem own_nz (p : Int32) : ¬ (((1 : Int32) + ((p &&& (2147483647 : Int32)) % (19 : Int32))) = (0 : Int32)) := by
  have e := own_nn p
  rw [← Int32.toInt_inj, e, show (0 : Int32).toInt = 0 from rfl]; omega
theorem own_n0 (p : Int32) : ¬ ((1 : Int32) + ((p &&& (2147483647 : Int32)) % (19 : Int32))) < (0 : Int32) := by
  have e := own_nn p
  rw [Int32.lt_iff_toInt_lt, e, show (0 : Int32).toInt = 0 from rfl]; omega
theorem own_n19 (p : Int32) : ¬ (19 : Int32) < ((1 : Int32) + ((p &&& (2147483647 : Int32)) % (19 : Int32))) := by
  have e := own_nn p
  rw [Int32.lt_iff_toInt_lt, e, show (19 : Int32).toInt = 19 from rfl]; omega
theorem own_ss (r n : Int32) (h : 1 ≤ n.toInt) : 0 ≤ ((r &&& (2147483647 : Int32)) % n).toInt ∧ ((r &&& (2147483647 : Int32)) % n).toInt < n.toInt := by
  have e : (r &&& (2147483647 : Int32)).toInt = r.toInt % 2 ^ 31 := Jvm.Kit.i32_mask r 2147483647 (k := 31) (by decide) (by decide)
  rw [Jvm.Kit.i32_rem_nonneg (by omega)]
  exact ⟨Int.emod_nonneg _ (by omega), Int.emod_lt_of_pos _ (by omega)⟩
theorem own_sb (r p : Int32) : ¬ ((r &&& (2147483647 : Int32)) % ((1 : Int32) + ((p &&& (2147483647 : Int32)) % (19 : Int32)))) < 0 ∧ ((r &&& (2147483647 : Int32)) % ((1 : Int32) + ((p &&& (2147483647 : Int32)) % (19 : Int32)))) < (19 : Int32) := by
  have e := own_nn p
  have q := own_ss r (n := (1 : Int32) + ((p &&& (2147483647 : Int32)) % (19 : Int32))) (by omega)
  have z0 : (0 : Int32).toInt = 0 := rfl
  have z1 : (19 : Int32).toInt = 19 := rfl
  rw [Int32.lt_iff_toInt_lt, Int32.lt_iff_toInt_lt]; omega
theorem own_sn (r p : Int32) : ((r &&& (2147483647 : Int32)) % ((1 : Int32) + ((p &&& (2147483647 : Int32)) % (19 : Int32)))).toNatClampNeg < 19 := by
  have e := own_nn p
  have q := own_ss r (n := (1 : Int32) + ((p &&& (2147483647 : Int32)) % (19 : Int32))) (by omega)
  simp only [own_tnc]; omega
theorem pd_1 : parseMethodDescriptor "(I[II)J" = some ⟨[.int, (.array .int), .int], some .long⟩ := by decide +kernel
theorem pd_2 : parseMethodDescriptor "(JII)J" = some ⟨[.long, .int, .int], some .long⟩ := by decide +kernel
def j0_0 (p4 : Int32) (p5 : Int32) : Int32 := (if (p5 &&& (1 : Int32)) = (0 : Int32) then (p4 &&& (2147483647 : Int32)) else (p4 &&& (7 : Int32)))
def j0_1 (q0 : Int64) (p1 : Int32) (p2 : Int32) (p3 : Int32) (p4 : Int32) (p5 : Int32) : Int32 := (if (j2_0 (v1 (p1 &&& (7 : Int32)) ((1 : Int32) + ((p2 &&& (2147483647 : Int32)) % (19 : Int32))) (own_xs q0)) ((p3 &&& (2147483647 : Int32)) % ((1 : Int32) + ((p2 &&& (2147483647 : Int32)) % (19 : Int32)))) (j0_0 p4 p5)) = (v1 (p1 &&& (7 : Int32)) ((1 : Int32) + ((p2 &&& (2147483647 : Int32)) % (19 : Int32))) ((own_xs q0).set ((p3 &&& (2147483647 : Int32)) % ((1 : Int32) + ((p2 &&& (2147483647 : Int32)) % (19 : Int32)))).toNatClampNeg (j0_0 p4 p5))) then (1 : Int32) else (0 : Int32))
def v0 (q0 : Int64) (p1 : Int32) (p2 : Int32) (p3 : Int32) (p4 : Int32) (p5 : Int32) : Int32 := (if (v1 (p1 &&& (7 : Int32)) ((1 : Int32) + ((p2 &&& (2147483647 : Int32)) % (19 : Int32))) (own_xs q0)) = (-1 : Int64) then (0 : Int32) else (nar .boolean (j0_1 q0 p1 p2 p3 p4 p5)))
theorem pn_2 : plainName "com/example/dedlock/dedlock/csp/StateTableChangedPinLaw" = true := by first | (simp [plainName, overriddenIn]; done) | decide +kernel
theorem ef0 (m : MethodId) (x0 : Int64) (x1 : Int32) (x2 : Int32) (x3 : Int32) (x4 : Int32) (x5 : Int32) : entryFrame m #[(.long x0), (.int x1), (.int x2), (.int x3), (.int x4), (.int x5)] maxLocals = mkF m 0 #[.val (.long x0), .second, .val (.int x1), .val (.int x2), .val (.int x3), .val (.int x4), .val (.int x5), .unset, .unset, .unset, .unset, .unset, .unset, .unset, .unset, .unset, .unset, .unset] [] := by first | (simp [entryFrame, mkF, argsToLocals, Value.category, maxLocals]; done) | rfl
def Q0 (Z : State) (q0 : Int64) (p1 : Int32) (p2 : Int32) (p3 : Int32) (p4 : Int32) (p5 : Int32) (h0 : Heap) (n0 : Nat) (v : Option Value) (h : Heap) (L : List Loc) : Prop := v = some (.int (v0 q0 p1 p2 p3 p4 p5)) ∧ Fr n0 L
set_option maxRecDepth 65536 in
set_option maxHeartbeats 40000000 in
theorem rm0 (l : Launch) (Z : State) (aw : Array Value) (hw : ∀ d ∈ tables_1, d.before aw Z = true) (ws : List Jvm.Cond) (q0 : Int64) (p1 : Int32) (p2 : Int32) (p3 : Int32) (p4 : Int32) (p5 : Int32) (h0 : Heap) (n0 : Nat) (Z0 : n0 ≤ h0.size)  :
    MetFree l x (head1 (Jvm.Cond.code x code maxLocals ret :: ws) room_1) (fun a U => a = #[(.long q0), (.int p1), (.int p2), (.int p3), (.int p4), (.int p5)] ∧ Z.Warmed39 U.vm ∧ U.heap = h0) (fun _ _ _ _ _ => True) (fun _ U o U' => ∃ v L, o = .returned v ∧ Q0 Z q0 p1 p2 p3 p4 p5 h0 n0 v U'.heap L ∧ FrameEnd U o U' L room_1.cells room_1.slots) := by
  refine MetFree.of_bodySF (plainFor_of_name pn_2) hisR ?_
  intro p e s m args below meth c s₁ Bd hml0 hP hK
  obtain ⟨rfl, hZ, hh⟩ := hP
  have hx := Bd.exec
  have hby := Bd.bytes
  have hml : c.maxLocals = 18 := hml0
  have hown : s.vm.findClass "com/example/dedlock/dedlock/csp/StateTableChangedPinLaw" = some m.cls := findClass_of_methodNamed Bd.named
  have hnm := (name_of_methodNamed Bd.named Bd.method).1
  have X0 : Stand p l e room_1 s m #[(.long q0), (.int p1), (.int p2), (.int p3), (.int p4), (.int p5)] below meth c s₁ [] 0 0 := Stand.of_body Bd
  have e0 : s₁.heap = h0 := by rw [← hh, Bd.state]; rfl
  have N0 := Fr.nil n0
  have pre0 : ∀ t, Steps p.tables e below (s₁.setTop (mkF m 0 #[.val (.long q0), .second, .val (.int p1), .val (.int p2), .val (.int p3), .val (.int p4), .val (.int p5), .unset, .unset, .unset, .unset, .unset, .unset, .unset, .unset, .unset, .unset, .unset] [])) t → Steps p.tables e below (s₁.setTop (entryFrame m #[(.long q0), (.int p1), (.int p2), (.int p3), (.int p4), (.int p5)] maxLocals)) t := fun t k => castTop (ef0 m q0 p1 p2 p3 p4 p5) k
  have pre22 := fun (t : State) (k : Steps p.tables e below (s₁.setTop (mkF m 31 #[.val (.long q0), .second, .val (.int p1), .val (.int p2), .val (.int p3), .val (.int p4), .val (.int p5), .val (.int (p1 &&& (7 : Int32))), .val (.int ((1 : Int32) + ((p2 &&& (2147483647 : Int32)) % (19 : Int32)))), .val (.int ((p3 &&& (2147483647 : Int32)) % ((1 : Int32) + ((p2 &&& (2147483647 : Int32)) % (19 : Int32))))), .unset, .unset, .unset, .unset, .unset, .unset, .unset, .unset] [(.int (p5 &&& (1 : Int32)))])) t) => pre0 t (by
    show Steps p.tables e below (s₁.setTop (mkF m 0 #[.val (.long q0), .second, .val (.int p1), .val (.int p2), .val (.int p3), .val (.int p4), .val (.int p5), .unset, .unset, .unset, .unset, .unset, .unset, .unset, .unset, .unset, .unset, .unset] [])) _
    refine XS.iloadN X0.here hx rfl (hb hby at_0) rfl ?_
    show Steps p.tables e below (s₁.setTop (mkF m 1 #[.val (.long q0), .second, .val (.int p1), .val (.int p2), .val (.int p3), .val (.int p4), .val (.int p5), .unset, .unset, .unset, .unset, .unset, .unset, .unset, .unset, .unset, .unset, .unset] [(.int p1)])) _
    refine XS.bipush X0.here hx rfl (hb hby at_1) ?_
    show Steps p.tables e below (s₁.setTop (mkF m 3 #[.val (.long q0), .second, .val (.int p1), .val (.int p2), .val (.int p3), .val (.int p4), .val (.int p5), .unset, .unset, .unset, .unset, .unset, .unset, .unset, .unset, .unset, .unset, .unset] [(.int (7 : Int32)), (.int p1)])) _
    refine XS.iand X0.here hx rfl (hb hby at_3) rfl ?_
    show Steps p.tables e below (s₁.setTop (mkF m 4 #[.val (.long q0), .second, .val (.int p1), .val (.int p2), .val (.int p3), .val (.int p4), .val (.int p5), .unset, .unset, .unset, .unset, .unset, .unset, .unset, .unset, .unset, .unset, .unset] [(.int (p1 &&& (7 : Int32)))])) _
    refine XS.istore X0.here hx rfl (hb hby at_4) rfl (l' := #[.val (.long q0), .second, .val (.int p1), .val (.int p2), .val (.int p3), .val (.int p4), .val (.int p5), .val (.int (p1 &&& (7 : Int32))), .unset, .unset, .unset, .unset, .unset, .unset, .unset, .unset, .unset, .unset]) rfl ?_
    show Steps p.tables e below (s₁.setTop (mkF m 6 #[.val (.long q0), .second, .val (.int p1), .val (.int p2), .val (.int p3), .val (.int p4), .val (.int p5), .val (.int (p1 &&& (7 : Int32))), .unset, .unset, .unset, .unset, .unset, .unset, .unset, .unset, .unset, .unset] [])) _
    refine XS.iconst X0.here hx rfl (hb hby at_6) ?_
    show Steps p.tables e below (s₁.setTop (mkF m 7 #[.val (.long q0), .second, .val (.int p1), .val (.int p2), .val (.int p3), .val (.int p4), .val (.int p5), .val (.int (p1 &&& (7 : Int32))), .unset, .unset, .unset, .unset, .unset, .unset, .unset, .unset, .unset, .unset] [(.int (1 : Int32))])) _
    refine XS.iloadN X0.here hx rfl (hb hby at_7) rfl ?_
    show Steps p.tables e below (s₁.setTop (mkF m 8 #[.val (.long q0), .second, .val (.int p1), .val (.int p2), .val (.int p3), .val (.int p4), .val (.int p5), .val (.int (p1 &&& (7 : Int32))), .unset, .unset, .unset, .unset, .unset, .unset, .unset, .unset, .unset, .unset] [(.int p2), (.int (1 : Int32))])) _
    refine X0.ldcInt hx hown (mvT hZ (hw _ (List.mem_of_getElem? (i := 0) rfl))) (g := (mkF m 8 #[.val (.long q0), .second, .val (.int p1), .val (.int p2), .val (.int p3), .val (.int p4), .val (.int p5), .val (.int (p1 &&& (7 : Int32))), .unset, .unset, .unset, .unset, .unset, .unset, .unset, .unset, .unset, .unset] [(.int p2), (.int (1 : Int32))])) rfl (hb hby at_8) _ ?_
    show Steps p.tables e below (s₁.setTop (mkF m 10 #[.val (.long q0), .second, .val (.int p1), .val (.int p2), .val (.int p3), .val (.int p4), .val (.int p5), .val (.int (p1 &&& (7 : Int32))), .unset, .unset, .unset, .unset, .unset, .unset, .unset, .unset, .unset, .unset] [(.int (2147483647 : Int32)), (.int p2), (.int (1 : Int32))])) _
    refine XS.iand X0.here hx rfl (hb hby at_10) rfl ?_
    show Steps p.tables e below (s₁.setTop (mkF m 11 #[.val (.long q0), .second, .val (.int p1), .val (.int p2), .val (.int p3), .val (.int p4), .val (.int p5), .val (.int (p1 &&& (7 : Int32))), .unset, .unset, .unset, .unset, .unset, .unset, .unset, .unset, .unset, .unset] [(.int (p2 &&& (2147483647 : Int32))), (.int (1 : Int32))])) _
    refine XS.bipush X0.here hx rfl (hb hby at_11) ?_
    show Steps p.tables e below (s₁.setTop (mkF m 13 #[.val (.long q0), .second, .val (.int p1), .val (.int p2), .val (.int p3), .val (.int p4), .val (.int p5), .val (.int (p1 &&& (7 : Int32))), .unset, .unset, .unset, .unset, .unset, .unset, .unset, .unset, .unset, .unset] [(.int (19 : Int32)), (.int (p2 &&& (2147483647 : Int32))), (.int (1 : Int32))])) _
    refine iremM X0 hx rfl (hb hby at_13) rfl (by decide) ?_
    show Steps p.tables e below (s₁.setTop (mkF m 14 #[.val (.long q0), .second, .val (.int p1), .val (.int p2), .val (.int p3), .val (.int p4), .val (.int p5), .val (.int (p1 &&& (7 : Int32))), .unset, .unset, .unset, .unset, .unset, .unset, .unset, .unset, .unset, .unset] [(.int ((p2 &&& (2147483647 : Int32)) % (19 : Int32))), (.int (1 : Int32))])) _
    refine XS.iadd X0.here hx rfl (hb hby at_14) rfl ?_
    show Steps p.tables e below (s₁.setTop (mkF m 15 #[.val (.long q0), .second, .val (.int p1), .val (.int p2), .val (.int p3), .val (.int p4), .val (.int p5), .val (.int (p1 &&& (7 : Int32))), .unset, .unset, .unset, .unset, .unset, .unset, .unset, .unset, .unset, .unset] [(.int ((1 : Int32) + ((p2 &&& (2147483647 : Int32)) % (19 : Int32))))])) _
    refine XS.istore X0.here hx rfl (hb hby at_15) rfl (l' := #[.val (.long q0), .second, .val (.int p1), .val (.int p2), .val (.int p3), .val (.int p4), .val (.int p5), .val (.int (p1 &&& (7 : Int32))), .val (.int ((1 : Int32) + ((p2 &&& (2147483647 : Int32)) % (19 : Int32)))), .unset, .unset, .unset, .unset, .unset, .unset, .unset, .unset, .unset]) rfl ?_
    show Steps p.tables e below (s₁.setTop (mkF m 17 #[.val (.long q0), .second, .val (.int p1), .val (.int p2), .val (.int p3), .val (.int p4), .val (.int p5), .val (.int (p1 &&& (7 : Int32))), .val (.int ((1 : Int32) + ((p2 &&& (2147483647 : Int32)) % (19 : Int32)))), .unset, .unset, .unset, .unset, .unset, .unset, .unset, .unset, .unset] [])) _
    refine XS.iload X0.here hx rfl (hb hby at_17) rfl ?_
    show Steps p.tables e below (s₁.setTop (mkF m 19 #[.val (.long q0), .second, .val (.int p1), .val (.int p2), .val (.int p3), .val (.int p4), .val (.int p5), .val (.int (p1 &&& (7 : Int32))), .val (.int ((1 : Int32) + ((p2 &&& (2147483647 : Int32)) % (19 : Int32)))), .unset, .unset, .unset, .unset, .unset, .unset, .unset, .unset, .unset] [(.int p3)])) _
    refine X0.ldcInt hx hown (mvT hZ (hw _ (List.mem_of_getElem? (i := 0) rfl))) (g := (mkF m 19 #[.val (.long q0), .second, .val (.int p1), .val (.int p2), .val (.int p3), .val (.int p4), .val (.int p5), .val (.int (p1 &&& (7 : Int32))), .val (.int ((1 : Int32) + ((p2 &&& (2147483647 : Int32)) % (19 : Int32)))), .unset, .unset, .unset, .unset, .unset, .unset, .unset, .unset, .unset] [(.int p3)])) rfl (hb hby at_19) _ ?_
    show Steps p.tables e below (s₁.setTop (mkF m 21 #[.val (.long q0), .second, .val (.int p1), .val (.int p2), .val (.int p3), .val (.int p4), .val (.int p5), .val (.int (p1 &&& (7 : Int32))), .val (.int ((1 : Int32) + ((p2 &&& (2147483647 : Int32)) % (19 : Int32)))), .unset, .unset, .unset, .unset, .unset, .unset, .unset, .unset, .unset] [(.int (2147483647 : Int32)), (.int p3)])) _
    refine XS.iand X0.here hx rfl (hb hby at_21) rfl ?_
    show Steps p.tables e below (s₁.setTop (mkF m 22 #[.val (.long q0), .second, .val (.int p1), .val (.int p2), .val (.int p3), .val (.int p4), .val (.int p5), .val (.int (p1 &&& (7 : Int32))), .val (.int ((1 : Int32) + ((p2 &&& (2147483647 : Int32)) % (19 : Int32)))), .unset, .unset, .unset, .unset, .unset, .unset, .unset, .unset, .unset] [(.int (p3 &&& (2147483647 : Int32)))])) _
    refine XS.iload X0.here hx rfl (hb hby at_22) rfl ?_
    show Steps p.tables e below (s₁.setTop (mkF m 24 #[.val (.long q0), .second, .val (.int p1), .val (.int p2), .val (.int p3), .val (.int p4), .val (.int p5), .val (.int (p1 &&& (7 : Int32))), .val (.int ((1 : Int32) + ((p2 &&& (2147483647 : Int32)) % (19 : Int32)))), .unset, .unset, .unset, .unset, .unset, .unset, .unset, .unset, .unset] [(.int ((1 : Int32) + ((p2 &&& (2147483647 : Int32)) % (19 : Int32)))), (.int (p3 &&& (2147483647 : Int32)))])) _
    refine iremM X0 hx rfl (hb hby at_24) rfl (own_nz p2) ?_
    show Steps p.tables e below (s₁.setTop (mkF m 25 #[.val (.long q0), .second, .val (.int p1), .val (.int p2), .val (.int p3), .val (.int p4), .val (.int p5), .val (.int (p1 &&& (7 : Int32))), .val (.int ((1 : Int32) + ((p2 &&& (2147483647 : Int32)) % (19 : Int32)))), .unset, .unset, .unset, .unset, .unset, .unset, .unset, .unset, .unset] [(.int ((p3 &&& (2147483647 : Int32)) % ((1 : Int32) + ((p2 &&& (2147483647 : Int32)) % (19 : Int32)))))])) _
    refine XS.istore X0.here hx rfl (hb hby at_25) rfl (l' := #[.val (.long q0), .second, .val (.int p1), .val (.int p2), .val (.int p3), .val (.int p4), .val (.int p5), .val (.int (p1 &&& (7 : Int32))), .val (.int ((1 : Int32) + ((p2 &&& (2147483647 : Int32)) % (19 : Int32)))), .val (.int ((p3 &&& (2147483647 : Int32)) % ((1 : Int32) + ((p2 &&& (2147483647 : Int32)) % (19 : Int32))))), .unset, .unset, .unset, .unset, .unset, .unset, .unset, .unset]) rfl ?_
    show Steps p.tables e below (s₁.setTop (mkF m 27 #[.val (.long q0), .second, .val (.int p1), .val (.int p2), .val (.int p3), .val (.int p4), .val (.int p5), .val (.int (p1 &&& (7 : Int32))), .val (.int ((1 : Int32) + ((p2 &&& (2147483647 : Int32)) % (19 : Int32)))), .val (.int ((p3 &&& (2147483647 : Int32)) % ((1 : Int32) + ((p2 &&& (2147483647 : Int32)) % (19 : Int32))))), .unset, .unset, .unset, .unset, .unset, .unset, .unset, .unset] [])) _
    refine XS.iload X0.here hx rfl (hb hby at_27) rfl ?_
    show Steps p.tables e below (s₁.setTop (mkF m 29 #[.val (.long q0), .second, .val (.int p1), .val (.int p2), .val (.int p3), .val (.int p4), .val (.int p5), .val (.int (p1 &&& (7 : Int32))), .val (.int ((1 : Int32) + ((p2 &&& (2147483647 : Int32)) % (19 : Int32)))), .val (.int ((p3 &&& (2147483647 : Int32)) % ((1 : Int32) + ((p2 &&& (2147483647 : Int32)) % (19 : Int32))))), .unset, .unset, .unset, .unset, .unset, .unset, .unset, .unset] [(.int p5)])) _
    refine XS.iconst X0.here hx rfl (hb hby at_29) ?_
    show Steps p.tables e below (s₁.setTop (mkF m 30 #[.val (.long q0), .second, .val (.int p1), .val (.int p2), .val (.int p3), .val (.int p4), .val (.int p5), .val (.int (p1 &&& (7 : Int32))), .val (.int ((1 : Int32) + ((p2 &&& (2147483647 : Int32)) % (19 : Int32)))), .val (.int ((p3 &&& (2147483647 : Int32)) % ((1 : Int32) + ((p2 &&& (2147483647 : Int32)) % (19 : Int32))))), .unset, .unset, .unset, .unset, .unset, .unset, .unset, .unset] [(.int (1 : Int32)), (.int p5)])) _
    refine XS.iand X0.here hx rfl (hb hby at_30) rfl ?_
    exact k)
  have pre23 := fun (t : State) (k : Steps p.tables e below (s₁.setTop (mkF m 47 #[.val (.long q0), .second, .val (.int p1), .val (.int p2), .val (.int p3), .val (.int p4), .val (.int p5), .val (.int (p1 &&& (7 : Int32))), .val (.int ((1 : Int32) + ((p2 &&& (2147483647 : Int32)) % (19 : Int32)))), .val (.int ((p3 &&& (2147483647 : Int32)) % ((1 : Int32) + ((p2 &&& (2147483647 : Int32)) % (19 : Int32))))), .unset, .unset, .unset, .unset, .unset, .unset, .unset, .unset] [(.int (j0_0 p4 p5))])) t) => pre22 t (by
    by_cases hc24 : (p5 &&& (1 : Int32)) = (0 : Int32)
    · skip
      show Steps p.tables e below (s₁.setTop (mkF m 31 #[.val (.long q0), .second, .val (.int p1), .val (.int p2), .val (.int p3), .val (.int p4), .val (.int p5), .val (.int (p1 &&& (7 : Int32))), .val (.int ((1 : Int32) + ((p2 &&& (2147483647 : Int32)) % (19 : Int32)))), .val (.int ((p3 &&& (2147483647 : Int32)) % ((1 : Int32) + ((p2 &&& (2147483647 : Int32)) % (19 : Int32))))), .unset, .unset, .unset, .unset, .unset, .unset, .unset, .unset] [(.int (p5 &&& (1 : Int32)))])) _
      refine XS.ifYes X0.here hx rfl (pc0 := 31) (pc' := 42) rfl (hb hby at_31) rfl ((if0 _ _).trans (teq hc24).1) (by decide) (by decide) ?_
      show Steps p.tables e below (s₁.setTop (mkF m 42 #[.val (.long q0), .second, .val (.int p1), .val (.int p2), .val (.int p3), .val (.int p4), .val (.int p5), .val (.int (p1 &&& (7 : Int32))), .val (.int ((1 : Int32) + ((p2 &&& (2147483647 : Int32)) % (19 : Int32)))), .val (.int ((p3 &&& (2147483647 : Int32)) % ((1 : Int32) + ((p2 &&& (2147483647 : Int32)) % (19 : Int32))))), .unset, .unset, .unset, .unset, .unset, .unset, .unset, .unset] [])) _
      refine XS.iload X0.here hx rfl (hb hby at_42) rfl ?_
      show Steps p.tables e below (s₁.setTop (mkF m 44 #[.val (.long q0), .second, .val (.int p1), .val (.int p2), .val (.int p3), .val (.int p4), .val (.int p5), .val (.int (p1 &&& (7 : Int32))), .val (.int ((1 : Int32) + ((p2 &&& (2147483647 : Int32)) % (19 : Int32)))), .val (.int ((p3 &&& (2147483647 : Int32)) % ((1 : Int32) + ((p2 &&& (2147483647 : Int32)) % (19 : Int32))))), .unset, .unset, .unset, .unset, .unset, .unset, .unset, .unset] [(.int p4)])) _
      refine X0.ldcInt hx hown (mvT hZ (hw _ (List.mem_of_getElem? (i := 0) rfl))) (g := (mkF m 44 #[.val (.long q0), .second, .val (.int p1), .val (.int p2), .val (.int p3), .val (.int p4), .val (.int p5), .val (.int (p1 &&& (7 : Int32))), .val (.int ((1 : Int32) + ((p2 &&& (2147483647 : Int32)) % (19 : Int32)))), .val (.int ((p3 &&& (2147483647 : Int32)) % ((1 : Int32) + ((p2 &&& (2147483647 : Int32)) % (19 : Int32))))), .unset, .unset, .unset, .unset, .unset, .unset, .unset, .unset] [(.int p4)])) rfl (hb hby at_44) _ ?_
      show Steps p.tables e below (s₁.setTop (mkF m 46 #[.val (.long q0), .second, .val (.int p1), .val (.int p2), .val (.int p3), .val (.int p4), .val (.int p5), .val (.int (p1 &&& (7 : Int32))), .val (.int ((1 : Int32) + ((p2 &&& (2147483647 : Int32)) % (19 : Int32)))), .val (.int ((p3 &&& (2147483647 : Int32)) % ((1 : Int32) + ((p2 &&& (2147483647 : Int32)) % (19 : Int32))))), .unset, .unset, .unset, .unset, .unset, .unset, .unset, .unset] [(.int (2147483647 : Int32)), (.int p4)])) _
      refine XS.iand X0.here hx rfl (hb hby at_46) rfl ?_
      have hj25 : (j0_0 p4 p5) = (p4 &&& (2147483647 : Int32)) := by first | exact (if_pos hc24) | (unfold j0_0; first | (rw [if_pos hc24]) | (simp only [if_pos hc24]))
      rw [hj25] at k
      exact k
    · skip
      show Steps p.tables e below (s₁.setTop (mkF m 31 #[.val (.long q0), .second, .val (.int p1), .val (.int p2), .val (.int p3), .val (.int p4), .val (.int p5), .val (.int (p1 &&& (7 : Int32))), .val (.int ((1 : Int32) + ((p2 &&& (2147483647 : Int32)) % (19 : Int32)))), .val (.int ((p3 &&& (2147483647 : Int32)) % ((1 : Int32) + ((p2 &&& (2147483647 : Int32)) % (19 : Int32))))), .unset, .unset, .unset, .unset, .unset, .unset, .unset, .unset] [(.int (p5 &&& (1 : Int32)))])) _
      refine XS.ifNo X0.here hx rfl (hb hby at_31) rfl ((if0 _ _).trans (feq hc24).1) ?_
      show Steps p.tables e below (s₁.setTop (mkF m 34 #[.val (.long q0), .second, .val (.int p1), .val (.int p2), .val (.int p3), .val (.int p4), .val (.int p5), .val (.int (p1 &&& (7 : Int32))), .val (.int ((1 : Int32) + ((p2 &&& (2147483647 : Int32)) % (19 : Int32)))), .val (.int ((p3 &&& (2147483647 : Int32)) % ((1 : Int32) + ((p2 &&& (2147483647 : Int32)) % (19 : Int32))))), .unset, .unset, .unset, .unset, .unset, .unset, .unset, .unset] [])) _
      refine XS.iload X0.here hx rfl (hb hby at_34) rfl ?_
      show Steps p.tables e below (s₁.setTop (mkF m 36 #[.val (.long q0), .second, .val (.int p1), .val (.int p2), .val (.int p3), .val (.int p4), .val (.int p5), .val (.int (p1 &&& (7 : Int32))), .val (.int ((1 : Int32) + ((p2 &&& (2147483647 : Int32)) % (19 : Int32)))), .val (.int ((p3 &&& (2147483647 : Int32)) % ((1 : Int32) + ((p2 &&& (2147483647 : Int32)) % (19 : Int32))))), .unset, .unset, .unset, .unset, .unset, .unset, .unset, .unset] [(.int p4)])) _
      refine XS.bipush X0.here hx rfl (hb hby at_36) ?_
      show Steps p.tables e below (s₁.setTop (mkF m 38 #[.val (.long q0), .second, .val (.int p1), .val (.int p2), .val (.int p3), .val (.int p4), .val (.int p5), .val (.int (p1 &&& (7 : Int32))), .val (.int ((1 : Int32) + ((p2 &&& (2147483647 : Int32)) % (19 : Int32)))), .val (.int ((p3 &&& (2147483647 : Int32)) % ((1 : Int32) + ((p2 &&& (2147483647 : Int32)) % (19 : Int32))))), .unset, .unset, .unset, .unset, .unset, .unset, .unset, .unset] [(.int (7 : Int32)), (.int p4)])) _
      refine XS.iand X0.here hx rfl (hb hby at_38) rfl ?_
      show Steps p.tables e below (s₁.setTop (mkF m 39 #[.val (.long q0), .second, .val (.int p1), .val (.int p2), .val (.int p3), .val (.int p4), .val (.int p5), .val (.int (p1 &&& (7 : Int32))), .val (.int ((1 : Int32) + ((p2 &&& (2147483647 : Int32)) % (19 : Int32)))), .val (.int ((p3 &&& (2147483647 : Int32)) % ((1 : Int32) + ((p2 &&& (2147483647 : Int32)) % (19 : Int32))))), .unset, .unset, .unset, .unset, .unset, .unset, .unset, .unset] [(.int (p4 &&& (7 : Int32)))])) _
      refine XS.goto X0.here hx rfl (pc0 := 39) (pc' := 47) rfl (hb hby at_39) (by decide) (by decide) ?_
      have hj26 : (j0_0 p4 p5) = (p4 &&& (7 : Int32)) := by first | exact (if_neg hc24) | (unfold j0_0; first | (rw [if_neg hc24]) | (simp only [if_neg hc24]))
      rw [hj26] at k
      exact k)
  obtain ⟨T27, h27, k27, X27, e27, E27, A27, st27⟩ := newP X0 hx hZ (hw _ (List.mem_of_getElem? (i := 1) rfl)) e0 (g := (mkF m 51 #[.val (.long q0), .second, .val (.int p1), .val (.int p2), .val (.int p3), .val (.int p4), .val (.int p5), .val (.int (p1 &&& (7 : Int32))), .val (.int ((1 : Int32) + ((p2 &&& (2147483647 : Int32)) % (19 : Int32)))), .val (.int ((p3 &&& (2147483647 : Int32)) % ((1 : Int32) + ((p2 &&& (2147483647 : Int32)) % (19 : Int32))))), .val (.int (j0_0 p4 p5)), .unset, .unset, .unset, .unset, .unset, .unset, .unset] [(.int (19 : Int32))])) rfl (hb hby at_51) rfl (by decide) (cap := 19) (by decide) (by decide) (by decide) (by decide)
  obtain ⟨b27, gg27⟩ : ∃ z, z = h0.size := ⟨_, rfl⟩
  rw [← gg27] at A27 st27
  have g_b27 : n0 ≤ b27 := Nat.le_trans Z0 (Nat.le_of_eq gg27.symm)
  have Z28 := Nat.le_trans Z0 E27.1
  have V27 : Arv Z h27 b27 k27 .int (19 : Int32) [(.int (0 : Int32)), (.int (0 : Int32)), (.int (0 : Int32)), (.int (0 : Int32)), (.int (0 : Int32)), (.int (0 : Int32)), (.int (0 : Int32)), (.int (0 : Int32)), (.int (0 : Int32)), (.int (0 : Int32)), (.int (0 : Int32)), (.int (0 : Int32)), (.int (0 : Int32)), (.int (0 : Int32)), (.int (0 : Int32)), (.int (0 : Int32)), (.int (0 : Int32)), (.int (0 : Int32)), (.int (0 : Int32))] (.int (0 : Int32)) := (Arv.new A27 (by decide)).pad (pad_rep [] (.int (0 : Int32)) 19)
  obtain ⟨cl29, Ar29, q29, S29, M29, H29, G29⟩ := id V27
  have hin30 : ¬ ((0 : Int32) < 0 ∨ cl29.slots.size ≤ ((0 : Int32)).toNatClampNeg) := inb_of S29 ⟨by decide, by decide⟩
  obtain ⟨T31, h31, X31, e31, W31, st31⟩ := stI X27 hx hZ e27 Ar29 (j := (0 : Int32)) hin30 (g := (mkF m 63 #[.val (.long q0), .second, .val (.int p1), .val (.int p2), .val (.int p3), .val (.int p4), .val (.int p5), .val (.int (p1 &&& (7 : Int32))), .val (.int ((1 : Int32) + ((p2 &&& (2147483647 : Int32)) % (19 : Int32)))), .val (.int ((p3 &&& (2147483647 : Int32)) % ((1 : Int32) + ((p2 &&& (2147483647 : Int32)) % (19 : Int32))))), .val (.int (j0_0 p4 p5)), .val (.ref b27), .unset, .unset, .unset, .unset, .unset, .unset] [(.int ((q0.toInt32) &&& (7 : Int32))), (.int (0 : Int32)), (.ref b27)])) rfl rfl (hb hby at_63)
  have V31 : Arv Z h31 b27 k27 .int (19 : Int32) [(.int ((q0.toInt32) &&& (7 : Int32))), (.int (0 : Int32)), (.int (0 : Int32)), (.int (0 : Int32)), (.int (0 : Int32)), (.int (0 : Int32)), (.int (0 : Int32)), (.int (0 : Int32)), (.int (0 : Int32)), (.int (0 : Int32)), (.int (0 : Int32)), (.int (0 : Int32)), (.int (0 : Int32)), (.int (0 : Int32)), (.int (0 : Int32)), (.int (0 : Int32)), (.int (0 : Int32)), (.int (0 : Int32)), (.int (0 : Int32))] (.int (0 : Int32)) := Arv.set Ar29 q29 S29 M29 H29 G29 rfl W31 0 rfl (Nat.le_of_ble_eq_true rfl)
  have Z33 := Nat.le_trans Z28 (Keep.of_wr W31).1
  have N34 := Fr.snoc X31 N0 g_b27
  obtain ⟨cl35, Ar35, q35, S35, M35, H35, G35⟩ := id V31
  have hin36 : ¬ ((1 : Int32) < 0 ∨ cl35.slots.size ≤ ((1 : Int32)).toNatClampNeg) := inb_of S35 ⟨by decide, by decide⟩
  obtain ⟨T37, h37, X37, e37, W37, st37⟩ := stI X31 hx hZ e31 Ar35 (j := (1 : Int32)) hin36 (g := (mkF m 74 #[.val (.long q0), .second, .val (.int p1), .val (.int p2), .val (.int p3), .val (.int p4), .val (.int p5), .val (.int (p1 &&& (7 : Int32))), .val (.int ((1 : Int32) + ((p2 &&& (2147483647 : Int32)) % (19 : Int32)))), .val (.int ((p3 &&& (2147483647 : Int32)) % ((1 : Int32) + ((p2 &&& (2147483647 : Int32)) % (19 : Int32))))), .val (.int (j0_0 p4 p5)), .val (.ref b27), .unset, .unset, .unset, .unset, .unset, .unset] [(.int ((((q0.toUInt64 >>> ((3 : Int32) &&& 0x3f).toInt64.toUInt64).toInt64).toInt32) &&& (7 : Int32))), (.int (1 : Int32)), (.ref b27)])) rfl rfl (hb hby at_74)
  have V37 : Arv Z h37 b27 k27 .int (19 : Int32) [(.int ((q0.toInt32) &&& (7 : Int32))), (.int ((((q0.toUInt64 >>> ((3 : Int32) &&& 0x3f).toInt64.toUInt64).toInt64).toInt32) &&& (7 : Int32))), (.int (0 : Int32)), (.int (0 : Int32)), (.int (0 : Int32)), (.int (0 : Int32)), (.int (0 : Int32)), (.int (0 : Int32)), (.int (0 : Int32)), (.int (0 : Int32)), (.int (0 : Int32)), (.int (0 : Int32)), (.int (0 : Int32)), (.int (0 : Int32)), (.int (0 : Int32)), (.int (0 : Int32)), (.int (0 : Int32)), (.int (0 : Int32)), (.int (0 : Int32))] (.int (0 : Int32)) := Arv.set Ar35 q35 S35 M35 H35 G35 rfl W37 1 rfl (Nat.le_of_ble_eq_true rfl)
  have Z39 := Nat.le_trans Z33 (Keep.of_wr W37).1
  have N40 := Fr.snoc X37 N34 g_b27
  obtain ⟨cl41, Ar41, q41, S41, M41, H41, G41⟩ := id V37
  have hin42 : ¬ ((2 : Int32) < 0 ∨ cl41.slots.size ≤ ((2 : Int32)).toNatClampNeg) := inb_of S41 ⟨by decide, by decide⟩
  obtain ⟨T43, h43, X43, e43, W43, st43⟩ := stI X37 hx hZ e37 Ar41 (j := (2 : Int32)) hin42 (g := (mkF m 86 #[.val (.long q0), .second, .val (.int p1), .val (.int p2), .val (.int p3), .val (.int p4), .val (.int p5), .val (.int (p1 &&& (7 : Int32))), .val (.int ((1 : Int32) + ((p2 &&& (2147483647 : Int32)) % (19 : Int32)))), .val (.int ((p3 &&& (2147483647 : Int32)) % ((1 : Int32) + ((p2 &&& (2147483647 : Int32)) % (19 : Int32))))), .val (.int (j0_0 p4 p5)), .val (.ref b27), .unset, .unset, .unset, .unset, .unset, .unset] [(.int ((((q0.toUInt64 >>> ((6 : Int32) &&& 0x3f).toInt64.toUInt64).toInt64).toInt32) &&& (7 : Int32))), (.int (2 : Int32)), (.ref b27)])) rfl rfl (hb hby at_86)
  have V43 : Arv Z h43 b27 k27 .int (19 : Int32) [(.int ((q0.toInt32) &&& (7 : Int32))), (.int ((((q0.toUInt64 >>> ((3 : Int32) &&& 0x3f).toInt64.toUInt64).toInt64).toInt32) &&& (7 : Int32))), (.int ((((q0.toUInt64 >>> ((6 : Int32) &&& 0x3f).toInt64.toUInt64).toInt64).toInt32) &&& (7 : Int32))), (.int (0 : Int32)), (.int (0 : Int32)), (.int (0 : Int32)), (.int (0 : Int32)), (.int (0 : Int32)), (.int (0 : Int32)), (.int (0 : Int32)), (.int (0 : Int32)), (.int (0 : Int32)), (.int (0 : Int32)), (.int (0 : Int32)), (.int (0 : Int32)), (.int (0 : Int32)), (.int (0 : Int32)), (.int (0 : Int32)), (.int (0 : Int32))] (.int (0 : Int32)) := Arv.set Ar41 q41 S41 M41 H41 G41 rfl W43 2 rfl (Nat.le_of_ble_eq_true rfl)
  have Z45 := Nat.le_trans Z39 (Keep.of_wr W43).1
  have N46 := Fr.snoc X43 N40 g_b27
  obtain ⟨cl47, Ar47, q47, S47, M47, H47, G47⟩ := id V43
  have hin48 : ¬ ((3 : Int32) < 0 ∨ cl47.slots.size ≤ ((3 : Int32)).toNatClampNeg) := inb_of S47 ⟨by decide, by decide⟩
  obtain ⟨T49, h49, X49, e49, W49, st49⟩ := stI X43 hx hZ e43 Ar47 (j := (3 : Int32)) hin48 (g := (mkF m 98 #[.val (.long q0), .second, .val (.int p1), .val (.int p2), .val (.int p3), .val (.int p4), .val (.int p5), .val (.int (p1 &&& (7 : Int32))), .val (.int ((1 : Int32) + ((p2 &&& (2147483647 : Int32)) % (19 : Int32)))), .val (.int ((p3 &&& (2147483647 : Int32)) % ((1 : Int32) + ((p2 &&& (2147483647 : Int32)) % (19 : Int32))))), .val (.int (j0_0 p4 p5)), .val (.ref b27), .unset, .unset, .unset, .unset, .unset, .unset] [(.int ((((q0.toUInt64 >>> ((9 : Int32) &&& 0x3f).toInt64.toUInt64).toInt64).toInt32) &&& (7 : Int32))), (.int (3 : Int32)), (.ref b27)])) rfl rfl (hb hby at_98)
  have V49 : Arv Z h49 b27 k27 .int (19 : Int32) [(.int ((q0.toInt32) &&& (7 : Int32))), (.int ((((q0.toUInt64 >>> ((3 : Int32) &&& 0x3f).toInt64.toUInt64).toInt64).toInt32) &&& (7 : Int32))), (.int ((((q0.toUInt64 >>> ((6 : Int32) &&& 0x3f).toInt64.toUInt64).toInt64).toInt32) &&& (7 : Int32))), (.int ((((q0.toUInt64 >>> ((9 : Int32) &&& 0x3f).toInt64.toUInt64).toInt64).toInt32) &&& (7 : Int32))), (.int (0 : Int32)), (.int (0 : Int32)), (.int (0 : Int32)), (.int (0 : Int32)), (.int (0 : Int32)), (.int (0 : Int32)), (.int (0 : Int32)), (.int (0 : Int32)), (.int (0 : Int32)), (.int (0 : Int32)), (.int (0 : Int32)), (.int (0 : Int32)), (.int (0 : Int32)), (.int (0 : Int32)), (.int (0 : Int32))] (.int (0 : Int32)) := Arv.set Ar47 q47 S47 M47 H47 G47 rfl W49 3 rfl (Nat.le_of_ble_eq_true rfl)
  have Z51 := Nat.le_trans Z45 (Keep.of_wr W49).1
  have N52 := Fr.snoc X49 N46 g_b27
  obtain ⟨cl53, Ar53, q53, S53, M53, H53, G53⟩ := id V49
  have hin54 : ¬ ((4 : Int32) < 0 ∨ cl53.slots.size ≤ ((4 : Int32)).toNatClampNeg) := inb_of S53 ⟨by decide, by decide⟩
  obtain ⟨T55, h55, X55, e55, W55, st55⟩ := stI X49 hx hZ e49 Ar53 (j := (4 : Int32)) hin54 (g := (mkF m 110 #[.val (.long q0), .second, .val (.int p1), .val (.int p2), .val (.int p3), .val (.int p4), .val (.int p5), .val (.int (p1 &&& (7 : Int32))), .val (.int ((1 : Int32) + ((p2 &&& (2147483647 : Int32)) % (19 : Int32)))), .val (.int ((p3 &&& (2147483647 : Int32)) % ((1 : Int32) + ((p2 &&& (2147483647 : Int32)) % (19 : Int32))))), .val (.int (j0_0 p4 p5)), .val (.ref b27), .unset, .unset, .unset, .unset, .unset, .unset] [(.int ((((q0.toUInt64 >>> ((12 : Int32) &&& 0x3f).toInt64.toUInt64).toInt64).toInt32) &&& (7 : Int32))), (.int (4 : Int32)), (.ref b27)])) rfl rfl (hb hby at_110)
  have V55 : Arv Z h55 b27 k27 .int (19 : Int32) [(.int ((q0.toInt32) &&& (7 : Int32))), (.int ((((q0.toUInt64 >>> ((3 : Int32) &&& 0x3f).toInt64.toUInt64).toInt64).toInt32) &&& (7 : Int32))), (.int ((((q0.toUInt64 >>> ((6 : Int32) &&& 0x3f).toInt64.toUInt64).toInt64).toInt32) &&& (7 : Int32))), (.int ((((q0.toUInt64 >>> ((9 : Int32) &&& 0x3f).toInt64.toUInt64).toInt64).toInt32) &&& (7 : Int32))), (.int ((((q0.toUInt64 >>> ((12 : Int32) &&& 0x3f).toInt64.toUInt64).toInt64).toInt32) &&& (7 : Int32))), (.int (0 : Int32)), (.int (0 : Int32)), (.int (0 : Int32)), (.int (0 : Int32)), (.int (0 : Int32)), (.int (0 : Int32)), (.int (0 : Int32)), (.int (0 : Int32)), (.int (0 : Int32)), (.int (0 : Int32)), (.int (0 : Int32)), (.int (0 : Int32)), (.int (0 : Int32)), (.int (0 : Int32))] (.int (0 : Int32)) := Arv.set Ar53 q53 S53 M53 H53 G53 rfl W55 4 rfl (Nat.le_of_ble_eq_true rfl)
  have Z57 := Nat.le_trans Z51 (Keep.of_wr W55).1
  have N58 := Fr.snoc X55 N52 g_b27
  obtain ⟨cl59, Ar59, q59, S59, M59, H59, G59⟩ := id V55
  have hin60 : ¬ ((5 : Int32) < 0 ∨ cl59.slots.size ≤ ((5 : Int32)).toNatClampNeg) := inb_of S59 ⟨by decide, by decide⟩
  obtain ⟨T61, h61, X61, e61, W61, st61⟩ := stI X55 hx hZ e55 Ar59 (j := (5 : Int32)) hin60 (g := (mkF m 122 #[.val (.long q0), .second, .val (.int p1), .val (.int p2), .val (.int p3), .val (.int p4), .val (.int p5), .val (.int (p1 &&& (7 : Int32))), .val (.int ((1 : Int32) + ((p2 &&& (2147483647 : Int32)) % (19 : Int32)))), .val (.int ((p3 &&& (2147483647 : Int32)) % ((1 : Int32) + ((p2 &&& (2147483647 : Int32)) % (19 : Int32))))), .val (.int (j0_0 p4 p5)), .val (.ref b27), .unset, .unset, .unset, .unset, .unset, .unset] [(.int ((((q0.toUInt64 >>> ((15 : Int32) &&& 0x3f).toInt64.toUInt64).toInt64).toInt32) &&& (7 : Int32))), (.int (5 : Int32)), (.ref b27)])) rfl rfl (hb hby at_122)
  have V61 : Arv Z h61 b27 k27 .int (19 : Int32) [(.int ((q0.toInt32) &&& (7 : Int32))), (.int ((((q0.toUInt64 >>> ((3 : Int32) &&& 0x3f).toInt64.toUInt64).toInt64).toInt32) &&& (7 : Int32))), (.int ((((q0.toUInt64 >>> ((6 : Int32) &&& 0x3f).toInt64.toUInt64).toInt64).toInt32) &&& (7 : Int32))), (.int ((((q0.toUInt64 >>> ((9 : Int32) &&& 0x3f).toInt64.toUInt64).toInt64).toInt32) &&& (7 : Int32))), (.int ((((q0.toUInt64 >>> ((12 : Int32) &&& 0x3f).toInt64.toUInt64).toInt64).toInt32) &&& (7 : Int32))), (.int ((((q0.toUInt64 >>> ((15 : Int32) &&& 0x3f).toInt64.toUInt64).toInt64).toInt32) &&& (7 : Int32))), (.int (0 : Int32)), (.int (0 : Int32)), (.int (0 : Int32)), (.int (0 : Int32)), (.int (0 : Int32)), (.int (0 : Int32)), (.int (0 : Int32)), (.int (0 : Int32)), (.int (0 : Int32)), (.int (0 : Int32)), (.int (0 : Int32)), (.int (0 : Int32)), (.int (0 : Int32))] (.int (0 : Int32)) := Arv.set Ar59 q59 S59 M59 H59 G59 rfl W61 5 rfl (Nat.le_of_ble_eq_true rfl)
  have Z63 := Nat.le_trans Z57 (Keep.of_wr W61).1
  have N64 := Fr.snoc X61 N58 g_b27
  obtain ⟨cl65, Ar65, q65, S65, M65, H65, G65⟩ := id V61
  have hin66 : ¬ ((6 : Int32) < 0 ∨ cl65.slots.size ≤ ((6 : Int32)).toNatClampNeg) := inb_of S65 ⟨by decide, by decide⟩
  obtain ⟨T67, h67, X67, e67, W67, st67⟩ := stI X61 hx hZ e61 Ar65 (j := (6 : Int32)) hin66 (g := (mkF m 135 #[.val (.long q0), .second, .val (.int p1), .val (.int p2), .val (.int p3), .val (.int p4), .val (.int p5), .val (.int (p1 &&& (7 : Int32))), .val (.int ((1 : Int32) + ((p2 &&& (2147483647 : Int32)) % (19 : Int32)))), .val (.int ((p3 &&& (2147483647 : Int32)) % ((1 : Int32) + ((p2 &&& (2147483647 : Int32)) % (19 : Int32))))), .val (.int (j0_0 p4 p5)), .val (.ref b27), .unset, .unset, .unset, .unset, .unset, .unset] [(.int ((((q0.toUInt64 >>> ((18 : Int32) &&& 0x3f).toInt64.toUInt64).toInt64).toInt32) &&& (7 : Int32))), (.int (6 : Int32)), (.ref b27)])) rfl rfl (hb hby at_135)
  have V67 : Arv Z h67 b27 k27 .int (19 : Int32) [(.int ((q0.toInt32) &&& (7 : Int32))), (.int ((((q0.toUInt64 >>> ((3 : Int32) &&& 0x3f).toInt64.toUInt64).toInt64).toInt32) &&& (7 : Int32))), (.int ((((q0.toUInt64 >>> ((6 : Int32) &&& 0x3f).toInt64.toUInt64).toInt64).toInt32) &&& (7 : Int32))), (.int ((((q0.toUInt64 >>> ((9 : Int32) &&& 0x3f).toInt64.toUInt64).toInt64).toInt32) &&& (7 : Int32))), (.int ((((q0.toUInt64 >>> ((12 : Int32) &&& 0x3f).toInt64.toUInt64).toInt64).toInt32) &&& (7 : Int32))), (.int ((((q0.toUInt64 >>> ((15 : Int32) &&& 0x3f).toInt64.toUInt64).toInt64).toInt32) &&& (7 : Int32))), (.int ((((q0.toUInt64 >>> ((18 : Int32) &&& 0x3f).toInt64.toUInt64).toInt64).toInt32) &&& (7 : Int32))), (.int (0 : Int32)), (.int (0 : Int32)), (.int (0 : Int32)), (.int (0 : Int32)), (.int (0 : Int32)), (.int (0 : Int32)), (.int (0 : Int32)), (.int (0 : Int32)), (.int (0 : Int32)), (.int (0 : Int32)), (.int (0 : Int32)), (.int (0 : Int32))] (.int (0 : Int32)) := Arv.set Ar65 q65 S65 M65 H65 G65 rfl W67 6 rfl (Nat.le_of_ble_eq_true rfl)
  have Z69 := Nat.le_trans Z63 (Keep.of_wr W67).1
  have N70 := Fr.snoc X67 N64 g_b27
  obtain ⟨cl71, Ar71, q71, S71, M71, H71, G71⟩ := id V67
  have hin72 : ¬ ((7 : Int32) < 0 ∨ cl71.slots.size ≤ ((7 : Int32)).toNatClampNeg) := inb_of S71 ⟨by decide, by decide⟩
  obtain ⟨T73, h73, X73, e73, W73, st73⟩ := stI X67 hx hZ e67 Ar71 (j := (7 : Int32)) hin72 (g := (mkF m 148 #[.val (.long q0), .second, .val (.int p1), .val (.int p2), .val (.int p3), .val (.int p4), .val (.int p5), .val (.int (p1 &&& (7 : Int32))), .val (.int ((1 : Int32) + ((p2 &&& (2147483647 : Int32)) % (19 : Int32)))), .val (.int ((p3 &&& (2147483647 : Int32)) % ((1 : Int32) + ((p2 &&& (2147483647 : Int32)) % (19 : Int32))))), .val (.int (j0_0 p4 p5)), .val (.ref b27), .unset, .unset, .unset, .unset, .unset, .unset] [(.int ((((q0.toUInt64 >>> ((21 : Int32) &&& 0x3f).toInt64.toUInt64).toInt64).toInt32) &&& (7 : Int32))), (.int (7 : Int32)), (.ref b27)])) rfl rfl (hb hby at_148)
  have V73 : Arv Z h73 b27 k27 .int (19 : Int32) [(.int ((q0.toInt32) &&& (7 : Int32))), (.int ((((q0.toUInt64 >>> ((3 : Int32) &&& 0x3f).toInt64.toUInt64).toInt64).toInt32) &&& (7 : Int32))), (.int ((((q0.toUInt64 >>> ((6 : Int32) &&& 0x3f).toInt64.toUInt64).toInt64).toInt32) &&& (7 : Int32))), (.int ((((q0.toUInt64 >>> ((9 : Int32) &&& 0x3f).toInt64.toUInt64).toInt64).toInt32) &&& (7 : Int32))), (.int ((((q0.toUInt64 >>> ((12 : Int32) &&& 0x3f).toInt64.toUInt64).toInt64).toInt32) &&& (7 : Int32))), (.int ((((q0.toUInt64 >>> ((15 : Int32) &&& 0x3f).toInt64.toUInt64).toInt64).toInt32) &&& (7 : Int32))), (.int ((((q0.toUInt64 >>> ((18 : Int32) &&& 0x3f).toInt64.toUInt64).toInt64).toInt32) &&& (7 : Int32))), (.int ((((q0.toUInt64 >>> ((21 : Int32) &&& 0x3f).toInt64.toUInt64).toInt64).toInt32) &&& (7 : Int32))), (.int (0 : Int32)), (.int (0 : Int32)), (.int (0 : Int32)), (.int (0 : Int32)), (.int (0 : Int32)), (.int (0 : Int32)), (.int (0 : Int32)), (.int (0 : Int32)), (.int (0 : Int32)), (.int (0 : Int32)), (.int (0 : Int32))] (.int (0 : Int32)) := Arv.set Ar71 q71 S71 M71 H71 G71 rfl W73 7 rfl (Nat.le_of_ble_eq_true rfl)
  have Z75 := Nat.le_trans Z69 (Keep.of_wr W73).1
  have N76 := Fr.snoc X73 N70 g_b27
  obtain ⟨cl77, Ar77, q77, S77, M77, H77, G77⟩ := id V73
  have hin78 : ¬ ((8 : Int32) < 0 ∨ cl77.slots.size ≤ ((8 : Int32)).toNatClampNeg) := inb_of S77 ⟨by decide, by decide⟩
  obtain ⟨T79, h79, X79, e79, W79, st79⟩ := stI X73 hx hZ e73 Ar77 (j := (8 : Int32)) hin78 (g := (mkF m 161 #[.val (.long q0), .second, .val (.int p1), .val (.int p2), .val (.int p3), .val (.int p4), .val (.int p5), .val (.int (p1 &&& (7 : Int32))), .val (.int ((1 : Int32) + ((p2 &&& (2147483647 : Int32)) % (19 : Int32)))), .val (.int ((p3 &&& (2147483647 : Int32)) % ((1 : Int32) + ((p2 &&& (2147483647 : Int32)) % (19 : Int32))))), .val (.int (j0_0 p4 p5)), .val (.ref b27), .unset, .unset, .unset, .unset, .unset, .unset] [(.int ((((q0.toUInt64 >>> ((24 : Int32) &&& 0x3f).toInt64.toUInt64).toInt64).toInt32) &&& (7 : Int32))), (.int (8 : Int32)), (.ref b27)])) rfl rfl (hb hby at_161)
  have V79 : Arv Z h79 b27 k27 .int (19 : Int32) [(.int ((q0.toInt32) &&& (7 : Int32))), (.int ((((q0.toUInt64 >>> ((3 : Int32) &&& 0x3f).toInt64.toUInt64).toInt64).toInt32) &&& (7 : Int32))), (.int ((((q0.toUInt64 >>> ((6 : Int32) &&& 0x3f).toInt64.toUInt64).toInt64).toInt32) &&& (7 : Int32))), (.int ((((q0.toUInt64 >>> ((9 : Int32) &&& 0x3f).toInt64.toUInt64).toInt64).toInt32) &&& (7 : Int32))), (.int ((((q0.toUInt64 >>> ((12 : Int32) &&& 0x3f).toInt64.toUInt64).toInt64).toInt32) &&& (7 : Int32))), (.int ((((q0.toUInt64 >>> ((15 : Int32) &&& 0x3f).toInt64.toUInt64).toInt64).toInt32) &&& (7 : Int32))), (.int ((((q0.toUInt64 >>> ((18 : Int32) &&& 0x3f).toInt64.toUInt64).toInt64).toInt32) &&& (7 : Int32))), (.int ((((q0.toUInt64 >>> ((21 : Int32) &&& 0x3f).toInt64.toUInt64).toInt64).toInt32) &&& (7 : Int32))), (.int ((((q0.toUInt64 >>> ((24 : Int32) &&& 0x3f).toInt64.toUInt64).toInt64).toInt32) &&& (7 : Int32))), (.int (0 : Int32)), (.int (0 : Int32)), (.int (0 : Int32)), (.int (0 : Int32)), (.int (0 : Int32)), (.int (0 : Int32)), (.int (0 : Int32)), (.int (0 : Int32)), (.int (0 : Int32)), (.int (0 : Int32))] (.int (0 : Int32)) := Arv.set Ar77 q77 S77 M77 H77 G77 rfl W79 8 rfl (Nat.le_of_ble_eq_true rfl)
  have Z81 := Nat.le_trans Z75 (Keep.of_wr W79).1
  have N82 := Fr.snoc X79 N76 g_b27
  obtain ⟨cl83, Ar83, q83, S83, M83, H83, G83⟩ := id V79
  have hin84 : ¬ ((9 : Int32) < 0 ∨ cl83.slots.size ≤ ((9 : Int32)).toNatClampNeg) := inb_of S83 ⟨by decide, by decide⟩
  obtain ⟨T85, h85, X85, e85, W85, st85⟩ := stI X79 hx hZ e79 Ar83 (j := (9 : Int32)) hin84 (g := (mkF m 174 #[.val (.long q0), .second, .val (.int p1), .val (.int p2), .val (.int p3), .val (.int p4), .val (.int p5), .val (.int (p1 &&& (7 : Int32))), .val (.int ((1 : Int32) + ((p2 &&& (2147483647 : Int32)) % (19 : Int32)))), .val (.int ((p3 &&& (2147483647 : Int32)) % ((1 : Int32) + ((p2 &&& (2147483647 : Int32)) % (19 : Int32))))), .val (.int (j0_0 p4 p5)), .val (.ref b27), .unset, .unset, .unset, .unset, .unset, .unset] [(.int ((((q0.toUInt64 >>> ((27 : Int32) &&& 0x3f).toInt64.toUInt64).toInt64).toInt32) &&& (7 : Int32))), (.int (9 : Int32)), (.ref b27)])) rfl rfl (hb hby at_174)
  have V85 : Arv Z h85 b27 k27 .int (19 : Int32) [(.int ((q0.toInt32) &&& (7 : Int32))), (.int ((((q0.toUInt64 >>> ((3 : Int32) &&& 0x3f).toInt64.toUInt64).toInt64).toInt32) &&& (7 : Int32))), (.int ((((q0.toUInt64 >>> ((6 : Int32) &&& 0x3f).toInt64.toUInt64).toInt64).toInt32) &&& (7 : Int32))), (.int ((((q0.toUInt64 >>> ((9 : Int32) &&& 0x3f).toInt64.toUInt64).toInt64).toInt32) &&& (7 : Int32))), (.int ((((q0.toUInt64 >>> ((12 : Int32) &&& 0x3f).toInt64.toUInt64).toInt64).toInt32) &&& (7 : Int32))), (.int ((((q0.toUInt64 >>> ((15 : Int32) &&& 0x3f).toInt64.toUInt64).toInt64).toInt32) &&& (7 : Int32))), (.int ((((q0.toUInt64 >>> ((18 : Int32) &&& 0x3f).toInt64.toUInt64).toInt64).toInt32) &&& (7 : Int32))), (.int ((((q0.toUInt64 >>> ((21 : Int32) &&& 0x3f).toInt64.toUInt64).toInt64).toInt32) &&& (7 : Int32))), (.int ((((q0.toUInt64 >>> ((24 : Int32) &&& 0x3f).toInt64.toUInt64).toInt64).toInt32) &&& (7 : Int32))), (.int ((((q0.toUInt64 >>> ((27 : Int32) &&& 0x3f).toInt64.toUInt64).toInt64).toInt32) &&& (7 : Int32))), (.int (0 : Int32)), (.int (0 : Int32)), (.int (0 : Int32)), (.int (0 : Int32)), (.int (0 : Int32)), (.int (0 : Int32)), (.int (0 : Int32)), (.int (0 : Int32)), (.int (0 : Int32))] (.int (0 : Int32)) := Arv.set Ar83 q83 S83 M83 H83 G83 rfl W85 9 rfl (Nat.le_of_ble_eq_true rfl)
  have Z87 := Nat.le_trans Z81 (Keep.of_wr W85).1
  have N88 := Fr.snoc X85 N82 g_b27
  obtain ⟨cl89, Ar89, q89, S89, M89, H89, G89⟩ := id V85
  have hin90 : ¬ ((10 : Int32) < 0 ∨ cl89.slots.size ≤ ((10 : Int32)).toNatClampNeg) := inb_of S89 ⟨by decide, by decide⟩
  obtain ⟨T91, h91, X91, e91, W91, st91⟩ := stI X85 hx hZ e85 Ar89 (j := (10 : Int32)) hin90 (g := (mkF m 187 #[.val (.long q0), .second, .val (.int p1), .val (.int p2), .val (.int p3), .val (.int p4), .val (.int p5), .val (.int (p1 &&& (7 : Int32))), .val (.int ((1 : Int32) + ((p2 &&& (2147483647 : Int32)) % (19 : Int32)))), .val (.int ((p3 &&& (2147483647 : Int32)) % ((1 : Int32) + ((p2 &&& (2147483647 : Int32)) % (19 : Int32))))), .val (.int (j0_0 p4 p5)), .val (.ref b27), .unset, .unset, .unset, .unset, .unset, .unset] [(.int ((((q0.toUInt64 >>> ((30 : Int32) &&& 0x3f).toInt64.toUInt64).toInt64).toInt32) &&& (7 : Int32))), (.int (10 : Int32)), (.ref b27)])) rfl rfl (hb hby at_187)
  have V91 : Arv Z h91 b27 k27 .int (19 : Int32) [(.int ((q0.toInt32) &&& (7 : Int32))), (.int ((((q0.toUInt64 >>> ((3 : Int32) &&& 0x3f).toInt64.toUInt64).toInt64).toInt32) &&& (7 : Int32))), (.int ((((q0.toUInt64 >>> ((6 : Int32) &&& 0x3f).toInt64.toUInt64).toInt64).toInt32) &&& (7 : Int32))), (.int ((((q0.toUInt64 >>> ((9 : Int32) &&& 0x3f).toInt64.toUInt64).toInt64).toInt32) &&& (7 : Int32))), (.int ((((q0.toUInt64 >>> ((12 : Int32) &&& 0x3f).toInt64.toUInt64).toInt64).toInt32) &&& (7 : Int32))), (.int ((((q0.toUInt64 >>> ((15 : Int32) &&& 0x3f).toInt64.toUInt64).toInt64).toInt32) &&& (7 : Int32))), (.int ((((q0.toUInt64 >>> ((18 : Int32) &&& 0x3f).toInt64.toUInt64).toInt64).toInt32) &&& (7 : Int32))), (.int ((((q0.toUInt64 >>> ((21 : Int32) &&& 0x3f).toInt64.toUInt64).toInt64).toInt32) &&& (7 : Int32))), (.int ((((q0.toUInt64 >>> ((24 : Int32) &&& 0x3f).toInt64.toUInt64).toInt64).toInt32) &&& (7 : Int32))), (.int ((((q0.toUInt64 >>> ((27 : Int32) &&& 0x3f).toInt64.toUInt64).toInt64).toInt32) &&& (7 : Int32))), (.int ((((q0.toUInt64 >>> ((30 : Int32) &&& 0x3f).toInt64.toUInt64).toInt64).toInt32) &&& (7 : Int32))), (.int (0 : Int32)), (.int (0 : Int32)), (.int (0 : Int32)), (.int (0 : Int32)), (.int (0 : Int32)), (.int (0 : Int32)), (.int (0 : Int32)), (.int (0 : Int32))] (.int (0 : Int32)) := Arv.set Ar89 q89 S89 M89 H89 G89 rfl W91 10 rfl (Nat.le_of_ble_eq_true rfl)
  have Z93 := Nat.le_trans Z87 (Keep.of_wr W91).1
  have N94 := Fr.snoc X91 N88 g_b27
  obtain ⟨cl95, Ar95, q95, S95, M95, H95, G95⟩ := id V91
  have hin96 : ¬ ((11 : Int32) < 0 ∨ cl95.slots.size ≤ ((11 : Int32)).toNatClampNeg) := inb_of S95 ⟨by decide, by decide⟩
  obtain ⟨T97, h97, X97, e97, W97, st97⟩ := stI X91 hx hZ e91 Ar95 (j := (11 : Int32)) hin96 (g := (mkF m 200 #[.val (.long q0), .second, .val (.int p1), .val (.int p2), .val (.int p3), .val (.int p4), .val (.int p5), .val (.int (p1 &&& (7 : Int32))), .val (.int ((1 : Int32) + ((p2 &&& (2147483647 : Int32)) % (19 : Int32)))), .val (.int ((p3 &&& (2147483647 : Int32)) % ((1 : Int32) + ((p2 &&& (2147483647 : Int32)) % (19 : Int32))))), .val (.int (j0_0 p4 p5)), .val (.ref b27), .unset, .unset, .unset, .unset, .unset, .unset] [(.int ((((q0.toUInt64 >>> ((33 : Int32) &&& 0x3f).toInt64.toUInt64).toInt64).toInt32) &&& (7 : Int32))), (.int (11 : Int32)), (.ref b27)])) rfl rfl (hb hby at_200)
  have V97 : Arv Z h97 b27 k27 .int (19 : Int32) [(.int ((q0.toInt32) &&& (7 : Int32))), (.int ((((q0.toUInt64 >>> ((3 : Int32) &&& 0x3f).toInt64.toUInt64).toInt64).toInt32) &&& (7 : Int32))), (.int ((((q0.toUInt64 >>> ((6 : Int32) &&& 0x3f).toInt64.toUInt64).toInt64).toInt32) &&& (7 : Int32))), (.int ((((q0.toUInt64 >>> ((9 : Int32) &&& 0x3f).toInt64.toUInt64).toInt64).toInt32) &&& (7 : Int32))), (.int ((((q0.toUInt64 >>> ((12 : Int32) &&& 0x3f).toInt64.toUInt64).toInt64).toInt32) &&& (7 : Int32))), (.int ((((q0.toUInt64 >>> ((15 : Int32) &&& 0x3f).toInt64.toUInt64).toInt64).toInt32) &&& (7 : Int32))), (.int ((((q0.toUInt64 >>> ((18 : Int32) &&& 0x3f).toInt64.toUInt64).toInt64).toInt32) &&& (7 : Int32))), (.int ((((q0.toUInt64 >>> ((21 : Int32) &&& 0x3f).toInt64.toUInt64).toInt64).toInt32) &&& (7 : Int32))), (.int ((((q0.toUInt64 >>> ((24 : Int32) &&& 0x3f).toInt64.toUInt64).toInt64).toInt32) &&& (7 : Int32))), (.int ((((q0.toUInt64 >>> ((27 : Int32) &&& 0x3f).toInt64.toUInt64).toInt64).toInt32) &&& (7 : Int32))), (.int ((((q0.toUInt64 >>> ((30 : Int32) &&& 0x3f).toInt64.toUInt64).toInt64).toInt32) &&& (7 : Int32))), (.int ((((q0.toUInt64 >>> ((33 : Int32) &&& 0x3f).toInt64.toUInt64).toInt64).toInt32) &&& (7 : Int32))), (.int (0 : Int32)), (.int (0 : Int32)), (.int (0 : Int32)), (.int (0 : Int32)), (.int (0 : Int32)), (.int (0 : Int32)), (.int (0 : Int32))] (.int (0 : Int32)) := Arv.set Ar95 q95 S95 M95 H95 G95 rfl W97 11 rfl (Nat.le_of_ble_eq_true rfl)
  have Z99 := Nat.le_trans Z93 (Keep.of_wr W97).1
  have N100 := Fr.snoc X97 N94 g_b27
  obtain ⟨cl101, Ar101, q101, S101, M101, H101, G101⟩ := id V97
  have hin102 : ¬ ((12 : Int32) < 0 ∨ cl101.slots.size ≤ ((12 : Int32)).toNatClampNeg) := inb_of S101 ⟨by decide, by decide⟩
  obtain ⟨T103, h103, X103, e103, W103, st103⟩ := stI X97 hx hZ e97 Ar101 (j := (12 : Int32)) hin102 (g := (mkF m 213 #[.val (.long q0), .second, .val (.int p1), .val (.int p2), .val (.int p3), .val (.int p4), .val (.int p5), .val (.int (p1 &&& (7 : Int32))), .val (.int ((1 : Int32) + ((p2 &&& (2147483647 : Int32)) % (19 : Int32)))), .val (.int ((p3 &&& (2147483647 : Int32)) % ((1 : Int32) + ((p2 &&& (2147483647 : Int32)) % (19 : Int32))))), .val (.int (j0_0 p4 p5)), .val (.ref b27), .unset, .unset, .unset, .unset, .unset, .unset] [(.int ((((q0.toUInt64 >>> ((36 : Int32) &&& 0x3f).toInt64.toUInt64).toInt64).toInt32) &&& (7 : Int32))), (.int (12 : Int32)), (.ref b27)])) rfl rfl (hb hby at_213)
  have V103 : Arv Z h103 b27 k27 .int (19 : Int32) [(.int ((q0.toInt32) &&& (7 : Int32))), (.int ((((q0.toUInt64 >>> ((3 : Int32) &&& 0x3f).toInt64.toUInt64).toInt64).toInt32) &&& (7 : Int32))), (.int ((((q0.toUInt64 >>> ((6 : Int32) &&& 0x3f).toInt64.toUInt64).toInt64).toInt32) &&& (7 : Int32))), (.int ((((q0.toUInt64 >>> ((9 : Int32) &&& 0x3f).toInt64.toUInt64).toInt64).toInt32) &&& (7 : Int32))), (.int ((((q0.toUInt64 >>> ((12 : Int32) &&& 0x3f).toInt64.toUInt64).toInt64).toInt32) &&& (7 : Int32))), (.int ((((q0.toUInt64 >>> ((15 : Int32) &&& 0x3f).toInt64.toUInt64).toInt64).toInt32) &&& (7 : Int32))), (.int ((((q0.toUInt64 >>> ((18 : Int32) &&& 0x3f).toInt64.toUInt64).toInt64).toInt32) &&& (7 : Int32))), (.int ((((q0.toUInt64 >>> ((21 : Int32) &&& 0x3f).toInt64.toUInt64).toInt64).toInt32) &&& (7 : Int32))), (.int ((((q0.toUInt64 >>> ((24 : Int32) &&& 0x3f).toInt64.toUInt64).toInt64).toInt32) &&& (7 : Int32))), (.int ((((q0.toUInt64 >>> ((27 : Int32) &&& 0x3f).toInt64.toUInt64).toInt64).toInt32) &&& (7 : Int32))), (.int ((((q0.toUInt64 >>> ((30 : Int32) &&& 0x3f).toInt64.toUInt64).toInt64).toInt32) &&& (7 : Int32))), (.int ((((q0.toUInt64 >>> ((33 : Int32) &&& 0x3f).toInt64.toUInt64).toInt64).toInt32) &&& (7 : Int32))), (.int ((((q0.toUInt64 >>> ((36 : Int32) &&& 0x3f).toInt64.toUInt64).toInt64).toInt32) &&& (7 : Int32))), (.int (0 : Int32)), (.int (0 : Int32)), (.int (0 : Int32)), (.int (0 : Int32)), (.int (0 : Int32)), (.int (0 : Int32))] (.int (0 : Int32)) := Arv.set Ar101 q101 S101 M101 H101 G101 rfl W103 12 rfl (Nat.le_of_ble_eq_true rfl)
  have Z105 := Nat.le_trans Z99 (Keep.of_wr W103).1
  have N106 := Fr.snoc X103 N100 g_b27
  obtain ⟨cl107, Ar107, q107, S107, M107, H107, G107⟩ := id V103
  have hin108 : ¬ ((13 : Int32) < 0 ∨ cl107.slots.size ≤ ((13 : Int32)).toNatClampNeg) := inb_of S107 ⟨by decide, by decide⟩
  obtain ⟨T109, h109, X109, e109, W109, st109⟩ := stI X103 hx hZ e103 Ar107 (j := (13 : Int32)) hin108 (g := (mkF m 226 #[.val (.long q0), .second, .val (.int p1), .val (.int p2), .val (.int p3), .val (.int p4), .val (.int p5), .val (.int (p1 &&& (7 : Int32))), .val (.int ((1 : Int32) + ((p2 &&& (2147483647 : Int32)) % (19 : Int32)))), .val (.int ((p3 &&& (2147483647 : Int32)) % ((1 : Int32) + ((p2 &&& (2147483647 : Int32)) % (19 : Int32))))), .val (.int (j0_0 p4 p5)), .val (.ref b27), .unset, .unset, .unset, .unset, .unset, .unset] [(.int ((((q0.toUInt64 >>> ((39 : Int32) &&& 0x3f).toInt64.toUInt64).toInt64).toInt32) &&& (7 : Int32))), (.int (13 : Int32)), (.ref b27)])) rfl rfl (hb hby at_226)
  have V109 : Arv Z h109 b27 k27 .int (19 : Int32) [(.int ((q0.toInt32) &&& (7 : Int32))), (.int ((((q0.toUInt64 >>> ((3 : Int32) &&& 0x3f).toInt64.toUInt64).toInt64).toInt32) &&& (7 : Int32))), (.int ((((q0.toUInt64 >>> ((6 : Int32) &&& 0x3f).toInt64.toUInt64).toInt64).toInt32) &&& (7 : Int32))), (.int ((((q0.toUInt64 >>> ((9 : Int32) &&& 0x3f).toInt64.toUInt64).toInt64).toInt32) &&& (7 : Int32))), (.int ((((q0.toUInt64 >>> ((12 : Int32) &&& 0x3f).toInt64.toUInt64).toInt64).toInt32) &&& (7 : Int32))), (.int ((((q0.toUInt64 >>> ((15 : Int32) &&& 0x3f).toInt64.toUInt64).toInt64).toInt32) &&& (7 : Int32))), (.int ((((q0.toUInt64 >>> ((18 : Int32) &&& 0x3f).toInt64.toUInt64).toInt64).toInt32) &&& (7 : Int32))), (.int ((((q0.toUInt64 >>> ((21 : Int32) &&& 0x3f).toInt64.toUInt64).toInt64).toInt32) &&& (7 : Int32))), (.int ((((q0.toUInt64 >>> ((24 : Int32) &&& 0x3f).toInt64.toUInt64).toInt64).toInt32) &&& (7 : Int32))), (.int ((((q0.toUInt64 >>> ((27 : Int32) &&& 0x3f).toInt64.toUInt64).toInt64).toInt32) &&& (7 : Int32))), (.int ((((q0.toUInt64 >>> ((30 : Int32) &&& 0x3f).toInt64.toUInt64).toInt64).toInt32) &&& (7 : Int32))), (.int ((((q0.toUInt64 >>> ((33 : Int32) &&& 0x3f).toInt64.toUInt64).toInt64).toInt32) &&& (7 : Int32))), (.int ((((q0.toUInt64 >>> ((36 : Int32) &&& 0x3f).toInt64.toUInt64).toInt64).toInt32) &&& (7 : Int32))), (.int ((((q0.toUInt64 >>> ((39 : Int32) &&& 0x3f).toInt64.toUInt64).toInt64).toInt32) &&& (7 : Int32))), (.int (0 : Int32)), (.int (0 : Int32)), (.int (0 : Int32)), (.int (0 : Int32)), (.int (0 : Int32))] (.int (0 : Int32)) := Arv.set Ar107 q107 S107 M107 H107 G107 rfl W109 13 rfl (Nat.le_of_ble_eq_true rfl)
  have Z111 := Nat.le_trans Z105 (Keep.of_wr W109).1
  have N112 := Fr.snoc X109 N106 g_b27
  obtain ⟨cl113, Ar113, q113, S113, M113, H113, G113⟩ := id V109
  have hin114 : ¬ ((14 : Int32) < 0 ∨ cl113.slots.size ≤ ((14 : Int32)).toNatClampNeg) := inb_of S113 ⟨by decide, by decide⟩
  obtain ⟨T115, h115, X115, e115, W115, st115⟩ := stI X109 hx hZ e109 Ar113 (j := (14 : Int32)) hin114 (g := (mkF m 239 #[.val (.long q0), .second, .val (.int p1), .val (.int p2), .val (.int p3), .val (.int p4), .val (.int p5), .val (.int (p1 &&& (7 : Int32))), .val (.int ((1 : Int32) + ((p2 &&& (2147483647 : Int32)) % (19 : Int32)))), .val (.int ((p3 &&& (2147483647 : Int32)) % ((1 : Int32) + ((p2 &&& (2147483647 : Int32)) % (19 : Int32))))), .val (.int (j0_0 p4 p5)), .val (.ref b27), .unset, .unset, .unset, .unset, .unset, .unset] [(.int ((((q0.toUInt64 >>> ((42 : Int32) &&& 0x3f).toInt64.toUInt64).toInt64).toInt32) &&& (7 : Int32))), (.int (14 : Int32)), (.ref b27)])) rfl rfl (hb hby at_239)
  have V115 : Arv Z h115 b27 k27 .int (19 : Int32) [(.int ((q0.toInt32) &&& (7 : Int32))), (.int ((((q0.toUInt64 >>> ((3 : Int32) &&& 0x3f).toInt64.toUInt64).toInt64).toInt32) &&& (7 : Int32))), (.int ((((q0.toUInt64 >>> ((6 : Int32) &&& 0x3f).toInt64.toUInt64).toInt64).toInt32) &&& (7 : Int32))), (.int ((((q0.toUInt64 >>> ((9 : Int32) &&& 0x3f).toInt64.toUInt64).toInt64).toInt32) &&& (7 : Int32))), (.int ((((q0.toUInt64 >>> ((12 : Int32) &&& 0x3f).toInt64.toUInt64).toInt64).toInt32) &&& (7 : Int32))), (.int ((((q0.toUInt64 >>> ((15 : Int32) &&& 0x3f).toInt64.toUInt64).toInt64).toInt32) &&& (7 : Int32))), (.int ((((q0.toUInt64 >>> ((18 : Int32) &&& 0x3f).toInt64.toUInt64).toInt64).toInt32) &&& (7 : Int32))), (.int ((((q0.toUInt64 >>> ((21 : Int32) &&& 0x3f).toInt64.toUInt64).toInt64).toInt32) &&& (7 : Int32))), (.int ((((q0.toUInt64 >>> ((24 : Int32) &&& 0x3f).toInt64.toUInt64).toInt64).toInt32) &&& (7 : Int32))), (.int ((((q0.toUInt64 >>> ((27 : Int32) &&& 0x3f).toInt64.toUInt64).toInt64).toInt32) &&& (7 : Int32))), (.int ((((q0.toUInt64 >>> ((30 : Int32) &&& 0x3f).toInt64.toUInt64).toInt64).toInt32) &&& (7 : Int32))), (.int ((((q0.toUInt64 >>> ((33 : Int32) &&& 0x3f).toInt64.toUInt64).toInt64).toInt32) &&& (7 : Int32))), (.int ((((q0.toUInt64 >>> ((36 : Int32) &&& 0x3f).toInt64.toUInt64).toInt64).toInt32) &&& (7 : Int32))), (.int ((((q0.toUInt64 >>> ((39 : Int32) &&& 0x3f).toInt64.toUInt64).toInt64).toInt32) &&& (7 : Int32))), (.int ((((q0.toUInt64 >>> ((42 : Int32) &&& 0x3f).toInt64.toUInt64).toInt64).toInt32) &&& (7 : Int32))), (.int (0 : Int32)), (.int (0 : Int32)), (.int (0 : Int32)), (.int (0 : Int32))] (.int (0 : Int32)) := Arv.set Ar113 q113 S113 M113 H113 G113 rfl W115 14 rfl (Nat.le_of_ble_eq_true rfl)
  have Z117 := Nat.le_trans Z111 (Keep.of_wr W115).1
  have N118 := Fr.snoc X115 N112 g_b27
  obtain ⟨cl119, Ar119, q119, S119, M119, H119, G119⟩ := id V115
  have hin120 : ¬ ((15 : Int32) < 0 ∨ cl119.slots.size ≤ ((15 : Int32)).toNatClampNeg) := inb_of S119 ⟨by decide, by decide⟩
  obtain ⟨T121, h121, X121, e121, W121, st121⟩ := stI X115 hx hZ e115 Ar119 (j := (15 : Int32)) hin120 (g := (mkF m 252 #[.val (.long q0), .second, .val (.int p1), .val (.int p2), .val (.int p3), .val (.int p4), .val (.int p5), .val (.int (p1 &&& (7 : Int32))), .val (.int ((1 : Int32) + ((p2 &&& (2147483647 : Int32)) % (19 : Int32)))), .val (.int ((p3 &&& (2147483647 : Int32)) % ((1 : Int32) + ((p2 &&& (2147483647 : Int32)) % (19 : Int32))))), .val (.int (j0_0 p4 p5)), .val (.ref b27), .unset, .unset, .unset, .unset, .unset, .unset] [(.int ((((q0.toUInt64 >>> ((45 : Int32) &&& 0x3f).toInt64.toUInt64).toInt64).toInt32) &&& (7 : Int32))), (.int (15 : Int32)), (.ref b27)])) rfl rfl (hb hby at_252)
  have V121 : Arv Z h121 b27 k27 .int (19 : Int32) [(.int ((q0.toInt32) &&& (7 : Int32))), (.int ((((q0.toUInt64 >>> ((3 : Int32) &&& 0x3f).toInt64.toUInt64).toInt64).toInt32) &&& (7 : Int32))), (.int ((((q0.toUInt64 >>> ((6 : Int32) &&& 0x3f).toInt64.toUInt64).toInt64).toInt32) &&& (7 : Int32))), (.int ((((q0.toUInt64 >>> ((9 : Int32) &&& 0x3f).toInt64.toUInt64).toInt64).toInt32) &&& (7 : Int32))), (.int ((((q0.toUInt64 >>> ((12 : Int32) &&& 0x3f).toInt64.toUInt64).toInt64).toInt32) &&& (7 : Int32))), (.int ((((q0.toUInt64 >>> ((15 : Int32) &&& 0x3f).toInt64.toUInt64).toInt64).toInt32) &&& (7 : Int32))), (.int ((((q0.toUInt64 >>> ((18 : Int32) &&& 0x3f).toInt64.toUInt64).toInt64).toInt32) &&& (7 : Int32))), (.int ((((q0.toUInt64 >>> ((21 : Int32) &&& 0x3f).toInt64.toUInt64).toInt64).toInt32) &&& (7 : Int32))), (.int ((((q0.toUInt64 >>> ((24 : Int32) &&& 0x3f).toInt64.toUInt64).toInt64).toInt32) &&& (7 : Int32))), (.int ((((q0.toUInt64 >>> ((27 : Int32) &&& 0x3f).toInt64.toUInt64).toInt64).toInt32) &&& (7 : Int32))), (.int ((((q0.toUInt64 >>> ((30 : Int32) &&& 0x3f).toInt64.toUInt64).toInt64).toInt32) &&& (7 : Int32))), (.int ((((q0.toUInt64 >>> ((33 : Int32) &&& 0x3f).toInt64.toUInt64).toInt64).toInt32) &&& (7 : Int32))), (.int ((((q0.toUInt64 >>> ((36 : Int32) &&& 0x3f).toInt64.toUInt64).toInt64).toInt32) &&& (7 : Int32))), (.int ((((q0.toUInt64 >>> ((39 : Int32) &&& 0x3f).toInt64.toUInt64).toInt64).toInt32) &&& (7 : Int32))), (.int ((((q0.toUInt64 >>> ((42 : Int32) &&& 0x3f).toInt64.toUInt64).toInt64).toInt32) &&& (7 : Int32))), (.int ((((q0.toUInt64 >>> ((45 : Int32) &&& 0x3f).toInt64.toUInt64).toInt64).toInt32) &&& (7 : Int32))), (.int (0 : Int32)), (.int (0 : Int32)), (.int (0 : Int32))] (.int (0 : Int32)) := Arv.set Ar119 q119 S119 M119 H119 G119 rfl W121 15 rfl (Nat.le_of_ble_eq_true rfl)
  have Z123 := Nat.le_trans Z117 (Keep.of_wr W121).1
  have N124 := Fr.snoc X121 N118 g_b27
  obtain ⟨cl125, Ar125, q125, S125, M125, H125, G125⟩ := id V121
  have hin126 : ¬ ((16 : Int32) < 0 ∨ cl125.slots.size ≤ ((16 : Int32)).toNatClampNeg) := inb_of S125 ⟨by decide, by decide⟩
  obtain ⟨T127, h127, X127, e127, W127, st127⟩ := stI X121 hx hZ e121 Ar125 (j := (16 : Int32)) hin126 (g := (mkF m 265 #[.val (.long q0), .second, .val (.int p1), .val (.int p2), .val (.int p3), .val (.int p4), .val (.int p5), .val (.int (p1 &&& (7 : Int32))), .val (.int ((1 : Int32) + ((p2 &&& (2147483647 : Int32)) % (19 : Int32)))), .val (.int ((p3 &&& (2147483647 : Int32)) % ((1 : Int32) + ((p2 &&& (2147483647 : Int32)) % (19 : Int32))))), .val (.int (j0_0 p4 p5)), .val (.ref b27), .unset, .unset, .unset, .unset, .unset, .unset] [(.int ((((q0.toUInt64 >>> ((48 : Int32) &&& 0x3f).toInt64.toUInt64).toInt64).toInt32) &&& (7 : Int32))), (.int (16 : Int32)), (.ref b27)])) rfl rfl (hb hby at_265)
  have V127 : Arv Z h127 b27 k27 .int (19 : Int32) [(.int ((q0.toInt32) &&& (7 : Int32))), (.int ((((q0.toUInt64 >>> ((3 : Int32) &&& 0x3f).toInt64.toUInt64).toInt64).toInt32) &&& (7 : Int32))), (.int ((((q0.toUInt64 >>> ((6 : Int32) &&& 0x3f).toInt64.toUInt64).toInt64).toInt32) &&& (7 : Int32))), (.int ((((q0.toUInt64 >>> ((9 : Int32) &&& 0x3f).toInt64.toUInt64).toInt64).toInt32) &&& (7 : Int32))), (.int ((((q0.toUInt64 >>> ((12 : Int32) &&& 0x3f).toInt64.toUInt64).toInt64).toInt32) &&& (7 : Int32))), (.int ((((q0.toUInt64 >>> ((15 : Int32) &&& 0x3f).toInt64.toUInt64).toInt64).toInt32) &&& (7 : Int32))), (.int ((((q0.toUInt64 >>> ((18 : Int32) &&& 0x3f).toInt64.toUInt64).toInt64).toInt32) &&& (7 : Int32))), (.int ((((q0.toUInt64 >>> ((21 : Int32) &&& 0x3f).toInt64.toUInt64).toInt64).toInt32) &&& (7 : Int32))), (.int ((((q0.toUInt64 >>> ((24 : Int32) &&& 0x3f).toInt64.toUInt64).toInt64).toInt32) &&& (7 : Int32))), (.int ((((q0.toUInt64 >>> ((27 : Int32) &&& 0x3f).toInt64.toUInt64).toInt64).toInt32) &&& (7 : Int32))), (.int ((((q0.toUInt64 >>> ((30 : Int32) &&& 0x3f).toInt64.toUInt64).toInt64).toInt32) &&& (7 : Int32))), (.int ((((q0.toUInt64 >>> ((33 : Int32) &&& 0x3f).toInt64.toUInt64).toInt64).toInt32) &&& (7 : Int32))), (.int ((((q0.toUInt64 >>> ((36 : Int32) &&& 0x3f).toInt64.toUInt64).toInt64).toInt32) &&& (7 : Int32))), (.int ((((q0.toUInt64 >>> ((39 : Int32) &&& 0x3f).toInt64.toUInt64).toInt64).toInt32) &&& (7 : Int32))), (.int ((((q0.toUInt64 >>> ((42 : Int32) &&& 0x3f).toInt64.toUInt64).toInt64).toInt32) &&& (7 : Int32))), (.int ((((q0.toUInt64 >>> ((45 : Int32) &&& 0x3f).toInt64.toUInt64).toInt64).toInt32) &&& (7 : Int32))), (.int ((((q0.toUInt64 >>> ((48 : Int32) &&& 0x3f).toInt64.toUInt64).toInt64).toInt32) &&& (7 : Int32))), (.int (0 : Int32)), (.int (0 : Int32))] (.int (0 : Int32)) := Arv.set Ar125 q125 S125 M125 H125 G125 rfl W127 16 rfl (Nat.le_of_ble_eq_true rfl)
  have Z129 := Nat.le_trans Z123 (Keep.of_wr W127).1
  have N130 := Fr.snoc X127 N124 g_b27
  obtain ⟨cl131, Ar131, q131, S131, M131, H131, G131⟩ := id V127
  have hin132 : ¬ ((17 : Int32) < 0 ∨ cl131.slots.size ≤ ((17 : Int32)).toNatClampNeg) := inb_of S131 ⟨by decide, by decide⟩
  obtain ⟨T133, h133, X133, e133, W133, st133⟩ := stI X127 hx hZ e127 Ar131 (j := (17 : Int32)) hin132 (g := (mkF m 278 #[.val (.long q0), .second, .val (.int p1), .val (.int p2), .val (.int p3), .val (.int p4), .val (.int p5), .val (.int (p1 &&& (7 : Int32))), .val (.int ((1 : Int32) + ((p2 &&& (2147483647 : Int32)) % (19 : Int32)))), .val (.int ((p3 &&& (2147483647 : Int32)) % ((1 : Int32) + ((p2 &&& (2147483647 : Int32)) % (19 : Int32))))), .val (.int (j0_0 p4 p5)), .val (.ref b27), .unset, .unset, .unset, .unset, .unset, .unset] [(.int ((((q0.toUInt64 >>> ((51 : Int32) &&& 0x3f).toInt64.toUInt64).toInt64).toInt32) &&& (7 : Int32))), (.int (17 : Int32)), (.ref b27)])) rfl rfl (hb hby at_278)
  have V133 : Arv Z h133 b27 k27 .int (19 : Int32) [(.int ((q0.toInt32) &&& (7 : Int32))), (.int ((((q0.toUInt64 >>> ((3 : Int32) &&& 0x3f).toInt64.toUInt64).toInt64).toInt32) &&& (7 : Int32))), (.int ((((q0.toUInt64 >>> ((6 : Int32) &&& 0x3f).toInt64.toUInt64).toInt64).toInt32) &&& (7 : Int32))), (.int ((((q0.toUInt64 >>> ((9 : Int32) &&& 0x3f).toInt64.toUInt64).toInt64).toInt32) &&& (7 : Int32))), (.int ((((q0.toUInt64 >>> ((12 : Int32) &&& 0x3f).toInt64.toUInt64).toInt64).toInt32) &&& (7 : Int32))), (.int ((((q0.toUInt64 >>> ((15 : Int32) &&& 0x3f).toInt64.toUInt64).toInt64).toInt32) &&& (7 : Int32))), (.int ((((q0.toUInt64 >>> ((18 : Int32) &&& 0x3f).toInt64.toUInt64).toInt64).toInt32) &&& (7 : Int32))), (.int ((((q0.toUInt64 >>> ((21 : Int32) &&& 0x3f).toInt64.toUInt64).toInt64).toInt32) &&& (7 : Int32))), (.int ((((q0.toUInt64 >>> ((24 : Int32) &&& 0x3f).toInt64.toUInt64).toInt64).toInt32) &&& (7 : Int32))), (.int ((((q0.toUInt64 >>> ((27 : Int32) &&& 0x3f).toInt64.toUInt64).toInt64).toInt32) &&& (7 : Int32))), (.int ((((q0.toUInt64 >>> ((30 : Int32) &&& 0x3f).toInt64.toUInt64).toInt64).toInt32) &&& (7 : Int32))), (.int ((((q0.toUInt64 >>> ((33 : Int32) &&& 0x3f).toInt64.toUInt64).toInt64).toInt32) &&& (7 : Int32))), (.int ((((q0.toUInt64 >>> ((36 : Int32) &&& 0x3f).toInt64.toUInt64).toInt64).toInt32) &&& (7 : Int32))), (.int ((((q0.toUInt64 >>> ((39 : Int32) &&& 0x3f).toInt64.toUInt64).toInt64).toInt32) &&& (7 : Int32))), (.int ((((q0.toUInt64 >>> ((42 : Int32) &&& 0x3f).toInt64.toUInt64).toInt64).toInt32) &&& (7 : Int32))), (.int ((((q0.toUInt64 >>> ((45 : Int32) &&& 0x3f).toInt64.toUInt64).toInt64).toInt32) &&& (7 : Int32))), (.int ((((q0.toUInt64 >>> ((48 : Int32) &&& 0x3f).toInt64.toUInt64).toInt64).toInt32) &&& (7 : Int32))), (.int ((((q0.toUInt64 >>> ((51 : Int32) &&& 0x3f).toInt64.toUInt64).toInt64).toInt32) &&& (7 : Int32))), (.int (0 : Int32))] (.int (0 : Int32)) := Arv.set Ar131 q131 S131 M131 H131 G131 rfl W133 17 rfl (Nat.le_of_ble_eq_true rfl)
  have Z135 := Nat.le_trans Z129 (Keep.of_wr W133).1
  have N136 := Fr.snoc X133 N130 g_b27
  obtain ⟨cl137, Ar137, q137, S137, M137, H137, G137⟩ := id V133
  have hin138 : ¬ ((18 : Int32) < 0 ∨ cl137.slots.size ≤ ((18 : Int32)).toNatClampNeg) := inb_of S137 ⟨by decide, by decide⟩
  obtain ⟨T139, h139, X139, e139, W139, st139⟩ := stI X133 hx hZ e133 Ar137 (j := (18 : Int32)) hin138 (g := (mkF m 291 #[.val (.long q0), .second, .val (.int p1), .val (.int p2), .val (.int p3), .val (.int p4), .val (.int p5), .val (.int (p1 &&& (7 : Int32))), .val (.int ((1 : Int32) + ((p2 &&& (2147483647 : Int32)) % (19 : Int32)))), .val (.int ((p3 &&& (2147483647 : Int32)) % ((1 : Int32) + ((p2 &&& (2147483647 : Int32)) % (19 : Int32))))), .val (.int (j0_0 p4 p5)), .val (.ref b27), .unset, .unset, .unset, .unset, .unset, .unset] [(.int ((((q0.toUInt64 >>> ((54 : Int32) &&& 0x3f).toInt64.toUInt64).toInt64).toInt32) &&& (7 : Int32))), (.int (18 : Int32)), (.ref b27)])) rfl rfl (hb hby at_291)
  have V139 : Arv Z h139 b27 k27 .int (19 : Int32) [(.int ((q0.toInt32) &&& (7 : Int32))), (.int ((((q0.toUInt64 >>> ((3 : Int32) &&& 0x3f).toInt64.toUInt64).toInt64).toInt32) &&& (7 : Int32))), (.int ((((q0.toUInt64 >>> ((6 : Int32) &&& 0x3f).toInt64.toUInt64).toInt64).toInt32) &&& (7 : Int32))), (.int ((((q0.toUInt64 >>> ((9 : Int32) &&& 0x3f).toInt64.toUInt64).toInt64).toInt32) &&& (7 : Int32))), (.int ((((q0.toUInt64 >>> ((12 : Int32) &&& 0x3f).toInt64.toUInt64).toInt64).toInt32) &&& (7 : Int32))), (.int ((((q0.toUInt64 >>> ((15 : Int32) &&& 0x3f).toInt64.toUInt64).toInt64).toInt32) &&& (7 : Int32))), (.int ((((q0.toUInt64 >>> ((18 : Int32) &&& 0x3f).toInt64.toUInt64).toInt64).toInt32) &&& (7 : Int32))), (.int ((((q0.toUInt64 >>> ((21 : Int32) &&& 0x3f).toInt64.toUInt64).toInt64).toInt32) &&& (7 : Int32))), (.int ((((q0.toUInt64 >>> ((24 : Int32) &&& 0x3f).toInt64.toUInt64).toInt64).toInt32) &&& (7 : Int32))), (.int ((((q0.toUInt64 >>> ((27 : Int32) &&& 0x3f).toInt64.toUInt64).toInt64).toInt32) &&& (7 : Int32))), (.int ((((q0.toUInt64 >>> ((30 : Int32) &&& 0x3f).toInt64.toUInt64).toInt64).toInt32) &&& (7 : Int32))), (.int ((((q0.toUInt64 >>> ((33 : Int32) &&& 0x3f).toInt64.toUInt64).toInt64).toInt32) &&& (7 : Int32))), (.int ((((q0.toUInt64 >>> ((36 : Int32) &&& 0x3f).toInt64.toUInt64).toInt64).toInt32) &&& (7 : Int32))), (.int ((((q0.toUInt64 >>> ((39 : Int32) &&& 0x3f).toInt64.toUInt64).toInt64).toInt32) &&& (7 : Int32))), (.int ((((q0.toUInt64 >>> ((42 : Int32) &&& 0x3f).toInt64.toUInt64).toInt64).toInt32) &&& (7 : Int32))), (.int ((((q0.toUInt64 >>> ((45 : Int32) &&& 0x3f).toInt64.toUInt64).toInt64).toInt32) &&& (7 : Int32))), (.int ((((q0.toUInt64 >>> ((48 : Int32) &&& 0x3f).toInt64.toUInt64).toInt64).toInt32) &&& (7 : Int32))), (.int ((((q0.toUInt64 >>> ((51 : Int32) &&& 0x3f).toInt64.toUInt64).toInt64).toInt32) &&& (7 : Int32))), (.int ((((q0.toUInt64 >>> ((54 : Int32) &&& 0x3f).toInt64.toUInt64).toInt64).toInt32) &&& (7 : Int32)))] (.int (0 : Int32)) := Arv.set Ar137 q137 S137 M137 H137 G137 rfl W139 18 rfl (Nat.le_of_ble_eq_true rfl)
  have Z141 := Nat.le_trans Z135 (Keep.of_wr W139).1
  have N142 := Fr.snoc X139 N136 g_b27
  have Vx143 : Arv Z h139 b27 k27 .int (19 : Int32) ((own_xs q0).map Value.int) (.int (0 : Int32)) := V139
  obtain ⟨_, _, ⟨T144, L144, k144, n144⟩, -, X144, ⟨Lc144, hQ144, l144, y144, z144⟩, st144⟩ := Jvm.LawKit.callS X139 hx (y := (⟨"com/example/dedlock/dedlock/csp/StateTable", "key", "(I[II)J"⟩ : MethodName)) hown (mvT hZ (hw _ (List.mem_of_getElem? (i := 2) rfl))) (mvT hZ (hw _ (List.mem_of_getElem? (i := 3) rfl))) (mvT hZ (hw _ (List.mem_of_getElem? (i := 4) rfl))) (mvT hZ (hw _ (List.mem_of_getElem? (i := 5) rfl))) (by decide) (backOf (W := 0) (rm1 l Z aw hw [] ((p1 &&& (7 : Int32))) b27 (((1 : Int32) + ((p2 &&& (2147483647 : Int32)) % (19 : Int32)))) ((own_xs q0)) k27 h139 n0 Z141 Vx143 (own_n0 p2) (own_n19 p2)) hZ (hw _ (List.mem_of_getElem? (i := 5) rfl)) (hw _ (List.mem_of_getElem? (i := 4) rfl)) (by decide) (by decide)) (g := (mkF m 298 #[.val (.long q0), .second, .val (.int p1), .val (.int p2), .val (.int p3), .val (.int p4), .val (.int p5), .val (.int (p1 &&& (7 : Int32))), .val (.int ((1 : Int32) + ((p2 &&& (2147483647 : Int32)) % (19 : Int32)))), .val (.int ((p3 &&& (2147483647 : Int32)) % ((1 : Int32) + ((p2 &&& (2147483647 : Int32)) % (19 : Int32))))), .val (.int (j0_0 p4 p5)), .val (.ref b27), .unset, .unset, .unset, .unset, .unset, .unset] [(.int ((1 : Int32) + ((p2 &&& (2147483647 : Int32)) % (19 : Int32)))), (.ref b27), (.int (p1 &&& (7 : Int32)))])) rfl (by rw [hml]; rfl) (argsL := [(.int (p1 &&& (7 : Int32))), (.ref b27), (.int ((1 : Int32) + ((p2 &&& (2147483647 : Int32)) % (19 : Int32))))]) (rest := []) (lenOf pd_1 rfl) rfl (by show 2 * 0 + _ ≤ _; exact Nat.le_of_eq rfl) (hb hby at_298) (fun _ _ => ⟨rfl, e139, (by decide : 1 + 0 ≤ _), (by decide : 19 + 0 ≤ _)⟩)
  dsimp only [Pt.U, Pt.locs, Pt.cells, Pt.slots] at X144 l144 y144 z144 st144 hQ144
  replace l144 := l144.symm
  subst l144 y144 z144
  obtain ⟨rfl, N144q, e144⟩ := hQ144
  have N144 := Fr.app N142 N144q
  have pre146 := fun (t : State) (k : Steps p.tables e below (T144.setTop (mkF m 309 #[.val (.long q0), .second, .val (.int p1), .val (.int p2), .val (.int p3), .val (.int p4), .val (.int p5), .val (.int (p1 &&& (7 : Int32))), .val (.int ((1 : Int32) + ((p2 &&& (2147483647 : Int32)) % (19 : Int32)))), .val (.int ((p3 &&& (2147483647 : Int32)) % ((1 : Int32) + ((p2 &&& (2147483647 : Int32)) % (19 : Int32))))), .val (.int (j0_0 p4 p5)), .val (.ref b27), .val (.long (v1 (p1 &&& (7 : Int32)) ((1 : Int32) + ((p2 &&& (2147483647 : Int32)) % (19 : Int32))) (own_xs q0))), .second, .unset, .unset, .unset, .unset] [(.int (lcmpW (v1 (p1 &&& (7 : Int32)) ((1 : Int32) + ((p2 &&& (2147483647 : Int32)) % (19 : Int32))) (own_xs q0)) (-1 : Int64)))])) t) => pre23 t (by
    show Steps p.tables e below (s₁.setTop (mkF m 47 #[.val (.long q0), .second, .val (.int p1), .val (.int p2), .val (.int p3), .val (.int p4), .val (.int p5), .val (.int (p1 &&& (7 : Int32))), .val (.int ((1 : Int32) + ((p2 &&& (2147483647 : Int32)) % (19 : Int32)))), .val (.int ((p3 &&& (2147483647 : Int32)) % ((1 : Int32) + ((p2 &&& (2147483647 : Int32)) % (19 : Int32))))), .unset, .unset, .unset, .unset, .unset, .unset, .unset, .unset] [(.int (j0_0 p4 p5))])) _
    refine XS.istore X0.here hx rfl (hb hby at_47) rfl (l' := #[.val (.long q0), .second, .val (.int p1), .val (.int p2), .val (.int p3), .val (.int p4), .val (.int p5), .val (.int (p1 &&& (7 : Int32))), .val (.int ((1 : Int32) + ((p2 &&& (2147483647 : Int32)) % (19 : Int32)))), .val (.int ((p3 &&& (2147483647 : Int32)) % ((1 : Int32) + ((p2 &&& (2147483647 : Int32)) % (19 : Int32))))), .val (.int (j0_0 p4 p5)), .unset, .unset, .unset, .unset, .unset, .unset, .unset]) rfl ?_
    show Steps p.tables e below (s₁.setTop (mkF m 49 #[.val (.long q0), .second, .val (.int p1), .val (.int p2), .val (.int p3), .val (.int p4), .val (.int p5), .val (.int (p1 &&& (7 : Int32))), .val (.int ((1 : Int32) + ((p2 &&& (2147483647 : Int32)) % (19 : Int32)))), .val (.int ((p3 &&& (2147483647 : Int32)) % ((1 : Int32) + ((p2 &&& (2147483647 : Int32)) % (19 : Int32))))), .val (.int (j0_0 p4 p5)), .unset, .unset, .unset, .unset, .unset, .unset, .unset] [])) _
    refine XS.bipush X0.here hx rfl (hb hby at_49) ?_
    show Steps p.tables e below (s₁.setTop (mkF m 51 #[.val (.long q0), .second, .val (.int p1), .val (.int p2), .val (.int p3), .val (.int p4), .val (.int p5), .val (.int (p1 &&& (7 : Int32))), .val (.int ((1 : Int32) + ((p2 &&& (2147483647 : Int32)) % (19 : Int32)))), .val (.int ((p3 &&& (2147483647 : Int32)) % ((1 : Int32) + ((p2 &&& (2147483647 : Int32)) % (19 : Int32))))), .val (.int (j0_0 p4 p5)), .unset, .unset, .unset, .unset, .unset, .unset, .unset] [(.int (19 : Int32))])) _
    refine st27 _ ?_
    show Steps p.tables e below (T27.setTop (mkF m 53 #[.val (.long q0), .second, .val (.int p1), .val (.int p2), .val (.int p3), .val (.int p4), .val (.int p5), .val (.int (p1 &&& (7 : Int32))), .val (.int ((1 : Int32) + ((p2 &&& (2147483647 : Int32)) % (19 : Int32)))), .val (.int ((p3 &&& (2147483647 : Int32)) % ((1 : Int32) + ((p2 &&& (2147483647 : Int32)) % (19 : Int32))))), .val (.int (j0_0 p4 p5)), .unset, .unset, .unset, .unset, .unset, .unset, .unset] [(.ref b27)])) _
    refine XS.astore X27.here hx rfl (hb hby at_53) rfl rfl (l' := #[.val (.long q0), .second, .val (.int p1), .val (.int p2), .val (.int p3), .val (.int p4), .val (.int p5), .val (.int (p1 &&& (7 : Int32))), .val (.int ((1 : Int32) + ((p2 &&& (2147483647 : Int32)) % (19 : Int32)))), .val (.int ((p3 &&& (2147483647 : Int32)) % ((1 : Int32) + ((p2 &&& (2147483647 : Int32)) % (19 : Int32))))), .val (.int (j0_0 p4 p5)), .val (.ref b27), .unset, .unset, .unset, .unset, .unset, .unset]) rfl ?_
    show Steps p.tables e below (T27.setTop (mkF m 55 #[.val (.long q0), .second, .val (.int p1), .val (.int p2), .val (.int p3), .val (.int p4), .val (.int p5), .val (.int (p1 &&& (7 : Int32))), .val (.int ((1 : Int32) + ((p2 &&& (2147483647 : Int32)) % (19 : Int32)))), .val (.int ((p3 &&& (2147483647 : Int32)) % ((1 : Int32) + ((p2 &&& (2147483647 : Int32)) % (19 : Int32))))), .val (.int (j0_0 p4 p5)), .val (.ref b27), .unset, .unset, .unset, .unset, .unset, .unset] [])) _
    refine XS.aload X27.here hx rfl (hb hby at_55) rfl rfl ?_
    show Steps p.tables e below (T27.setTop (mkF m 57 #[.val (.long q0), .second, .val (.int p1), .val (.int p2), .val (.int p3), .val (.int p4), .val (.int p5), .val (.int (p1 &&& (7 : Int32))), .val (.int ((1 : Int32) + ((p2 &&& (2147483647 : Int32)) % (19 : Int32)))), .val (.int ((p3 &&& (2147483647 : Int32)) % ((1 : Int32) + ((p2 &&& (2147483647 : Int32)) % (19 : Int32))))), .val (.int (j0_0 p4 p5)), .val (.ref b27), .unset, .unset, .unset, .unset, .unset, .unset] [(.ref b27)])) _
    refine XS.iconst X27.here hx rfl (hb hby at_57) ?_
    show Steps p.tables e below (T27.setTop (mkF m 58 #[.val (.long q0), .second, .val (.int p1), .val (.int p2), .val (.int p3), .val (.int p4), .val (.int p5), .val (.int (p1 &&& (7 : Int32))), .val (.int ((1 : Int32) + ((p2 &&& (2147483647 : Int32)) % (19 : Int32)))), .val (.int ((p3 &&& (2147483647 : Int32)) % ((1 : Int32) + ((p2 &&& (2147483647 : Int32)) % (19 : Int32))))), .val (.int (j0_0 p4 p5)), .val (.ref b27), .unset, .unset, .unset, .unset, .unset, .unset] [(.int (0 : Int32)), (.ref b27)])) _
    refine XS.lloadN X27.here hx rfl (hb hby at_58) rfl ?_
    show Steps p.tables e below (T27.setTop (mkF m 59 #[.val (.long q0), .second, .val (.int p1), .val (.int p2), .val (.int p3), .val (.int p4), .val (.int p5), .val (.int (p1 &&& (7 : Int32))), .val (.int ((1 : Int32) + ((p2 &&& (2147483647 : Int32)) % (19 : Int32)))), .val (.int ((p3 &&& (2147483647 : Int32)) % ((1 : Int32) + ((p2 &&& (2147483647 : Int32)) % (19 : Int32))))), .val (.int (j0_0 p4 p5)), .val (.ref b27), .unset, .unset, .unset, .unset, .unset, .unset] [(.long q0), (.int (0 : Int32)), (.ref b27)])) _
    refine XS.l2i X27.here hx rfl (hb hby at_59) rfl ?_
    show Steps p.tables e below (T27.setTop (mkF m 60 #[.val (.long q0), .second, .val (.int p1), .val (.int p2), .val (.int p3), .val (.int p4), .val (.int p5), .val (.int (p1 &&& (7 : Int32))), .val (.int ((1 : Int32) + ((p2 &&& (2147483647 : Int32)) % (19 : Int32)))), .val (.int ((p3 &&& (2147483647 : Int32)) % ((1 : Int32) + ((p2 &&& (2147483647 : Int32)) % (19 : Int32))))), .val (.int (j0_0 p4 p5)), .val (.ref b27), .unset, .unset, .unset, .unset, .unset, .unset] [(.int (q0.toInt32)), (.int (0 : Int32)), (.ref b27)])) _
    refine XS.bipush X27.here hx rfl (hb hby at_60) ?_
    show Steps p.tables e below (T27.setTop (mkF m 62 #[.val (.long q0), .second, .val (.int p1), .val (.int p2), .val (.int p3), .val (.int p4), .val (.int p5), .val (.int (p1 &&& (7 : Int32))), .val (.int ((1 : Int32) + ((p2 &&& (2147483647 : Int32)) % (19 : Int32)))), .val (.int ((p3 &&& (2147483647 : Int32)) % ((1 : Int32) + ((p2 &&& (2147483647 : Int32)) % (19 : Int32))))), .val (.int (j0_0 p4 p5)), .val (.ref b27), .unset, .unset, .unset, .unset, .unset, .unset] [(.int (7 : Int32)), (.int (q0.toInt32)), (.int (0 : Int32)), (.ref b27)])) _
    refine XS.iand X27.here hx rfl (hb hby at_62) rfl ?_
    show Steps p.tables e below (T27.setTop (mkF m 63 #[.val (.long q0), .second, .val (.int p1), .val (.int p2), .val (.int p3), .val (.int p4), .val (.int p5), .val (.int (p1 &&& (7 : Int32))), .val (.int ((1 : Int32) + ((p2 &&& (2147483647 : Int32)) % (19 : Int32)))), .val (.int ((p3 &&& (2147483647 : Int32)) % ((1 : Int32) + ((p2 &&& (2147483647 : Int32)) % (19 : Int32))))), .val (.int (j0_0 p4 p5)), .val (.ref b27), .unset, .unset, .unset, .unset, .unset, .unset] [(.int ((q0.toInt32) &&& (7 : Int32))), (.int (0 : Int32)), (.ref b27)])) _
    refine st31 _ ?_
    show Steps p.tables e below (T31.setTop (mkF m 64 #[.val (.long q0), .second, .val (.int p1), .val (.int p2), .val (.int p3), .val (.int p4), .val (.int p5), .val (.int (p1 &&& (7 : Int32))), .val (.int ((1 : Int32) + ((p2 &&& (2147483647 : Int32)) % (19 : Int32)))), .val (.int ((p3 &&& (2147483647 : Int32)) % ((1 : Int32) + ((p2 &&& (2147483647 : Int32)) % (19 : Int32))))), .val (.int (j0_0 p4 p5)), .val (.ref b27), .unset, .unset, .unset, .unset, .unset, .unset] [])) _
    refine XS.aload X31.here hx rfl (hb hby at_64) rfl rfl ?_
    show Steps p.tables e below (T31.setTop (mkF m 66 #[.val (.long q0), .second, .val (.int p1), .val (.int p2), .val (.int p3), .val (.int p4), .val (.int p5), .val (.int (p1 &&& (7 : Int32))), .val (.int ((1 : Int32) + ((p2 &&& (2147483647 : Int32)) % (19 : Int32)))), .val (.int ((p3 &&& (2147483647 : Int32)) % ((1 : Int32) + ((p2 &&& (2147483647 : Int32)) % (19 : Int32))))), .val (.int (j0_0 p4 p5)), .val (.ref b27), .unset, .unset, .unset, .unset, .unset, .unset] [(.ref b27)])) _
    refine XS.iconst X31.here hx rfl (hb hby at_66) ?_
    show Steps p.tables e below (T31.setTop (mkF m 67 #[.val (.long q0), .second, .val (.int p1), .val (.int p2), .val (.int p3), .val (.int p4), .val (.int p5), .val (.int (p1 &&& (7 : Int32))), .val (.int ((1 : Int32) + ((p2 &&& (2147483647 : Int32)) % (19 : Int32)))), .val (.int ((p3 &&& (2147483647 : Int32)) % ((1 : Int32) + ((p2 &&& (2147483647 : Int32)) % (19 : Int32))))), .val (.int (j0_0 p4 p5)), .val (.ref b27), .unset, .unset, .unset, .unset, .unset, .unset] [(.int (1 : Int32)), (.ref b27)])) _
    refine XS.lloadN X31.here hx rfl (hb hby at_67) rfl ?_
    show Steps p.tables e below (T31.setTop (mkF m 68 #[.val (.long q0), .second, .val (.int p1), .val (.int p2), .val (.int p3), .val (.int p4), .val (.int p5), .val (.int (p1 &&& (7 : Int32))), .val (.int ((1 : Int32) + ((p2 &&& (2147483647 : Int32)) % (19 : Int32)))), .val (.int ((p3 &&& (2147483647 : Int32)) % ((1 : Int32) + ((p2 &&& (2147483647 : Int32)) % (19 : Int32))))), .val (.int (j0_0 p4 p5)), .val (.ref b27), .unset, .unset, .unset, .unset, .unset, .unset] [(.long q0), (.int (1 : Int32)), (.ref b27)])) _
    refine XS.iconst X31.here hx rfl (hb hby at_68) ?_
    show Steps p.tables e below (T31.setTop (mkF m 69 #[.val (.long q0), .second, .val (.int p1), .val (.int p2), .val (.int p3), .val (.int p4), .val (.int p5), .val (.int (p1 &&& (7 : Int32))), .val (.int ((1 : Int32) + ((p2 &&& (2147483647 : Int32)) % (19 : Int32)))), .val (.int ((p3 &&& (2147483647 : Int32)) % ((1 : Int32) + ((p2 &&& (2147483647 : Int32)) % (19 : Int32))))), .val (.int (j0_0 p4 p5)), .val (.ref b27), .unset, .unset, .unset, .unset, .unset, .unset] [(.int (3 : Int32)), (.long q0), (.int (1 : Int32)), (.ref b27)])) _
    refine XS.lushr X31.here hx rfl (hb hby at_69) rfl ?_
    show Steps p.tables e below (T31.setTop (mkF m 70 #[.val (.long q0), .second, .val (.int p1), .val (.int p2), .val (.int p3), .val (.int p4), .val (.int p5), .val (.int (p1 &&& (7 : Int32))), .val (.int ((1 : Int32) + ((p2 &&& (2147483647 : Int32)) % (19 : Int32)))), .val (.int ((p3 &&& (2147483647 : Int32)) % ((1 : Int32) + ((p2 &&& (2147483647 : Int32)) % (19 : Int32))))), .val (.int (j0_0 p4 p5)), .val (.ref b27), .unset, .unset, .unset, .unset, .unset, .unset] [(.long ((q0.toUInt64 >>> ((3 : Int32) &&& 0x3f).toInt64.toUInt64).toInt64)), (.int (1 : Int32)), (.ref b27)])) _
    refine XS.l2i X31.here hx rfl (hb hby at_70) rfl ?_
    show Steps p.tables e below (T31.setTop (mkF m 71 #[.val (.long q0), .second, .val (.int p1), .val (.int p2), .val (.int p3), .val (.int p4), .val (.int p5), .val (.int (p1 &&& (7 : Int32))), .val (.int ((1 : Int32) + ((p2 &&& (2147483647 : Int32)) % (19 : Int32)))), .val (.int ((p3 &&& (2147483647 : Int32)) % ((1 : Int32) + ((p2 &&& (2147483647 : Int32)) % (19 : Int32))))), .val (.int (j0_0 p4 p5)), .val (.ref b27), .unset, .unset, .unset, .unset, .unset, .unset] [(.int (((q0.toUInt64 >>> ((3 : Int32) &&& 0x3f).toInt64.toUInt64).toInt64).toInt32)), (.int (1 : Int32)), (.ref b27)])) _
    refine XS.bipush X31.here hx rfl (hb hby at_71) ?_
    show Steps p.tables e below (T31.setTop (mkF m 73 #[.val (.long q0), .second, .val (.int p1), .val (.int p2), .val (.int p3), .val (.int p4), .val (.int p5), .val (.int (p1 &&& (7 : Int32))), .val (.int ((1 : Int32) + ((p2 &&& (2147483647 : Int32)) % (19 : Int32)))), .val (.int ((p3 &&& (2147483647 : Int32)) % ((1 : Int32) + ((p2 &&& (2147483647 : Int32)) % (19 : Int32))))), .val (.int (j0_0 p4 p5)), .val (.ref b27), .unset, .unset, .unset, .unset, .unset, .unset] [(.int (7 : Int32)), (.int (((q0.toUInt64 >>> ((3 : Int32) &&& 0x3f).toInt64.toUInt64).toInt64).toInt32)), (.int (1 : Int32)), (.ref b27)])) _
    refine XS.iand X31.here hx rfl (hb hby at_73) rfl ?_
    show Steps p.tables e below (T31.setTop (mkF m 74 #[.val (.long q0), .second, .val (.int p1), .val (.int p2), .val (.int p3), .val (.int p4), .val (.int p5), .val (.int (p1 &&& (7 : Int32))), .val (.int ((1 : Int32) + ((p2 &&& (2147483647 : Int32)) % (19 : Int32)))), .val (.int ((p3 &&& (2147483647 : Int32)) % ((1 : Int32) + ((p2 &&& (2147483647 : Int32)) % (19 : Int32))))), .val (.int (j0_0 p4 p5)), .val (.ref b27), .unset, .unset, .unset, .unset, .unset, .unset] [(.int ((((q0.toUInt64 >>> ((3 : Int32) &&& 0x3f).toInt64.toUInt64).toInt64).toInt32) &&& (7 : Int32))), (.int (1 : Int32)), (.ref b27)])) _
    refine st37 _ ?_
    show Steps p.tables e below (T37.setTop (mkF m 75 #[.val (.long q0), .second, .val (.int p1), .val (.int p2), .val (.int p3), .val (.int p4), .val (.int p5), .val (.int (p1 &&& (7 : Int32))), .val (.int ((1 : Int32) + ((p2 &&& (2147483647 : Int32)) % (19 : Int32)))), .val (.int ((p3 &&& (2147483647 : Int32)) % ((1 : Int32) + ((p2 &&& (2147483647 : Int32)) % (19 : Int32))))), .val (.int (j0_0 p4 p5)), .val (.ref b27), .unset, .unset, .unset, .unset, .unset, .unset] [])) _
    refine XS.aload X37.here hx rfl (hb hby at_75) rfl rfl ?_
    show Steps p.tables e below (T37.setTop (mkF m 77 #[.val (.long q0), .second, .val (.int p1), .val (.int p2), .val (.int p3), .val (.int p4), .val (.int p5), .val (.int (p1 &&& (7 : Int32))), .val (.int ((1 : Int32) + ((p2 &&& (2147483647 : Int32)) % (19 : Int32)))), .val (.int ((p3 &&& (2147483647 : Int32)) % ((1 : Int32) + ((p2 &&& (2147483647 : Int32)) % (19 : Int32))))), .val (.int (j0_0 p4 p5)), .val (.ref b27), .unset, .unset, .unset, .unset, .unset, .unset] [(.ref b27)])) _
    refine XS.iconst X37.here hx rfl (hb hby at_77) ?_
    show Steps p.tables e below (T37.setTop (mkF m 78 #[.val (.long q0), .second, .val (.int p1), .val (.int p2), .val (.int p3), .val (.int p4), .val (.int p5), .val (.int (p1 &&& (7 : Int32))), .val (.int ((1 : Int32) + ((p2 &&& (2147483647 : Int32)) % (19 : Int32)))), .val (.int ((p3 &&& (2147483647 : Int32)) % ((1 : Int32) + ((p2 &&& (2147483647 : Int32)) % (19 : Int32))))), .val (.int (j0_0 p4 p5)), .val (.ref b27), .unset, .unset, .unset, .unset, .unset, .unset] [(.int (2 : Int32)), (.ref b27)])) _
    refine XS.lloadN X37.here hx rfl (hb hby at_78) rfl ?_
    show Steps p.tables e below (T37.setTop (mkF m 79 #[.val (.long q0), .second, .val (.int p1), .val (.int p2), .val (.int p3), .val (.int p4), .val (.int p5), .val (.int (p1 &&& (7 : Int32))), .val (.int ((1 : Int32) + ((p2 &&& (2147483647 : Int32)) % (19 : Int32)))), .val (.int ((p3 &&& (2147483647 : Int32)) % ((1 : Int32) + ((p2 &&& (2147483647 : Int32)) % (19 : Int32))))), .val (.int (j0_0 p4 p5)), .val (.ref b27), .unset, .unset, .unset, .unset, .unset, .unset] [(.long q0), (.int (2 : Int32)), (.ref b27)])) _
    refine XS.bipush X37.here hx rfl (hb hby at_79) ?_
    show Steps p.tables e below (T37.setTop (mkF m 81 #[.val (.long q0), .second, .val (.int p1), .val (.int p2), .val (.int p3), .val (.int p4), .val (.int p5), .val (.int (p1 &&& (7 : Int32))), .val (.int ((1 : Int32) + ((p2 &&& (2147483647 : Int32)) % (19 : Int32)))), .val (.int ((p3 &&& (2147483647 : Int32)) % ((1 : Int32) + ((p2 &&& (2147483647 : Int32)) % (19 : Int32))))), .val (.int (j0_0 p4 p5)), .val (.ref b27), .unset, .unset, .unset, .unset, .unset, .unset] [(.int (6 : Int32)), (.long q0), (.int (2 : Int32)), (.ref b27)])) _
    refine XS.lushr X37.here hx rfl (hb hby at_81) rfl ?_
    show Steps p.tables e below (T37.setTop (mkF m 82 #[.val (.long q0), .second, .val (.int p1), .val (.int p2), .val (.int p3), .val (.int p4), .val (.int p5), .val (.int (p1 &&& (7 : Int32))), .val (.int ((1 : Int32) + ((p2 &&& (2147483647 : Int32)) % (19 : Int32)))), .val (.int ((p3 &&& (2147483647 : Int32)) % ((1 : Int32) + ((p2 &&& (2147483647 : Int32)) % (19 : Int32))))), .val (.int (j0_0 p4 p5)), .val (.ref b27), .unset, .unset, .unset, .unset, .unset, .unset] [(.long ((q0.toUInt64 >>> ((6 : Int32) &&& 0x3f).toInt64.toUInt64).toInt64)), (.int (2 : Int32)), (.ref b27)])) _
    refine XS.l2i X37.here hx rfl (hb hby at_82) rfl ?_
    show Steps p.tables e below (T37.setTop (mkF m 83 #[.val (.long q0), .second, .val (.int p1), .val (.int p2), .val (.int p3), .val (.int p4), .val (.int p5), .val (.int (p1 &&& (7 : Int32))), .val (.int ((1 : Int32) + ((p2 &&& (2147483647 : Int32)) % (19 : Int32)))), .val (.int ((p3 &&& (2147483647 : Int32)) % ((1 : Int32) + ((p2 &&& (2147483647 : Int32)) % (19 : Int32))))), .val (.int (j0_0 p4 p5)), .val (.ref b27), .unset, .unset, .unset, .unset, .unset, .unset] [(.int (((q0.toUInt64 >>> ((6 : Int32) &&& 0x3f).toInt64.toUInt64).toInt64).toInt32)), (.int (2 : Int32)), (.ref b27)])) _
    refine XS.bipush X37.here hx rfl (hb hby at_83) ?_
    show Steps p.tables e below (T37.setTop (mkF m 85 #[.val (.long q0), .second, .val (.int p1), .val (.int p2), .val (.int p3), .val (.int p4), .val (.int p5), .val (.int (p1 &&& (7 : Int32))), .val (.int ((1 : Int32) + ((p2 &&& (2147483647 : Int32)) % (19 : Int32)))), .val (.int ((p3 &&& (2147483647 : Int32)) % ((1 : Int32) + ((p2 &&& (2147483647 : Int32)) % (19 : Int32))))), .val (.int (j0_0 p4 p5)), .val (.ref b27), .unset, .unset, .unset, .unset, .unset, .unset] [(.int (7 : Int32)), (.int (((q0.toUInt64 >>> ((6 : Int32) &&& 0x3f).toInt64.toUInt64).toInt64).toInt32)), (.int (2 : Int32)), (.ref b27)])) _
    refine XS.iand X37.here hx rfl (hb hby at_85) rfl ?_
    show Steps p.tables e below (T37.setTop (mkF m 86 #[.val (.long q0), .second, .val (.int p1), .val (.int p2), .val (.int p3), .val (.int p4), .val (.int p5), .val (.int (p1 &&& (7 : Int32))), .val (.int ((1 : Int32) + ((p2 &&& (2147483647 : Int32)) % (19 : Int32)))), .val (.int ((p3 &&& (2147483647 : Int32)) % ((1 : Int32) + ((p2 &&& (2147483647 : Int32)) % (19 : Int32))))), .val (.int (j0_0 p4 p5)), .val (.ref b27), .unset, .unset, .unset, .unset, .unset, .unset] [(.int ((((q0.toUInt64 >>> ((6 : Int32) &&& 0x3f).toInt64.toUInt64).toInt64).toInt32) &&& (7 : Int32))), (.int (2 : Int32)), (.ref b27)])) _
    refine st43 _ ?_
    show Steps p.tables e below (T43.setTop (mkF m 87 #[.val (.long q0), .second, .val (.int p1), .val (.int p2), .val (.int p3), .val (.int p4), .val (.int p5), .val (.int (p1 &&& (7 : Int32))), .val (.int ((1 : Int32) + ((p2 &&& (2147483647 : Int32)) % (19 : Int32)))), .val (.int ((p3 &&& (2147483647 : Int32)) % ((1 : Int32) + ((p2 &&& (2147483647 : Int32)) % (19 : Int32))))), .val (.int (j0_0 p4 p5)), .val (.ref b27), .unset, .unset, .unset, .unset, .unset, .unset] [])) _
    refine XS.aload X43.here hx rfl (hb hby at_87) rfl rfl ?_
    show Steps p.tables e below (T43.setTop (mkF m 89 #[.val (.long q0), .second, .val (.int p1), .val (.int p2), .val (.int p3), .val (.int p4), .val (.int p5), .val (.int (p1 &&& (7 : Int32))), .val (.int ((1 : Int32) + ((p2 &&& (2147483647 : Int32)) % (19 : Int32)))), .val (.int ((p3 &&& (2147483647 : Int32)) % ((1 : Int32) + ((p2 &&& (2147483647 : Int32)) % (19 : Int32))))), .val (.int (j0_0 p4 p5)), .val (.ref b27), .unset, .unset, .unset, .unset, .unset, .unset] [(.ref b27)])) _
    refine XS.iconst X43.here hx rfl (hb hby at_89) ?_
    show Steps p.tables e below (T43.setTop (mkF m 90 #[.val (.long q0), .second, .val (.int p1), .val (.int p2), .val (.int p3), .val (.int p4), .val (.int p5), .val (.int (p1 &&& (7 : Int32))), .val (.int ((1 : Int32) + ((p2 &&& (2147483647 : Int32)) % (19 : Int32)))), .val (.int ((p3 &&& (2147483647 : Int32)) % ((1 : Int32) + ((p2 &&& (2147483647 : Int32)) % (19 : Int32))))), .val (.int (j0_0 p4 p5)), .val (.ref b27), .unset, .unset, .unset, .unset, .unset, .unset] [(.int (3 : Int32)), (.ref b27)])) _
    refine XS.lloadN X43.here hx rfl (hb hby at_90) rfl ?_
    show Steps p.tables e below (T43.setTop (mkF m 91 #[.val (.long q0), .second, .val (.int p1), .val (.int p2), .val (.int p3), .val (.int p4), .val (.int p5), .val (.int (p1 &&& (7 : Int32))), .val (.int ((1 : Int32) + ((p2 &&& (2147483647 : Int32)) % (19 : Int32)))), .val (.int ((p3 &&& (2147483647 : Int32)) % ((1 : Int32) + ((p2 &&& (2147483647 : Int32)) % (19 : Int32))))), .val (.int (j0_0 p4 p5)), .val (.ref b27), .unset, .unset, .unset, .unset, .unset, .unset] [(.long q0), (.int (3 : Int32)), (.ref b27)])) _
    refine XS.bipush X43.here hx rfl (hb hby at_91) ?_
    show Steps p.tables e below (T43.setTop (mkF m 93 #[.val (.long q0), .second, .val (.int p1), .val (.int p2), .val (.int p3), .val (.int p4), .val (.int p5), .val (.int (p1 &&& (7 : Int32))), .val (.int ((1 : Int32) + ((p2 &&& (2147483647 : Int32)) % (19 : Int32)))), .val (.int ((p3 &&& (2147483647 : Int32)) % ((1 : Int32) + ((p2 &&& (2147483647 : Int32)) % (19 : Int32))))), .val (.int (j0_0 p4 p5)), .val (.ref b27), .unset, .unset, .unset, .unset, .unset, .unset] [(.int (9 : Int32)), (.long q0), (.int (3 : Int32)), (.ref b27)])) _
    refine XS.lushr X43.here hx rfl (hb hby at_93) rfl ?_
    show Steps p.tables e below (T43.setTop (mkF m 94 #[.val (.long q0), .second, .val (.int p1), .val (.int p2), .val (.int p3), .val (.int p4), .val (.int p5), .val (.int (p1 &&& (7 : Int32))), .val (.int ((1 : Int32) + ((p2 &&& (2147483647 : Int32)) % (19 : Int32)))), .val (.int ((p3 &&& (2147483647 : Int32)) % ((1 : Int32) + ((p2 &&& (2147483647 : Int32)) % (19 : Int32))))), .val (.int (j0_0 p4 p5)), .val (.ref b27), .unset, .unset, .unset, .unset, .unset, .unset] [(.long ((q0.toUInt64 >>> ((9 : Int32) &&& 0x3f).toInt64.toUInt64).toInt64)), (.int (3 : Int32)), (.ref b27)])) _
    refine XS.l2i X43.here hx rfl (hb hby at_94) rfl ?_
    show Steps p.tables e below (T43.setTop (mkF m 95 #[.val (.long q0), .second, .val (.int p1), .val (.int p2), .val (.int p3), .val (.int p4), .val (.int p5), .val (.int (p1 &&& (7 : Int32))), .val (.int ((1 : Int32) + ((p2 &&& (2147483647 : Int32)) % (19 : Int32)))), .val (.int ((p3 &&& (2147483647 : Int32)) % ((1 : Int32) + ((p2 &&& (2147483647 : Int32)) % (19 : Int32))))), .val (.int (j0_0 p4 p5)), .val (.ref b27), .unset, .unset, .unset, .unset, .unset, .unset] [(.int (((q0.toUInt64 >>> ((9 : Int32) &&& 0x3f).toInt64.toUInt64).toInt64).toInt32)), (.int (3 : Int32)), (.ref b27)])) _
    refine XS.bipush X43.here hx rfl (hb hby at_95) ?_
    show Steps p.tables e below (T43.setTop (mkF m 97 #[.val (.long q0), .second, .val (.int p1), .val (.int p2), .val (.int p3), .val (.int p4), .val (.int p5), .val (.int (p1 &&& (7 : Int32))), .val (.int ((1 : Int32) + ((p2 &&& (2147483647 : Int32)) % (19 : Int32)))), .val (.int ((p3 &&& (2147483647 : Int32)) % ((1 : Int32) + ((p2 &&& (2147483647 : Int32)) % (19 : Int32))))), .val (.int (j0_0 p4 p5)), .val (.ref b27), .unset, .unset, .unset, .unset, .unset, .unset] [(.int (7 : Int32)), (.int (((q0.toUInt64 >>> ((9 : Int32) &&& 0x3f).toInt64.toUInt64).toInt64).toInt32)), (.int (3 : Int32)), (.ref b27)])) _
    refine XS.iand X43.here hx rfl (hb hby at_97) rfl ?_
    show Steps p.tables e below (T43.setTop (mkF m 98 #[.val (.long q0), .second, .val (.int p1), .val (.int p2), .val (.int p3), .val (.int p4), .val (.int p5), .val (.int (p1 &&& (7 : Int32))), .val (.int ((1 : Int32) + ((p2 &&& (2147483647 : Int32)) % (19 : Int32)))), .val (.int ((p3 &&& (2147483647 : Int32)) % ((1 : Int32) + ((p2 &&& (2147483647 : Int32)) % (19 : Int32))))), .val (.int (j0_0 p4 p5)), .val (.ref b27), .unset, .unset, .unset, .unset, .unset, .unset] [(.int ((((q0.toUInt64 >>> ((9 : Int32) &&& 0x3f).toInt64.toUInt64).toInt64).toInt32) &&& (7 : Int32))), (.int (3 : Int32)), (.ref b27)])) _
    refine st49 _ ?_
    show Steps p.tables e below (T49.setTop (mkF m 99 #[.val (.long q0), .second, .val (.int p1), .val (.int p2), .val (.int p3), .val (.int p4), .val (.int p5), .val (.int (p1 &&& (7 : Int32))), .val (.int ((1 : Int32) + ((p2 &&& (2147483647 : Int32)) % (19 : Int32)))), .val (.int ((p3 &&& (2147483647 : Int32)) % ((1 : Int32) + ((p2 &&& (2147483647 : Int32)) % (19 : Int32))))), .val (.int (j0_0 p4 p5)), .val (.ref b27), .unset, .unset, .unset, .unset, .unset, .unset] [])) _
    refine XS.aload X49.here hx rfl (hb hby at_99) rfl rfl ?_
    show Steps p.tables e below (T49.setTop (mkF m 101 #[.val (.long q0), .second, .val (.int p1), .val (.int p2), .val (.int p3), .val (.int p4), .val (.int p5), .val (.int (p1 &&& (7 : Int32))), .val (.int ((1 : Int32) + ((p2 &&& (2147483647 : Int32)) % (19 : Int32)))), .val (.int ((p3 &&& (2147483647 : Int32)) % ((1 : Int32) + ((p2 &&& (2147483647 : Int32)) % (19 : Int32))))), .val (.int (j0_0 p4 p5)), .val (.ref b27), .unset, .unset, .unset, .unset, .unset, .unset] [(.ref b27)])) _
    refine XS.iconst X49.here hx rfl (hb hby at_101) ?_
    show Steps p.tables e below (T49.setTop (mkF m 102 #[.val (.long q0), .second, .val (.int p1), .val (.int p2), .val (.int p3), .val (.int p4), .val (.int p5), .val (.int (p1 &&& (7 : Int32))), .val (.int ((1 : Int32) + ((p2 &&& (2147483647 : Int32)) % (19 : Int32)))), .val (.int ((p3 &&& (2147483647 : Int32)) % ((1 : Int32) + ((p2 &&& (2147483647 : Int32)) % (19 : Int32))))), .val (.int (j0_0 p4 p5)), .val (.ref b27), .unset, .unset, .unset, .unset, .unset, .unset] [(.int (4 : Int32)), (.ref b27)])) _
    refine XS.lloadN X49.here hx rfl (hb hby at_102) rfl ?_
    show Steps p.tables e below (T49.setTop (mkF m 103 #[.val (.long q0), .second, .val (.int p1), .val (.int p2), .val (.int p3), .val (.int p4), .val (.int p5), .val (.int (p1 &&& (7 : Int32))), .val (.int ((1 : Int32) + ((p2 &&& (2147483647 : Int32)) % (19 : Int32)))), .val (.int ((p3 &&& (2147483647 : Int32)) % ((1 : Int32) + ((p2 &&& (2147483647 : Int32)) % (19 : Int32))))), .val (.int (j0_0 p4 p5)), .val (.ref b27), .unset, .unset, .unset, .unset, .unset, .unset] [(.long q0), (.int (4 : Int32)), (.ref b27)])) _
    refine XS.bipush X49.here hx rfl (hb hby at_103) ?_
    show Steps p.tables e below (T49.setTop (mkF m 105 #[.val (.long q0), .second, .val (.int p1), .val (.int p2), .val (.int p3), .val (.int p4), .val (.int p5), .val (.int (p1 &&& (7 : Int32))), .val (.int ((1 : Int32) + ((p2 &&& (2147483647 : Int32)) % (19 : Int32)))), .val (.int ((p3 &&& (2147483647 : Int32)) % ((1 : Int32) + ((p2 &&& (2147483647 : Int32)) % (19 : Int32))))), .val (.int (j0_0 p4 p5)), .val (.ref b27), .unset, .unset, .unset, .unset, .unset, .unset] [(.int (12 : Int32)), (.long q0), (.int (4 : Int32)), (.ref b27)])) _
    refine XS.lushr X49.here hx rfl (hb hby at_105) rfl ?_
    show Steps p.tables e below (T49.setTop (mkF m 106 #[.val (.long q0), .second, .val (.int p1), .val (.int p2), .val (.int p3), .val (.int p4), .val (.int p5), .val (.int (p1 &&& (7 : Int32))), .val (.int ((1 : Int32) + ((p2 &&& (2147483647 : Int32)) % (19 : Int32)))), .val (.int ((p3 &&& (2147483647 : Int32)) % ((1 : Int32) + ((p2 &&& (2147483647 : Int32)) % (19 : Int32))))), .val (.int (j0_0 p4 p5)), .val (.ref b27), .unset, .unset, .unset, .unset, .unset, .unset] [(.long ((q0.toUInt64 >>> ((12 : Int32) &&& 0x3f).toInt64.toUInt64).toInt64)), (.int (4 : Int32)), (.ref b27)])) _
    refine XS.l2i X49.here hx rfl (hb hby at_106) rfl ?_
    show Steps p.tables e below (T49.setTop (mkF m 107 #[.val (.long q0), .second, .val (.int p1), .val (.int p2), .val (.int p3), .val (.int p4), .val (.int p5), .val (.int (p1 &&& (7 : Int32))), .val (.int ((1 : Int32) + ((p2 &&& (2147483647 : Int32)) % (19 : Int32)))), .val (.int ((p3 &&& (2147483647 : Int32)) % ((1 : Int32) + ((p2 &&& (2147483647 : Int32)) % (19 : Int32))))), .val (.int (j0_0 p4 p5)), .val (.ref b27), .unset, .unset, .unset, .unset, .unset, .unset] [(.int (((q0.toUInt64 >>> ((12 : Int32) &&& 0x3f).toInt64.toUInt64).toInt64).toInt32)), (.int (4 : Int32)), (.ref b27)])) _
    refine XS.bipush X49.here hx rfl (hb hby at_107) ?_
    show Steps p.tables e below (T49.setTop (mkF m 109 #[.val (.long q0), .second, .val (.int p1), .val (.int p2), .val (.int p3), .val (.int p4), .val (.int p5), .val (.int (p1 &&& (7 : Int32))), .val (.int ((1 : Int32) + ((p2 &&& (2147483647 : Int32)) % (19 : Int32)))), .val (.int ((p3 &&& (2147483647 : Int32)) % ((1 : Int32) + ((p2 &&& (2147483647 : Int32)) % (19 : Int32))))), .val (.int (j0_0 p4 p5)), .val (.ref b27), .unset, .unset, .unset, .unset, .unset, .unset] [(.int (7 : Int32)), (.int (((q0.toUInt64 >>> ((12 : Int32) &&& 0x3f).toInt64.toUInt64).toInt64).toInt32)), (.int (4 : Int32)), (.ref b27)])) _
    refine XS.iand X49.here hx rfl (hb hby at_109) rfl ?_
    show Steps p.tables e below (T49.setTop (mkF m 110 #[.val (.long q0), .second, .val (.int p1), .val (.int p2), .val (.int p3), .val (.int p4), .val (.int p5), .val (.int (p1 &&& (7 : Int32))), .val (.int ((1 : Int32) + ((p2 &&& (2147483647 : Int32)) % (19 : Int32)))), .val (.int ((p3 &&& (2147483647 : Int32)) % ((1 : Int32) + ((p2 &&& (2147483647 : Int32)) % (19 : Int32))))), .val (.int (j0_0 p4 p5)), .val (.ref b27), .unset, .unset, .unset, .unset, .unset, .unset] [(.int ((((q0.toUInt64 >>> ((12 : Int32) &&& 0x3f).toInt64.toUInt64).toInt64).toInt32) &&& (7 : Int32))), (.int (4 : Int32)), (.ref b27)])) _
    refine st55 _ ?_
    show Steps p.tables e below (T55.setTop (mkF m 111 #[.val (.long q0), .second, .val (.int p1), .val (.int p2), .val (.int p3), .val (.int p4), .val (.int p5), .val (.int (p1 &&& (7 : Int32))), .val (.int ((1 : Int32) + ((p2 &&& (2147483647 : Int32)) % (19 : Int32)))), .val (.int ((p3 &&& (2147483647 : Int32)) % ((1 : Int32) + ((p2 &&& (2147483647 : Int32)) % (19 : Int32))))), .val (.int (j0_0 p4 p5)), .val (.ref b27), .unset, .unset, .unset, .unset, .unset, .unset] [])) _
    refine XS.aload X55.here hx rfl (hb hby at_111) rfl rfl ?_
    show Steps p.tables e below (T55.setTop (mkF m 113 #[.val (.long q0), .second, .val (.int p1), .val (.int p2), .val (.int p3), .val (.int p4), .val (.int p5), .val (.int (p1 &&& (7 : Int32))), .val (.int ((1 : Int32) + ((p2 &&& (2147483647 : Int32)) % (19 : Int32)))), .val (.int ((p3 &&& (2147483647 : Int32)) % ((1 : Int32) + ((p2 &&& (2147483647 : Int32)) % (19 : Int32))))), .val (.int (j0_0 p4 p5)), .val (.ref b27), .unset, .unset, .unset, .unset, .unset, .unset] [(.ref b27)])) _
    refine XS.iconst X55.here hx rfl (hb hby at_113) ?_
    show Steps p.tables e below (T55.setTop (mkF m 114 #[.val (.long q0), .second, .val (.int p1), .val (.int p2), .val (.int p3), .val (.int p4), .val (.int p5), .val (.int (p1 &&& (7 : Int32))), .val (.int ((1 : Int32) + ((p2 &&& (2147483647 : Int32)) % (19 : Int32)))), .val (.int ((p3 &&& (2147483647 : Int32)) % ((1 : Int32) + ((p2 &&& (2147483647 : Int32)) % (19 : Int32))))), .val (.int (j0_0 p4 p5)), .val (.ref b27), .unset, .unset, .unset, .unset, .unset, .unset] [(.int (5 : Int32)), (.ref b27)])) _
    refine XS.lloadN X55.here hx rfl (hb hby at_114) rfl ?_
    show Steps p.tables e below (T55.setTop (mkF m 115 #[.val (.long q0), .second, .val (.int p1), .val (.int p2), .val (.int p3), .val (.int p4), .val (.int p5), .val (.int (p1 &&& (7 : Int32))), .val (.int ((1 : Int32) + ((p2 &&& (2147483647 : Int32)) % (19 : Int32)))), .val (.int ((p3 &&& (2147483647 : Int32)) % ((1 : Int32) + ((p2 &&& (2147483647 : Int32)) % (19 : Int32))))), .val (.int (j0_0 p4 p5)), .val (.ref b27), .unset, .unset, .unset, .unset, .unset, .unset] [(.long q0), (.int (5 : Int32)), (.ref b27)])) _
    refine XS.bipush X55.here hx rfl (hb hby at_115) ?_
    show Steps p.tables e below (T55.setTop (mkF m 117 #[.val (.long q0), .second, .val (.int p1), .val (.int p2), .val (.int p3), .val (.int p4), .val (.int p5), .val (.int (p1 &&& (7 : Int32))), .val (.int ((1 : Int32) + ((p2 &&& (2147483647 : Int32)) % (19 : Int32)))), .val (.int ((p3 &&& (2147483647 : Int32)) % ((1 : Int32) + ((p2 &&& (2147483647 : Int32)) % (19 : Int32))))), .val (.int (j0_0 p4 p5)), .val (.ref b27), .unset, .unset, .unset, .unset, .unset, .unset] [(.int (15 : Int32)), (.long q0), (.int (5 : Int32)), (.ref b27)])) _
    refine XS.lushr X55.here hx rfl (hb hby at_117) rfl ?_
    show Steps p.tables e below (T55.setTop (mkF m 118 #[.val (.long q0), .second, .val (.int p1), .val (.int p2), .val (.int p3), .val (.int p4), .val (.int p5), .val (.int (p1 &&& (7 : Int32))), .val (.int ((1 : Int32) + ((p2 &&& (2147483647 : Int32)) % (19 : Int32)))), .val (.int ((p3 &&& (2147483647 : Int32)) % ((1 : Int32) + ((p2 &&& (2147483647 : Int32)) % (19 : Int32))))), .val (.int (j0_0 p4 p5)), .val (.ref b27), .unset, .unset, .unset, .unset, .unset, .unset] [(.long ((q0.toUInt64 >>> ((15 : Int32) &&& 0x3f).toInt64.toUInt64).toInt64)), (.int (5 : Int32)), (.ref b27)])) _
    refine XS.l2i X55.here hx rfl (hb hby at_118) rfl ?_
    show Steps p.tables e below (T55.setTop (mkF m 119 #[.val (.long q0), .second, .val (.int p1), .val (.int p2), .val (.int p3), .val (.int p4), .val (.int p5), .val (.int (p1 &&& (7 : Int32))), .val (.int ((1 : Int32) + ((p2 &&& (2147483647 : Int32)) % (19 : Int32)))), .val (.int ((p3 &&& (2147483647 : Int32)) % ((1 : Int32) + ((p2 &&& (2147483647 : Int32)) % (19 : Int32))))), .val (.int (j0_0 p4 p5)), .val (.ref b27), .unset, .unset, .unset, .unset, .unset, .unset] [(.int (((q0.toUInt64 >>> ((15 : Int32) &&& 0x3f).toInt64.toUInt64).toInt64).toInt32)), (.int (5 : Int32)), (.ref b27)])) _
    refine XS.bipush X55.here hx rfl (hb hby at_119) ?_
    show Steps p.tables e below (T55.setTop (mkF m 121 #[.val (.long q0), .second, .val (.int p1), .val (.int p2), .val (.int p3), .val (.int p4), .val (.int p5), .val (.int (p1 &&& (7 : Int32))), .val (.int ((1 : Int32) + ((p2 &&& (2147483647 : Int32)) % (19 : Int32)))), .val (.int ((p3 &&& (2147483647 : Int32)) % ((1 : Int32) + ((p2 &&& (2147483647 : Int32)) % (19 : Int32))))), .val (.int (j0_0 p4 p5)), .val (.ref b27), .unset, .unset, .unset, .unset, .unset, .unset] [(.int (7 : Int32)), (.int (((q0.toUInt64 >>> ((15 : Int32) &&& 0x3f).toInt64.toUInt64).toInt64).toInt32)), (.int (5 : Int32)), (.ref b27)])) _
    refine XS.iand X55.here hx rfl (hb hby at_121) rfl ?_
    show Steps p.tables e below (T55.setTop (mkF m 122 #[.val (.long q0), .second, .val (.int p1), .val (.int p2), .val (.int p3), .val (.int p4), .val (.int p5), .val (.int (p1 &&& (7 : Int32))), .val (.int ((1 : Int32) + ((p2 &&& (2147483647 : Int32)) % (19 : Int32)))), .val (.int ((p3 &&& (2147483647 : Int32)) % ((1 : Int32) + ((p2 &&& (2147483647 : Int32)) % (19 : Int32))))), .val (.int (j0_0 p4 p5)), .val (.ref b27), .unset, .unset, .unset, .unset, .unset, .unset] [(.int ((((q0.toUInt64 >>> ((15 : Int32) &&& 0x3f).toInt64.toUInt64).toInt64).toInt32) &&& (7 : Int32))), (.int (5 : Int32)), (.ref b27)])) _
    refine st61 _ ?_
    show Steps p.tables e below (T61.setTop (mkF m 123 #[.val (.long q0), .second, .val (.int p1), .val (.int p2), .val (.int p3), .val (.int p4), .val (.int p5), .val (.int (p1 &&& (7 : Int32))), .val (.int ((1 : Int32) + ((p2 &&& (2147483647 : Int32)) % (19 : Int32)))), .val (.int ((p3 &&& (2147483647 : Int32)) % ((1 : Int32) + ((p2 &&& (2147483647 : Int32)) % (19 : Int32))))), .val (.int (j0_0 p4 p5)), .val (.ref b27), .unset, .unset, .unset, .unset, .unset, .unset] [])) _
    refine XS.aload X61.here hx rfl (hb hby at_123) rfl rfl ?_
    show Steps p.tables e below (T61.setTop (mkF m 125 #[.val (.long q0), .second, .val (.int p1), .val (.int p2), .val (.int p3), .val (.int p4), .val (.int p5), .val (.int (p1 &&& (7 : Int32))), .val (.int ((1 : Int32) + ((p2 &&& (2147483647 : Int32)) % (19 : Int32)))), .val (.int ((p3 &&& (2147483647 : Int32)) % ((1 : Int32) + ((p2 &&& (2147483647 : Int32)) % (19 : Int32))))), .val (.int (j0_0 p4 p5)), .val (.ref b27), .unset, .unset, .unset, .unset, .unset, .unset] [(.ref b27)])) _
    refine XS.bipush X61.here hx rfl (hb hby at_125) ?_
    show Steps p.tables e below (T61.setTop (mkF m 127 #[.val (.long q0), .second, .val (.int p1), .val (.int p2), .val (.int p3), .val (.int p4), .val (.int p5), .val (.int (p1 &&& (7 : Int32))), .val (.int ((1 : Int32) + ((p2 &&& (2147483647 : Int32)) % (19 : Int32)))), .val (.int ((p3 &&& (2147483647 : Int32)) % ((1 : Int32) + ((p2 &&& (2147483647 : Int32)) % (19 : Int32))))), .val (.int (j0_0 p4 p5)), .val (.ref b27), .unset, .unset, .unset, .unset, .unset, .unset] [(.int (6 : Int32)), (.ref b27)])) _
    refine XS.lloadN X61.here hx rfl (hb hby at_127) rfl ?_
    show Steps p.tables e below (T61.setTop (mkF m 128 #[.val (.long q0), .second, .val (.int p1), .val (.int p2), .val (.int p3), .val (.int p4), .val (.int p5), .val (.int (p1 &&& (7 : Int32))), .val (.int ((1 : Int32) + ((p2 &&& (2147483647 : Int32)) % (19 : Int32)))), .val (.int ((p3 &&& (2147483647 : Int32)) % ((1 : Int32) + ((p2 &&& (2147483647 : Int32)) % (19 : Int32))))), .val (.int (j0_0 p4 p5)), .val (.ref b27), .unset, .unset, .unset, .unset, .unset, .unset] [(.long q0), (.int (6 : Int32)), (.ref b27)])) _
    refine XS.bipush X61.here hx rfl (hb hby at_128) ?_
    show Steps p.tables e below (T61.setTop (mkF m 130 #[.val (.long q0), .second, .val (.int p1), .val (.int p2), .val (.int p3), .val (.int p4), .val (.int p5), .val (.int (p1 &&& (7 : Int32))), .val (.int ((1 : Int32) + ((p2 &&& (2147483647 : Int32)) % (19 : Int32)))), .val (.int ((p3 &&& (2147483647 : Int32)) % ((1 : Int32) + ((p2 &&& (2147483647 : Int32)) % (19 : Int32))))), .val (.int (j0_0 p4 p5)), .val (.ref b27), .unset, .unset, .unset, .unset, .unset, .unset] [(.int (18 : Int32)), (.long q0), (.int (6 : Int32)), (.ref b27)])) _
    refine XS.lushr X61.here hx rfl (hb hby at_130) rfl ?_
    show Steps p.tables e below (T61.setTop (mkF m 131 #[.val (.long q0), .second, .val (.int p1), .val (.int p2), .val (.int p3), .val (.int p4), .val (.int p5), .val (.int (p1 &&& (7 : Int32))), .val (.int ((1 : Int32) + ((p2 &&& (2147483647 : Int32)) % (19 : Int32)))), .val (.int ((p3 &&& (2147483647 : Int32)) % ((1 : Int32) + ((p2 &&& (2147483647 : Int32)) % (19 : Int32))))), .val (.int (j0_0 p4 p5)), .val (.ref b27), .unset, .unset, .unset, .unset, .unset, .unset] [(.long ((q0.toUInt64 >>> ((18 : Int32) &&& 0x3f).toInt64.toUInt64).toInt64)), (.int (6 : Int32)), (.ref b27)])) _
    refine XS.l2i X61.here hx rfl (hb hby at_131) rfl ?_
    show Steps p.tables e below (T61.setTop (mkF m 132 #[.val (.long q0), .second, .val (.int p1), .val (.int p2), .val (.int p3), .val (.int p4), .val (.int p5), .val (.int (p1 &&& (7 : Int32))), .val (.int ((1 : Int32) + ((p2 &&& (2147483647 : Int32)) % (19 : Int32)))), .val (.int ((p3 &&& (2147483647 : Int32)) % ((1 : Int32) + ((p2 &&& (2147483647 : Int32)) % (19 : Int32))))), .val (.int (j0_0 p4 p5)), .val (.ref b27), .unset, .unset, .unset, .unset, .unset, .unset] [(.int (((q0.toUInt64 >>> ((18 : Int32) &&& 0x3f).toInt64.toUInt64).toInt64).toInt32)), (.int (6 : Int32)), (.ref b27)])) _
    refine XS.bipush X61.here hx rfl (hb hby at_132) ?_
    show Steps p.tables e below (T61.setTop (mkF m 134 #[.val (.long q0), .second, .val (.int p1), .val (.int p2), .val (.int p3), .val (.int p4), .val (.int p5), .val (.int (p1 &&& (7 : Int32))), .val (.int ((1 : Int32) + ((p2 &&& (2147483647 : Int32)) % (19 : Int32)))), .val (.int ((p3 &&& (2147483647 : Int32)) % ((1 : Int32) + ((p2 &&& (2147483647 : Int32)) % (19 : Int32))))), .val (.int (j0_0 p4 p5)), .val (.ref b27), .unset, .unset, .unset, .unset, .unset, .unset] [(.int (7 : Int32)), (.int (((q0.toUInt64 >>> ((18 : Int32) &&& 0x3f).toInt64.toUInt64).toInt64).toInt32)), (.int (6 : Int32)), (.ref b27)])) _
    refine XS.iand X61.here hx rfl (hb hby at_134) rfl ?_
    show Steps p.tables e below (T61.setTop (mkF m 135 #[.val (.long q0), .second, .val (.int p1), .val (.int p2), .val (.int p3), .val (.int p4), .val (.int p5), .val (.int (p1 &&& (7 : Int32))), .val (.int ((1 : Int32) + ((p2 &&& (2147483647 : Int32)) % (19 : Int32)))), .val (.int ((p3 &&& (2147483647 : Int32)) % ((1 : Int32) + ((p2 &&& (2147483647 : Int32)) % (19 : Int32))))), .val (.int (j0_0 p4 p5)), .val (.ref b27), .unset, .unset, .unset, .unset, .unset, .unset] [(.int ((((q0.toUInt64 >>> ((18 : Int32) &&& 0x3f).toInt64.toUInt64).toInt64).toInt32) &&& (7 : Int32))), (.int (6 : Int32)), (.ref b27)])) _
    refine st67 _ ?_
    show Steps p.tables e below (T67.setTop (mkF m 136 #[.val (.long q0), .second, .val (.int p1), .val (.int p2), .val (.int p3), .val (.int p4), .val (.int p5), .val (.int (p1 &&& (7 : Int32))), .val (.int ((1 : Int32) + ((p2 &&& (2147483647 : Int32)) % (19 : Int32)))), .val (.int ((p3 &&& (2147483647 : Int32)) % ((1 : Int32) + ((p2 &&& (2147483647 : Int32)) % (19 : Int32))))), .val (.int (j0_0 p4 p5)), .val (.ref b27), .unset, .unset, .unset, .unset, .unset, .unset] [])) _
    refine XS.aload X67.here hx rfl (hb hby at_136) rfl rfl ?_
    show Steps p.tables e below (T67.setTop (mkF m 138 #[.val (.long q0), .second, .val (.int p1), .val (.int p2), .val (.int p3), .val (.int p4), .val (.int p5), .val (.int (p1 &&& (7 : Int32))), .val (.int ((1 : Int32) + ((p2 &&& (2147483647 : Int32)) % (19 : Int32)))), .val (.int ((p3 &&& (2147483647 : Int32)) % ((1 : Int32) + ((p2 &&& (2147483647 : Int32)) % (19 : Int32))))), .val (.int (j0_0 p4 p5)), .val (.ref b27), .unset, .unset, .unset, .unset, .unset, .unset] [(.ref b27)])) _
    refine XS.bipush X67.here hx rfl (hb hby at_138) ?_
    show Steps p.tables e below (T67.setTop (mkF m 140 #[.val (.long q0), .second, .val (.int p1), .val (.int p2), .val (.int p3), .val (.int p4), .val (.int p5), .val (.int (p1 &&& (7 : Int32))), .val (.int ((1 : Int32) + ((p2 &&& (2147483647 : Int32)) % (19 : Int32)))), .val (.int ((p3 &&& (2147483647 : Int32)) % ((1 : Int32) + ((p2 &&& (2147483647 : Int32)) % (19 : Int32))))), .val (.int (j0_0 p4 p5)), .val (.ref b27), .unset, .unset, .unset, .unset, .unset, .unset] [(.int (7 : Int32)), (.ref b27)])) _
    refine XS.lloadN X67.here hx rfl (hb hby at_140) rfl ?_
    show Steps p.tables e below (T67.setTop (mkF m 141 #[.val (.long q0), .second, .val (.int p1), .val (.int p2), .val (.int p3), .val (.int p4), .val (.int p5), .val (.int (p1 &&& (7 : Int32))), .val (.int ((1 : Int32) + ((p2 &&& (2147483647 : Int32)) % (19 : Int32)))), .val (.int ((p3 &&& (2147483647 : Int32)) % ((1 : Int32) + ((p2 &&& (2147483647 : Int32)) % (19 : Int32))))), .val (.int (j0_0 p4 p5)), .val (.ref b27), .unset, .unset, .unset, .unset, .unset, .unset] [(.long q0), (.int (7 : Int32)), (.ref b27)])) _
    refine XS.bipush X67.here hx rfl (hb hby at_141) ?_
    show Steps p.tables e below (T67.setTop (mkF m 143 #[.val (.long q0), .second, .val (.int p1), .val (.int p2), .val (.int p3), .val (.int p4), .val (.int p5), .val (.int (p1 &&& (7 : Int32))), .val (.int ((1 : Int32) + ((p2 &&& (2147483647 : Int32)) % (19 : Int32)))), .val (.int ((p3 &&& (2147483647 : Int32)) % ((1 : Int32) + ((p2 &&& (2147483647 : Int32)) % (19 : Int32))))), .val (.int (j0_0 p4 p5)), .val (.ref b27), .unset, .unset, .unset, .unset, .unset, .unset] [(.int (21 : Int32)), (.long q0), (.int (7 : Int32)), (.ref b27)])) _
    refine XS.lushr X67.here hx rfl (hb hby at_143) rfl ?_
    show Steps p.tables e below (T67.setTop (mkF m 144 #[.val (.long q0), .second, .val (.int p1), .val (.int p2), .val (.int p3), .val (.int p4), .val (.int p5), .val (.int (p1 &&& (7 : Int32))), .val (.int ((1 : Int32) + ((p2 &&& (2147483647 : Int32)) % (19 : Int32)))), .val (.int ((p3 &&& (2147483647 : Int32)) % ((1 : Int32) + ((p2 &&& (2147483647 : Int32)) % (19 : Int32))))), .val (.int (j0_0 p4 p5)), .val (.ref b27), .unset, .unset, .unset, .unset, .unset, .unset] [(.long ((q0.toUInt64 >>> ((21 : Int32) &&& 0x3f).toInt64.toUInt64).toInt64)), (.int (7 : Int32)), (.ref b27)])) _
    refine XS.l2i X67.here hx rfl (hb hby at_144) rfl ?_
    show Steps p.tables e below (T67.setTop (mkF m 145 #[.val (.long q0), .second, .val (.int p1), .val (.int p2), .val (.int p3), .val (.int p4), .val (.int p5), .val (.int (p1 &&& (7 : Int32))), .val (.int ((1 : Int32) + ((p2 &&& (2147483647 : Int32)) % (19 : Int32)))), .val (.int ((p3 &&& (2147483647 : Int32)) % ((1 : Int32) + ((p2 &&& (2147483647 : Int32)) % (19 : Int32))))), .val (.int (j0_0 p4 p5)), .val (.ref b27), .unset, .unset, .unset, .unset, .unset, .unset] [(.int (((q0.toUInt64 >>> ((21 : Int32) &&& 0x3f).toInt64.toUInt64).toInt64).toInt32)), (.int (7 : Int32)), (.ref b27)])) _
    refine XS.bipush X67.here hx rfl (hb hby at_145) ?_
    show Steps p.tables e below (T67.setTop (mkF m 147 #[.val (.long q0), .second, .val (.int p1), .val (.int p2), .val (.int p3), .val (.int p4), .val (.int p5), .val (.int (p1 &&& (7 : Int32))), .val (.int ((1 : Int32) + ((p2 &&& (2147483647 : Int32)) % (19 : Int32)))), .val (.int ((p3 &&& (2147483647 : Int32)) % ((1 : Int32) + ((p2 &&& (2147483647 : Int32)) % (19 : Int32))))), .val (.int (j0_0 p4 p5)), .val (.ref b27), .unset, .unset, .unset, .unset, .unset, .unset] [(.int (7 : Int32)), (.int (((q0.toUInt64 >>> ((21 : Int32) &&& 0x3f).toInt64.toUInt64).toInt64).toInt32)), (.int (7 : Int32)), (.ref b27)])) _
    refine XS.iand X67.here hx rfl (hb hby at_147) rfl ?_
    show Steps p.tables e below (T67.setTop (mkF m 148 #[.val (.long q0), .second, .val (.int p1), .val (.int p2), .val (.int p3), .val (.int p4), .val (.int p5), .val (.int (p1 &&& (7 : Int32))), .val (.int ((1 : Int32) + ((p2 &&& (2147483647 : Int32)) % (19 : Int32)))), .val (.int ((p3 &&& (2147483647 : Int32)) % ((1 : Int32) + ((p2 &&& (2147483647 : Int32)) % (19 : Int32))))), .val (.int (j0_0 p4 p5)), .val (.ref b27), .unset, .unset, .unset, .unset, .unset, .unset] [(.int ((((q0.toUInt64 >>> ((21 : Int32) &&& 0x3f).toInt64.toUInt64).toInt64).toInt32) &&& (7 : Int32))), (.int (7 : Int32)), (.ref b27)])) _
    refine st73 _ ?_
    show Steps p.tables e below (T73.setTop (mkF m 149 #[.val (.long q0), .second, .val (.int p1), .val (.int p2), .val (.int p3), .val (.int p4), .val (.int p5), .val (.int (p1 &&& (7 : Int32))), .val (.int ((1 : Int32) + ((p2 &&& (2147483647 : Int32)) % (19 : Int32)))), .val (.int ((p3 &&& (2147483647 : Int32)) % ((1 : Int32) + ((p2 &&& (2147483647 : Int32)) % (19 : Int32))))), .val (.int (j0_0 p4 p5)), .val (.ref b27), .unset, .unset, .unset, .unset, .unset, .unset] [])) _
    refine XS.aload X73.here hx rfl (hb hby at_149) rfl rfl ?_
    show Steps p.tables e below (T73.setTop (mkF m 151 #[.val (.long q0), .second, .val (.int p1), .val (.int p2), .val (.int p3), .val (.int p4), .val (.int p5), .val (.int (p1 &&& (7 : Int32))), .val (.int ((1 : Int32) + ((p2 &&& (2147483647 : Int32)) % (19 : Int32)))), .val (.int ((p3 &&& (2147483647 : Int32)) % ((1 : Int32) + ((p2 &&& (2147483647 : Int32)) % (19 : Int32))))), .val (.int (j0_0 p4 p5)), .val (.ref b27), .unset, .unset, .unset, .unset, .unset, .unset] [(.ref b27)])) _
    refine XS.bipush X73.here hx rfl (hb hby at_151) ?_
    show Steps p.tables e below (T73.setTop (mkF m 153 #[.val (.long q0), .second, .val (.int p1), .val (.int p2), .val (.int p3), .val (.int p4), .val (.int p5), .val (.int (p1 &&& (7 : Int32))), .val (.int ((1 : Int32) + ((p2 &&& (2147483647 : Int32)) % (19 : Int32)))), .val (.int ((p3 &&& (2147483647 : Int32)) % ((1 : Int32) + ((p2 &&& (2147483647 : Int32)) % (19 : Int32))))), .val (.int (j0_0 p4 p5)), .val (.ref b27), .unset, .unset, .unset, .unset, .unset, .unset] [(.int (8 : Int32)), (.ref b27)])) _
    refine XS.lloadN X73.here hx rfl (hb hby at_153) rfl ?_
    show Steps p.tables e below (T73.setTop (mkF m 154 #[.val (.long q0), .second, .val (.int p1), .val (.int p2), .val (.int p3), .val (.int p4), .val (.int p5), .val (.int (p1 &&& (7 : Int32))), .val (.int ((1 : Int32) + ((p2 &&& (2147483647 : Int32)) % (19 : Int32)))), .val (.int ((p3 &&& (2147483647 : Int32)) % ((1 : Int32) + ((p2 &&& (2147483647 : Int32)) % (19 : Int32))))), .val (.int (j0_0 p4 p5)), .val (.ref b27), .unset, .unset, .unset, .unset, .unset, .unset] [(.long q0), (.int (8 : Int32)), (.ref b27)])) _
    refine XS.bipush X73.here hx rfl (hb hby at_154) ?_
    show Steps p.tables e below (T73.setTop (mkF m 156 #[.val (.long q0), .second, .val (.int p1), .val (.int p2), .val (.int p3), .val (.int p4), .val (.int p5), .val (.int (p1 &&& (7 : Int32))), .val (.int ((1 : Int32) + ((p2 &&& (2147483647 : Int32)) % (19 : Int32)))), .val (.int ((p3 &&& (2147483647 : Int32)) % ((1 : Int32) + ((p2 &&& (2147483647 : Int32)) % (19 : Int32))))), .val (.int (j0_0 p4 p5)), .val (.ref b27), .unset, .unset, .unset, .unset, .unset, .unset] [(.int (24 : Int32)), (.long q0), (.int (8 : Int32)), (.ref b27)])) _
    refine XS.lushr X73.here hx rfl (hb hby at_156) rfl ?_
    show Steps p.tables e below (T73.setTop (mkF m 157 #[.val (.long q0), .second, .val (.int p1), .val (.int p2), .val (.int p3), .val (.int p4), .val (.int p5), .val (.int (p1 &&& (7 : Int32))), .val (.int ((1 : Int32) + ((p2 &&& (2147483647 : Int32)) % (19 : Int32)))), .val (.int ((p3 &&& (2147483647 : Int32)) % ((1 : Int32) + ((p2 &&& (2147483647 : Int32)) % (19 : Int32))))), .val (.int (j0_0 p4 p5)), .val (.ref b27), .unset, .unset, .unset, .unset, .unset, .unset] [(.long ((q0.toUInt64 >>> ((24 : Int32) &&& 0x3f).toInt64.toUInt64).toInt64)), (.int (8 : Int32)), (.ref b27)])) _
    refine XS.l2i X73.here hx rfl (hb hby at_157) rfl ?_
    show Steps p.tables e below (T73.setTop (mkF m 158 #[.val (.long q0), .second, .val (.int p1), .val (.int p2), .val (.int p3), .val (.int p4), .val (.int p5), .val (.int (p1 &&& (7 : Int32))), .val (.int ((1 : Int32) + ((p2 &&& (2147483647 : Int32)) % (19 : Int32)))), .val (.int ((p3 &&& (2147483647 : Int32)) % ((1 : Int32) + ((p2 &&& (2147483647 : Int32)) % (19 : Int32))))), .val (.int (j0_0 p4 p5)), .val (.ref b27), .unset, .unset, .unset, .unset, .unset, .unset] [(.int (((q0.toUInt64 >>> ((24 : Int32) &&& 0x3f).toInt64.toUInt64).toInt64).toInt32)), (.int (8 : Int32)), (.ref b27)])) _
    refine XS.bipush X73.here hx rfl (hb hby at_158) ?_
    show Steps p.tables e below (T73.setTop (mkF m 160 #[.val (.long q0), .second, .val (.int p1), .val (.int p2), .val (.int p3), .val (.int p4), .val (.int p5), .val (.int (p1 &&& (7 : Int32))), .val (.int ((1 : Int32) + ((p2 &&& (2147483647 : Int32)) % (19 : Int32)))), .val (.int ((p3 &&& (2147483647 : Int32)) % ((1 : Int32) + ((p2 &&& (2147483647 : Int32)) % (19 : Int32))))), .val (.int (j0_0 p4 p5)), .val (.ref b27), .unset, .unset, .unset, .unset, .unset, .unset] [(.int (7 : Int32)), (.int (((q0.toUInt64 >>> ((24 : Int32) &&& 0x3f).toInt64.toUInt64).toInt64).toInt32)), (.int (8 : Int32)), (.ref b27)])) _
    refine XS.iand X73.here hx rfl (hb hby at_160) rfl ?_
    show Steps p.tables e below (T73.setTop (mkF m 161 #[.val (.long q0), .second, .val (.int p1), .val (.int p2), .val (.int p3), .val (.int p4), .val (.int p5), .val (.int (p1 &&& (7 : Int32))), .val (.int ((1 : Int32) + ((p2 &&& (2147483647 : Int32)) % (19 : Int32)))), .val (.int ((p3 &&& (2147483647 : Int32)) % ((1 : Int32) + ((p2 &&& (2147483647 : Int32)) % (19 : Int32))))), .val (.int (j0_0 p4 p5)), .val (.ref b27), .unset, .unset, .unset, .unset, .unset, .unset] [(.int ((((q0.toUInt64 >>> ((24 : Int32) &&& 0x3f).toInt64.toUInt64).toInt64).toInt32) &&& (7 : Int32))), (.int (8 : Int32)), (.ref b27)])) _
    refine st79 _ ?_
    show Steps p.tables e below (T79.setTop (mkF m 162 #[.val (.long q0), .second, .val (.int p1), .val (.int p2), .val (.int p3), .val (.int p4), .val (.int p5), .val (.int (p1 &&& (7 : Int32))), .val (.int ((1 : Int32) + ((p2 &&& (2147483647 : Int32)) % (19 : Int32)))), .val (.int ((p3 &&& (2147483647 : Int32)) % ((1 : Int32) + ((p2 &&& (2147483647 : Int32)) % (19 : Int32))))), .val (.int (j0_0 p4 p5)), .val (.ref b27), .unset, .unset, .unset, .unset, .unset, .unset] [])) _
    refine XS.aload X79.here hx rfl (hb hby at_162) rfl rfl ?_
    show Steps p.tables e below (T79.setTop (mkF m 164 #[.val (.long q0), .second, .val (.int p1), .val (.int p2), .val (.int p3), .val (.int p4), .val (.int p5), .val (.int (p1 &&& (7 : Int32))), .val (.int ((1 : Int32) + ((p2 &&& (2147483647 : Int32)) % (19 : Int32)))), .val (.int ((p3 &&& (2147483647 : Int32)) % ((1 : Int32) + ((p2 &&& (2147483647 : Int32)) % (19 : Int32))))), .val (.int (j0_0 p4 p5)), .val (.ref b27), .unset, .unset, .unset, .unset, .unset, .unset] [(.ref b27)])) _
    refine XS.bipush X79.here hx rfl (hb hby at_164) ?_
    show Steps p.tables e below (T79.setTop (mkF m 166 #[.val (.long q0), .second, .val (.int p1), .val (.int p2), .val (.int p3), .val (.int p4), .val (.int p5), .val (.int (p1 &&& (7 : Int32))), .val (.int ((1 : Int32) + ((p2 &&& (2147483647 : Int32)) % (19 : Int32)))), .val (.int ((p3 &&& (2147483647 : Int32)) % ((1 : Int32) + ((p2 &&& (2147483647 : Int32)) % (19 : Int32))))), .val (.int (j0_0 p4 p5)), .val (.ref b27), .unset, .unset, .unset, .unset, .unset, .unset] [(.int (9 : Int32)), (.ref b27)])) _
    refine XS.lloadN X79.here hx rfl (hb hby at_166) rfl ?_
    show Steps p.tables e below (T79.setTop (mkF m 167 #[.val (.long q0), .second, .val (.int p1), .val (.int p2), .val (.int p3), .val (.int p4), .val (.int p5), .val (.int (p1 &&& (7 : Int32))), .val (.int ((1 : Int32) + ((p2 &&& (2147483647 : Int32)) % (19 : Int32)))), .val (.int ((p3 &&& (2147483647 : Int32)) % ((1 : Int32) + ((p2 &&& (2147483647 : Int32)) % (19 : Int32))))), .val (.int (j0_0 p4 p5)), .val (.ref b27), .unset, .unset, .unset, .unset, .unset, .unset] [(.long q0), (.int (9 : Int32)), (.ref b27)])) _
    refine XS.bipush X79.here hx rfl (hb hby at_167) ?_
    show Steps p.tables e below (T79.setTop (mkF m 169 #[.val (.long q0), .second, .val (.int p1), .val (.int p2), .val (.int p3), .val (.int p4), .val (.int p5), .val (.int (p1 &&& (7 : Int32))), .val (.int ((1 : Int32) + ((p2 &&& (2147483647 : Int32)) % (19 : Int32)))), .val (.int ((p3 &&& (2147483647 : Int32)) % ((1 : Int32) + ((p2 &&& (2147483647 : Int32)) % (19 : Int32))))), .val (.int (j0_0 p4 p5)), .val (.ref b27), .unset, .unset, .unset, .unset, .unset, .unset] [(.int (27 : Int32)), (.long q0), (.int (9 : Int32)), (.ref b27)])) _
    refine XS.lushr X79.here hx rfl (hb hby at_169) rfl ?_
    show Steps p.tables e below (T79.setTop (mkF m 170 #[.val (.long q0), .second, .val (.int p1), .val (.int p2), .val (.int p3), .val (.int p4), .val (.int p5), .val (.int (p1 &&& (7 : Int32))), .val (.int ((1 : Int32) + ((p2 &&& (2147483647 : Int32)) % (19 : Int32)))), .val (.int ((p3 &&& (2147483647 : Int32)) % ((1 : Int32) + ((p2 &&& (2147483647 : Int32)) % (19 : Int32))))), .val (.int (j0_0 p4 p5)), .val (.ref b27), .unset, .unset, .unset, .unset, .unset, .unset] [(.long ((q0.toUInt64 >>> ((27 : Int32) &&& 0x3f).toInt64.toUInt64).toInt64)), (.int (9 : Int32)), (.ref b27)])) _
    refine XS.l2i X79.here hx rfl (hb hby at_170) rfl ?_
    show Steps p.tables e below (T79.setTop (mkF m 171 #[.val (.long q0), .second, .val (.int p1), .val (.int p2), .val (.int p3), .val (.int p4), .val (.int p5), .val (.int (p1 &&& (7 : Int32))), .val (.int ((1 : Int32) + ((p2 &&& (2147483647 : Int32)) % (19 : Int32)))), .val (.int ((p3 &&& (2147483647 : Int32)) % ((1 : Int32) + ((p2 &&& (2147483647 : Int32)) % (19 : Int32))))), .val (.int (j0_0 p4 p5)), .val (.ref b27), .unset, .unset, .unset, .unset, .unset, .unset] [(.int (((q0.toUInt64 >>> ((27 : Int32) &&& 0x3f).toInt64.toUInt64).toInt64).toInt32)), (.int (9 : Int32)), (.ref b27)])) _
    refine XS.bipush X79.here hx rfl (hb hby at_171) ?_
    show Steps p.tables e below (T79.setTop (mkF m 173 #[.val (.long q0), .second, .val (.int p1), .val (.int p2), .val (.int p3), .val (.int p4), .val (.int p5), .val (.int (p1 &&& (7 : Int32))), .val (.int ((1 : Int32) + ((p2 &&& (2147483647 : Int32)) % (19 : Int32)))), .val (.int ((p3 &&& (2147483647 : Int32)) % ((1 : Int32) + ((p2 &&& (2147483647 : Int32)) % (19 : Int32))))), .val (.int (j0_0 p4 p5)), .val (.ref b27), .unset, .unset, .unset, .unset, .unset, .unset] [(.int (7 : Int32)), (.int (((q0.toUInt64 >>> ((27 : Int32) &&& 0x3f).toInt64.toUInt64).toInt64).toInt32)), (.int (9 : Int32)), (.ref b27)])) _
    refine XS.iand X79.here hx rfl (hb hby at_173) rfl ?_
    show Steps p.tables e below (T79.setTop (mkF m 174 #[.val (.long q0), .second, .val (.int p1), .val (.int p2), .val (.int p3), .val (.int p4), .val (.int p5), .val (.int (p1 &&& (7 : Int32))), .val (.int ((1 : Int32) + ((p2 &&& (2147483647 : Int32)) % (19 : Int32)))), .val (.int ((p3 &&& (2147483647 : Int32)) % ((1 : Int32) + ((p2 &&& (2147483647 : Int32)) % (19 : Int32))))), .val (.int (j0_0 p4 p5)), .val (.ref b27), .unset, .unset, .unset, .unset, .unset, .unset] [(.int ((((q0.toUInt64 >>> ((27 : Int32) &&& 0x3f).toInt64.toUInt64).toInt64).toInt32) &&& (7 : Int32))), (.int (9 : Int32)), (.ref b27)])) _
    refine st85 _ ?_
    show Steps p.tables e below (T85.setTop (mkF m 175 #[.val (.long q0), .second, .val (.int p1), .val (.int p2), .val (.int p3), .val (.int p4), .val (.int p5), .val (.int (p1 &&& (7 : Int32))), .val (.int ((1 : Int32) + ((p2 &&& (2147483647 : Int32)) % (19 : Int32)))), .val (.int ((p3 &&& (2147483647 : Int32)) % ((1 : Int32) + ((p2 &&& (2147483647 : Int32)) % (19 : Int32))))), .val (.int (j0_0 p4 p5)), .val (.ref b27), .unset, .unset, .unset, .unset, .unset, .unset] [])) _
    refine XS.aload X85.here hx rfl (hb hby at_175) rfl rfl ?_
    show Steps p.tables e below (T85.setTop (mkF m 177 #[.val (.long q0), .second, .val (.int p1), .val (.int p2), .val (.int p3), .val (.int p4), .val (.int p5), .val (.int (p1 &&& (7 : Int32))), .val (.int ((1 : Int32) + ((p2 &&& (2147483647 : Int32)) % (19 : Int32)))), .val (.int ((p3 &&& (2147483647 : Int32)) % ((1 : Int32) + ((p2 &&& (2147483647 : Int32)) % (19 : Int32))))), .val (.int (j0_0 p4 p5)), .val (.ref b27), .unset, .unset, .unset, .unset, .unset, .unset] [(.ref b27)])) _
    refine XS.bipush X85.here hx rfl (hb hby at_177) ?_
    show Steps p.tables e below (T85.setTop (mkF m 179 #[.val (.long q0), .second, .val (.int p1), .val (.int p2), .val (.int p3), .val (.int p4), .val (.int p5), .val (.int (p1 &&& (7 : Int32))), .val (.int ((1 : Int32) + ((p2 &&& (2147483647 : Int32)) % (19 : Int32)))), .val (.int ((p3 &&& (2147483647 : Int32)) % ((1 : Int32) + ((p2 &&& (2147483647 : Int32)) % (19 : Int32))))), .val (.int (j0_0 p4 p5)), .val (.ref b27), .unset, .unset, .unset, .unset, .unset, .unset] [(.int (10 : Int32)), (.ref b27)])) _
    refine XS.lloadN X85.here hx rfl (hb hby at_179) rfl ?_
    show Steps p.tables e below (T85.setTop (mkF m 180 #[.val (.long q0), .second, .val (.int p1), .val (.int p2), .val (.int p3), .val (.int p4), .val (.int p5), .val (.int (p1 &&& (7 : Int32))), .val (.int ((1 : Int32) + ((p2 &&& (2147483647 : Int32)) % (19 : Int32)))), .val (.int ((p3 &&& (2147483647 : Int32)) % ((1 : Int32) + ((p2 &&& (2147483647 : Int32)) % (19 : Int32))))), .val (.int (j0_0 p4 p5)), .val (.ref b27), .unset, .unset, .unset, .unset, .unset, .unset] [(.long q0), (.int (10 : Int32)), (.ref b27)])) _
    refine XS.bipush X85.here hx rfl (hb hby at_180) ?_
    show Steps p.tables e below (T85.setTop (mkF m 182 #[.val (.long q0), .second, .val (.int p1), .val (.int p2), .val (.int p3), .val (.int p4), .val (.int p5), .val (.int (p1 &&& (7 : Int32))), .val (.int ((1 : Int32) + ((p2 &&& (2147483647 : Int32)) % (19 : Int32)))), .val (.int ((p3 &&& (2147483647 : Int32)) % ((1 : Int32) + ((p2 &&& (2147483647 : Int32)) % (19 : Int32))))), .val (.int (j0_0 p4 p5)), .val (.ref b27), .unset, .unset, .unset, .unset, .unset, .unset] [(.int (30 : Int32)), (.long q0), (.int (10 : Int32)), (.ref b27)])) _
    refine XS.lushr X85.here hx rfl (hb hby at_182) rfl ?_
    show Steps p.tables e below (T85.setTop (mkF m 183 #[.val (.long q0), .second, .val (.int p1), .val (.int p2), .val (.int p3), .val (.int p4), .val (.int p5), .val (.int (p1 &&& (7 : Int32))), .val (.int ((1 : Int32) + ((p2 &&& (2147483647 : Int32)) % (19 : Int32)))), .val (.int ((p3 &&& (2147483647 : Int32)) % ((1 : Int32) + ((p2 &&& (2147483647 : Int32)) % (19 : Int32))))), .val (.int (j0_0 p4 p5)), .val (.ref b27), .unset, .unset, .unset, .unset, .unset, .unset] [(.long ((q0.toUInt64 >>> ((30 : Int32) &&& 0x3f).toInt64.toUInt64).toInt64)), (.int (10 : Int32)), (.ref b27)])) _
    refine XS.l2i X85.here hx rfl (hb hby at_183) rfl ?_
    show Steps p.tables e below (T85.setTop (mkF m 184 #[.val (.long q0), .second, .val (.int p1), .val (.int p2), .val (.int p3), .val (.int p4), .val (.int p5), .val (.int (p1 &&& (7 : Int32))), .val (.int ((1 : Int32) + ((p2 &&& (2147483647 : Int32)) % (19 : Int32)))), .val (.int ((p3 &&& (2147483647 : Int32)) % ((1 : Int32) + ((p2 &&& (2147483647 : Int32)) % (19 : Int32))))), .val (.int (j0_0 p4 p5)), .val (.ref b27), .unset, .unset, .unset, .unset, .unset, .unset] [(.int (((q0.toUInt64 >>> ((30 : Int32) &&& 0x3f).toInt64.toUInt64).toInt64).toInt32)), (.int (10 : Int32)), (.ref b27)])) _
    refine XS.bipush X85.here hx rfl (hb hby at_184) ?_
    show Steps p.tables e below (T85.setTop (mkF m 186 #[.val (.long q0), .second, .val (.int p1), .val (.int p2), .val (.int p3), .val (.int p4), .val (.int p5), .val (.int (p1 &&& (7 : Int32))), .val (.int ((1 : Int32) + ((p2 &&& (2147483647 : Int32)) % (19 : Int32)))), .val (.int ((p3 &&& (2147483647 : Int32)) % ((1 : Int32) + ((p2 &&& (2147483647 : Int32)) % (19 : Int32))))), .val (.int (j0_0 p4 p5)), .val (.ref b27), .unset, .unset, .unset, .unset, .unset, .unset] [(.int (7 : Int32)), (.int (((q0.toUInt64 >>> ((30 : Int32) &&& 0x3f).toInt64.toUInt64).toInt64).toInt32)), (.int (10 : Int32)), (.ref b27)])) _
    refine XS.iand X85.here hx rfl (hb hby at_186) rfl ?_
    show Steps p.tables e below (T85.setTop (mkF m 187 #[.val (.long q0), .second, .val (.int p1), .val (.int p2), .val (.int p3), .val (.int p4), .val (.int p5), .val (.int (p1 &&& (7 : Int32))), .val (.int ((1 : Int32) + ((p2 &&& (2147483647 : Int32)) % (19 : Int32)))), .val (.int ((p3 &&& (2147483647 : Int32)) % ((1 : Int32) + ((p2 &&& (2147483647 : Int32)) % (19 : Int32))))), .val (.int (j0_0 p4 p5)), .val (.ref b27), .unset, .unset, .unset, .unset, .unset, .unset] [(.int ((((q0.toUInt64 >>> ((30 : Int32) &&& 0x3f).toInt64.toUInt64).toInt64).toInt32) &&& (7 : Int32))), (.int (10 : Int32)), (.ref b27)])) _
    refine st91 _ ?_
    show Steps p.tables e below (T91.setTop (mkF m 188 #[.val (.long q0), .second, .val (.int p1), .val (.int p2), .val (.int p3), .val (.int p4), .val (.int p5), .val (.int (p1 &&& (7 : Int32))), .val (.int ((1 : Int32) + ((p2 &&& (2147483647 : Int32)) % (19 : Int32)))), .val (.int ((p3 &&& (2147483647 : Int32)) % ((1 : Int32) + ((p2 &&& (2147483647 : Int32)) % (19 : Int32))))), .val (.int (j0_0 p4 p5)), .val (.ref b27), .unset, .unset, .unset, .unset, .unset, .unset] [])) _
    refine XS.aload X91.here hx rfl (hb hby at_188) rfl rfl ?_
    show Steps p.tables e below (T91.setTop (mkF m 190 #[.val (.long q0), .second, .val (.int p1), .val (.int p2), .val (.int p3), .val (.int p4), .val (.int p5), .val (.int (p1 &&& (7 : Int32))), .val (.int ((1 : Int32) + ((p2 &&& (2147483647 : Int32)) % (19 : Int32)))), .val (.int ((p3 &&& (2147483647 : Int32)) % ((1 : Int32) + ((p2 &&& (2147483647 : Int32)) % (19 : Int32))))), .val (.int (j0_0 p4 p5)), .val (.ref b27), .unset, .unset, .unset, .unset, .unset, .unset] [(.ref b27)])) _
    refine XS.bipush X91.here hx rfl (hb hby at_190) ?_
    show Steps p.tables e below (T91.setTop (mkF m 192 #[.val (.long q0), .second, .val (.int p1), .val (.int p2), .val (.int p3), .val (.int p4), .val (.int p5), .val (.int (p1 &&& (7 : Int32))), .val (.int ((1 : Int32) + ((p2 &&& (2147483647 : Int32)) % (19 : Int32)))), .val (.int ((p3 &&& (2147483647 : Int32)) % ((1 : Int32) + ((p2 &&& (2147483647 : Int32)) % (19 : Int32))))), .val (.int (j0_0 p4 p5)), .val (.ref b27), .unset, .unset, .unset, .unset, .unset, .unset] [(.int (11 : Int32)), (.ref b27)])) _
    refine XS.lloadN X91.here hx rfl (hb hby at_192) rfl ?_
    show Steps p.tables e below (T91.setTop (mkF m 193 #[.val (.long q0), .second, .val (.int p1), .val (.int p2), .val (.int p3), .val (.int p4), .val (.int p5), .val (.int (p1 &&& (7 : Int32))), .val (.int ((1 : Int32) + ((p2 &&& (2147483647 : Int32)) % (19 : Int32)))), .val (.int ((p3 &&& (2147483647 : Int32)) % ((1 : Int32) + ((p2 &&& (2147483647 : Int32)) % (19 : Int32))))), .val (.int (j0_0 p4 p5)), .val (.ref b27), .unset, .unset, .unset, .unset, .unset, .unset] [(.long q0), (.int (11 : Int32)), (.ref b27)])) _
    refine XS.bipush X91.here hx rfl (hb hby at_193) ?_
    show Steps p.tables e below (T91.setTop (mkF m 195 #[.val (.long q0), .second, .val (.int p1), .val (.int p2), .val (.int p3), .val (.int p4), .val (.int p5), .val (.int (p1 &&& (7 : Int32))), .val (.int ((1 : Int32) + ((p2 &&& (2147483647 : Int32)) % (19 : Int32)))), .val (.int ((p3 &&& (2147483647 : Int32)) % ((1 : Int32) + ((p2 &&& (2147483647 : Int32)) % (19 : Int32))))), .val (.int (j0_0 p4 p5)), .val (.ref b27), .unset, .unset, .unset, .unset, .unset, .unset] [(.int (33 : Int32)), (.long q0), (.int (11 : Int32)), (.ref b27)])) _
    refine XS.lushr X91.here hx rfl (hb hby at_195) rfl ?_
    show Steps p.tables e below (T91.setTop (mkF m 196 #[.val (.long q0), .second, .val (.int p1), .val (.int p2), .val (.int p3), .val (.int p4), .val (.int p5), .val (.int (p1 &&& (7 : Int32))), .val (.int ((1 : Int32) + ((p2 &&& (2147483647 : Int32)) % (19 : Int32)))), .val (.int ((p3 &&& (2147483647 : Int32)) % ((1 : Int32) + ((p2 &&& (2147483647 : Int32)) % (19 : Int32))))), .val (.int (j0_0 p4 p5)), .val (.ref b27), .unset, .unset, .unset, .unset, .unset, .unset] [(.long ((q0.toUInt64 >>> ((33 : Int32) &&& 0x3f).toInt64.toUInt64).toInt64)), (.int (11 : Int32)), (.ref b27)])) _
    refine XS.l2i X91.here hx rfl (hb hby at_196) rfl ?_
    show Steps p.tables e below (T91.setTop (mkF m 197 #[.val (.long q0), .second, .val (.int p1), .val (.int p2), .val (.int p3), .val (.int p4), .val (.int p5), .val (.int (p1 &&& (7 : Int32))), .val (.int ((1 : Int32) + ((p2 &&& (2147483647 : Int32)) % (19 : Int32)))), .val (.int ((p3 &&& (2147483647 : Int32)) % ((1 : Int32) + ((p2 &&& (2147483647 : Int32)) % (19 : Int32))))), .val (.int (j0_0 p4 p5)), .val (.ref b27), .unset, .unset, .unset, .unset, .unset, .unset] [(.int (((q0.toUInt64 >>> ((33 : Int32) &&& 0x3f).toInt64.toUInt64).toInt64).toInt32)), (.int (11 : Int32)), (.ref b27)])) _
    refine XS.bipush X91.here hx rfl (hb hby at_197) ?_
    show Steps p.tables e below (T91.setTop (mkF m 199 #[.val (.long q0), .second, .val (.int p1), .val (.int p2), .val (.int p3), .val (.int p4), .val (.int p5), .val (.int (p1 &&& (7 : Int32))), .val (.int ((1 : Int32) + ((p2 &&& (2147483647 : Int32)) % (19 : Int32)))), .val (.int ((p3 &&& (2147483647 : Int32)) % ((1 : Int32) + ((p2 &&& (2147483647 : Int32)) % (19 : Int32))))), .val (.int (j0_0 p4 p5)), .val (.ref b27), .unset, .unset, .unset, .unset, .unset, .unset] [(.int (7 : Int32)), (.int (((q0.toUInt64 >>> ((33 : Int32) &&& 0x3f).toInt64.toUInt64).toInt64).toInt32)), (.int (11 : Int32)), (.ref b27)])) _
    refine XS.iand X91.here hx rfl (hb hby at_199) rfl ?_
    show Steps p.tables e below (T91.setTop (mkF m 200 #[.val (.long q0), .second, .val (.int p1), .val (.int p2), .val (.int p3), .val (.int p4), .val (.int p5), .val (.int (p1 &&& (7 : Int32))), .val (.int ((1 : Int32) + ((p2 &&& (2147483647 : Int32)) % (19 : Int32)))), .val (.int ((p3 &&& (2147483647 : Int32)) % ((1 : Int32) + ((p2 &&& (2147483647 : Int32)) % (19 : Int32))))), .val (.int (j0_0 p4 p5)), .val (.ref b27), .unset, .unset, .unset, .unset, .unset, .unset] [(.int ((((q0.toUInt64 >>> ((33 : Int32) &&& 0x3f).toInt64.toUInt64).toInt64).toInt32) &&& (7 : Int32))), (.int (11 : Int32)), (.ref b27)])) _
    refine st97 _ ?_
    show Steps p.tables e below (T97.setTop (mkF m 201 #[.val (.long q0), .second, .val (.int p1), .val (.int p2), .val (.int p3), .val (.int p4), .val (.int p5), .val (.int (p1 &&& (7 : Int32))), .val (.int ((1 : Int32) + ((p2 &&& (2147483647 : Int32)) % (19 : Int32)))), .val (.int ((p3 &&& (2147483647 : Int32)) % ((1 : Int32) + ((p2 &&& (2147483647 : Int32)) % (19 : Int32))))), .val (.int (j0_0 p4 p5)), .val (.ref b27), .unset, .unset, .unset, .unset, .unset, .unset] [])) _
    refine XS.aload X97.here hx rfl (hb hby at_201) rfl rfl ?_
    show Steps p.tables e below (T97.setTop (mkF m 203 #[.val (.long q0), .second, .val (.int p1), .val (.int p2), .val (.int p3), .val (.int p4), .val (.int p5), .val (.int (p1 &&& (7 : Int32))), .val (.int ((1 : Int32) + ((p2 &&& (2147483647 : Int32)) % (19 : Int32)))), .val (.int ((p3 &&& (2147483647 : Int32)) % ((1 : Int32) + ((p2 &&& (2147483647 : Int32)) % (19 : Int32))))), .val (.int (j0_0 p4 p5)), .val (.ref b27), .unset, .unset, .unset, .unset, .unset, .unset] [(.ref b27)])) _
    refine XS.bipush X97.here hx rfl (hb hby at_203) ?_
    show Steps p.tables e below (T97.setTop (mkF m 205 #[.val (.long q0), .second, .val (.int p1), .val (.int p2), .val (.int p3), .val (.int p4), .val (.int p5), .val (.int (p1 &&& (7 : Int32))), .val (.int ((1 : Int32) + ((p2 &&& (2147483647 : Int32)) % (19 : Int32)))), .val (.int ((p3 &&& (2147483647 : Int32)) % ((1 : Int32) + ((p2 &&& (2147483647 : Int32)) % (19 : Int32))))), .val (.int (j0_0 p4 p5)), .val (.ref b27), .unset, .unset, .unset, .unset, .unset, .unset] [(.int (12 : Int32)), (.ref b27)])) _
    refine XS.lloadN X97.here hx rfl (hb hby at_205) rfl ?_
    show Steps p.tables e below (T97.setTop (mkF m 206 #[.val (.long q0), .second, .val (.int p1), .val (.int p2), .val (.int p3), .val (.int p4), .val (.int p5), .val (.int (p1 &&& (7 : Int32))), .val (.int ((1 : Int32) + ((p2 &&& (2147483647 : Int32)) % (19 : Int32)))), .val (.int ((p3 &&& (2147483647 : Int32)) % ((1 : Int32) + ((p2 &&& (2147483647 : Int32)) % (19 : Int32))))), .val (.int (j0_0 p4 p5)), .val (.ref b27), .unset, .unset, .unset, .unset, .unset, .unset] [(.long q0), (.int (12 : Int32)), (.ref b27)])) _
    refine XS.bipush X97.here hx rfl (hb hby at_206) ?_
    show Steps p.tables e below (T97.setTop (mkF m 208 #[.val (.long q0), .second, .val (.int p1), .val (.int p2), .val (.int p3), .val (.int p4), .val (.int p5), .val (.int (p1 &&& (7 : Int32))), .val (.int ((1 : Int32) + ((p2 &&& (2147483647 : Int32)) % (19 : Int32)))), .val (.int ((p3 &&& (2147483647 : Int32)) % ((1 : Int32) + ((p2 &&& (2147483647 : Int32)) % (19 : Int32))))), .val (.int (j0_0 p4 p5)), .val (.ref b27), .unset, .unset, .unset, .unset, .unset, .unset] [(.int (36 : Int32)), (.long q0), (.int (12 : Int32)), (.ref b27)])) _
    refine XS.lushr X97.here hx rfl (hb hby at_208) rfl ?_
    show Steps p.tables e below (T97.setTop (mkF m 209 #[.val (.long q0), .second, .val (.int p1), .val (.int p2), .val (.int p3), .val (.int p4), .val (.int p5), .val (.int (p1 &&& (7 : Int32))), .val (.int ((1 : Int32) + ((p2 &&& (2147483647 : Int32)) % (19 : Int32)))), .val (.int ((p3 &&& (2147483647 : Int32)) % ((1 : Int32) + ((p2 &&& (2147483647 : Int32)) % (19 : Int32))))), .val (.int (j0_0 p4 p5)), .val (.ref b27), .unset, .unset, .unset, .unset, .unset, .unset] [(.long ((q0.toUInt64 >>> ((36 : Int32) &&& 0x3f).toInt64.toUInt64).toInt64)), (.int (12 : Int32)), (.ref b27)])) _
    refine XS.l2i X97.here hx rfl (hb hby at_209) rfl ?_
    show Steps p.tables e below (T97.setTop (mkF m 210 #[.val (.long q0), .second, .val (.int p1), .val (.int p2), .val (.int p3), .val (.int p4), .val (.int p5), .val (.int (p1 &&& (7 : Int32))), .val (.int ((1 : Int32) + ((p2 &&& (2147483647 : Int32)) % (19 : Int32)))), .val (.int ((p3 &&& (2147483647 : Int32)) % ((1 : Int32) + ((p2 &&& (2147483647 : Int32)) % (19 : Int32))))), .val (.int (j0_0 p4 p5)), .val (.ref b27), .unset, .unset, .unset, .unset, .unset, .unset] [(.int (((q0.toUInt64 >>> ((36 : Int32) &&& 0x3f).toInt64.toUInt64).toInt64).toInt32)), (.int (12 : Int32)), (.ref b27)])) _
    refine XS.bipush X97.here hx rfl (hb hby at_210) ?_
    show Steps p.tables e below (T97.setTop (mkF m 212 #[.val (.long q0), .second, .val (.int p1), .val (.int p2), .val (.int p3), .val (.int p4), .val (.int p5), .val (.int (p1 &&& (7 : Int32))), .val (.int ((1 : Int32) + ((p2 &&& (2147483647 : Int32)) % (19 : Int32)))), .val (.int ((p3 &&& (2147483647 : Int32)) % ((1 : Int32) + ((p2 &&& (2147483647 : Int32)) % (19 : Int32))))), .val (.int (j0_0 p4 p5)), .val (.ref b27), .unset, .unset, .unset, .unset, .unset, .unset] [(.int (7 : Int32)), (.int (((q0.toUInt64 >>> ((36 : Int32) &&& 0x3f).toInt64.toUInt64).toInt64).toInt32)), (.int (12 : Int32)), (.ref b27)])) _
    refine XS.iand X97.here hx rfl (hb hby at_212) rfl ?_
    show Steps p.tables e below (T97.setTop (mkF m 213 #[.val (.long q0), .second, .val (.int p1), .val (.int p2), .val (.int p3), .val (.int p4), .val (.int p5), .val (.int (p1 &&& (7 : Int32))), .val (.int ((1 : Int32) + ((p2 &&& (2147483647 : Int32)) % (19 : Int32)))), .val (.int ((p3 &&& (2147483647 : Int32)) % ((1 : Int32) + ((p2 &&& (2147483647 : Int32)) % (19 : Int32))))), .val (.int (j0_0 p4 p5)), .val (.ref b27), .unset, .unset, .unset, .unset, .unset, .unset] [(.int ((((q0.toUInt64 >>> ((36 : Int32) &&& 0x3f).toInt64.toUInt64).toInt64).toInt32) &&& (7 : Int32))), (.int (12 : Int32)), (.ref b27)])) _
    refine st103 _ ?_
    show Steps p.tables e below (T103.setTop (mkF m 214 #[.val (.long q0), .second, .val (.int p1), .val (.int p2), .val (.int p3), .val (.int p4), .val (.int p5), .val (.int (p1 &&& (7 : Int32))), .val (.int ((1 : Int32) + ((p2 &&& (2147483647 : Int32)) % (19 : Int32)))), .val (.int ((p3 &&& (2147483647 : Int32)) % ((1 : Int32) + ((p2 &&& (2147483647 : Int32)) % (19 : Int32))))), .val (.int (j0_0 p4 p5)), .val (.ref b27), .unset, .unset, .unset, .unset, .unset, .unset] [])) _
    refine XS.aload X103.here hx rfl (hb hby at_214) rfl rfl ?_
    show Steps p.tables e below (T103.setTop (mkF m 216 #[.val (.long q0), .second, .val (.int p1), .val (.int p2), .val (.int p3), .val (.int p4), .val (.int p5), .val (.int (p1 &&& (7 : Int32))), .val (.int ((1 : Int32) + ((p2 &&& (2147483647 : Int32)) % (19 : Int32)))), .val (.int ((p3 &&& (2147483647 : Int32)) % ((1 : Int32) + ((p2 &&& (2147483647 : Int32)) % (19 : Int32))))), .val (.int (j0_0 p4 p5)), .val (.ref b27), .unset, .unset, .unset, .unset, .unset, .unset] [(.ref b27)])) _
    refine XS.bipush X103.here hx rfl (hb hby at_216) ?_
    show Steps p.tables e below (T103.setTop (mkF m 218 #[.val (.long q0), .second, .val (.int p1), .val (.int p2), .val (.int p3), .val (.int p4), .val (.int p5), .val (.int (p1 &&& (7 : Int32))), .val (.int ((1 : Int32) + ((p2 &&& (2147483647 : Int32)) % (19 : Int32)))), .val (.int ((p3 &&& (2147483647 : Int32)) % ((1 : Int32) + ((p2 &&& (2147483647 : Int32)) % (19 : Int32))))), .val (.int (j0_0 p4 p5)), .val (.ref b27), .unset, .unset, .unset, .unset, .unset, .unset] [(.int (13 : Int32)), (.ref b27)])) _
    refine XS.lloadN X103.here hx rfl (hb hby at_218) rfl ?_
    show Steps p.tables e below (T103.setTop (mkF m 219 #[.val (.long q0), .second, .val (.int p1), .val (.int p2), .val (.int p3), .val (.int p4), .val (.int p5), .val (.int (p1 &&& (7 : Int32))), .val (.int ((1 : Int32) + ((p2 &&& (2147483647 : Int32)) % (19 : Int32)))), .val (.int ((p3 &&& (2147483647 : Int32)) % ((1 : Int32) + ((p2 &&& (2147483647 : Int32)) % (19 : Int32))))), .val (.int (j0_0 p4 p5)), .val (.ref b27), .unset, .unset, .unset, .unset, .unset, .unset] [(.long q0), (.int (13 : Int32)), (.ref b27)])) _
    refine XS.bipush X103.here hx rfl (hb hby at_219) ?_
    show Steps p.tables e below (T103.setTop (mkF m 221 #[.val (.long q0), .second, .val (.int p1), .val (.int p2), .val (.int p3), .val (.int p4), .val (.int p5), .val (.int (p1 &&& (7 : Int32))), .val (.int ((1 : Int32) + ((p2 &&& (2147483647 : Int32)) % (19 : Int32)))), .val (.int ((p3 &&& (2147483647 : Int32)) % ((1 : Int32) + ((p2 &&& (2147483647 : Int32)) % (19 : Int32))))), .val (.int (j0_0 p4 p5)), .val (.ref b27), .unset, .unset, .unset, .unset, .unset, .unset] [(.int (39 : Int32)), (.long q0), (.int (13 : Int32)), (.ref b27)])) _
    refine XS.lushr X103.here hx rfl (hb hby at_221) rfl ?_
    show Steps p.tables e below (T103.setTop (mkF m 222 #[.val (.long q0), .second, .val (.int p1), .val (.int p2), .val (.int p3), .val (.int p4), .val (.int p5), .val (.int (p1 &&& (7 : Int32))), .val (.int ((1 : Int32) + ((p2 &&& (2147483647 : Int32)) % (19 : Int32)))), .val (.int ((p3 &&& (2147483647 : Int32)) % ((1 : Int32) + ((p2 &&& (2147483647 : Int32)) % (19 : Int32))))), .val (.int (j0_0 p4 p5)), .val (.ref b27), .unset, .unset, .unset, .unset, .unset, .unset] [(.long ((q0.toUInt64 >>> ((39 : Int32) &&& 0x3f).toInt64.toUInt64).toInt64)), (.int (13 : Int32)), (.ref b27)])) _
    refine XS.l2i X103.here hx rfl (hb hby at_222) rfl ?_
    show Steps p.tables e below (T103.setTop (mkF m 223 #[.val (.long q0), .second, .val (.int p1), .val (.int p2), .val (.int p3), .val (.int p4), .val (.int p5), .val (.int (p1 &&& (7 : Int32))), .val (.int ((1 : Int32) + ((p2 &&& (2147483647 : Int32)) % (19 : Int32)))), .val (.int ((p3 &&& (2147483647 : Int32)) % ((1 : Int32) + ((p2 &&& (2147483647 : Int32)) % (19 : Int32))))), .val (.int (j0_0 p4 p5)), .val (.ref b27), .unset, .unset, .unset, .unset, .unset, .unset] [(.int (((q0.toUInt64 >>> ((39 : Int32) &&& 0x3f).toInt64.toUInt64).toInt64).toInt32)), (.int (13 : Int32)), (.ref b27)])) _
    refine XS.bipush X103.here hx rfl (hb hby at_223) ?_
    show Steps p.tables e below (T103.setTop (mkF m 225 #[.val (.long q0), .second, .val (.int p1), .val (.int p2), .val (.int p3), .val (.int p4), .val (.int p5), .val (.int (p1 &&& (7 : Int32))), .val (.int ((1 : Int32) + ((p2 &&& (2147483647 : Int32)) % (19 : Int32)))), .val (.int ((p3 &&& (2147483647 : Int32)) % ((1 : Int32) + ((p2 &&& (2147483647 : Int32)) % (19 : Int32))))), .val (.int (j0_0 p4 p5)), .val (.ref b27), .unset, .unset, .unset, .unset, .unset, .unset] [(.int (7 : Int32)), (.int (((q0.toUInt64 >>> ((39 : Int32) &&& 0x3f).toInt64.toUInt64).toInt64).toInt32)), (.int (13 : Int32)), (.ref b27)])) _
    refine XS.iand X103.here hx rfl (hb hby at_225) rfl ?_
    show Steps p.tables e below (T103.setTop (mkF m 226 #[.val (.long q0), .second, .val (.int p1), .val (.int p2), .val (.int p3), .val (.int p4), .val (.int p5), .val (.int (p1 &&& (7 : Int32))), .val (.int ((1 : Int32) + ((p2 &&& (2147483647 : Int32)) % (19 : Int32)))), .val (.int ((p3 &&& (2147483647 : Int32)) % ((1 : Int32) + ((p2 &&& (2147483647 : Int32)) % (19 : Int32))))), .val (.int (j0_0 p4 p5)), .val (.ref b27), .unset, .unset, .unset, .unset, .unset, .unset] [(.int ((((q0.toUInt64 >>> ((39 : Int32) &&& 0x3f).toInt64.toUInt64).toInt64).toInt32) &&& (7 : Int32))), (.int (13 : Int32)), (.ref b27)])) _
    refine st109 _ ?_
    show Steps p.tables e below (T109.setTop (mkF m 227 #[.val (.long q0), .second, .val (.int p1), .val (.int p2), .val (.int p3), .val (.int p4), .val (.int p5), .val (.int (p1 &&& (7 : Int32))), .val (.int ((1 : Int32) + ((p2 &&& (2147483647 : Int32)) % (19 : Int32)))), .val (.int ((p3 &&& (2147483647 : Int32)) % ((1 : Int32) + ((p2 &&& (2147483647 : Int32)) % (19 : Int32))))), .val (.int (j0_0 p4 p5)), .val (.ref b27), .unset, .unset, .unset, .unset, .unset, .unset] [])) _
    refine XS.aload X109.here hx rfl (hb hby at_227) rfl rfl ?_
    show Steps p.tables e below (T109.setTop (mkF m 229 #[.val (.long q0), .second, .val (.int p1), .val (.int p2), .val (.int p3), .val (.int p4), .val (.int p5), .val (.int (p1 &&& (7 : Int32))), .val (.int ((1 : Int32) + ((p2 &&& (2147483647 : Int32)) % (19 : Int32)))), .val (.int ((p3 &&& (2147483647 : Int32)) % ((1 : Int32) + ((p2 &&& (2147483647 : Int32)) % (19 : Int32))))), .val (.int (j0_0 p4 p5)), .val (.ref b27), .unset, .unset, .unset, .unset, .unset, .unset] [(.ref b27)])) _
    refine XS.bipush X109.here hx rfl (hb hby at_229) ?_
    show Steps p.tables e below (T109.setTop (mkF m 231 #[.val (.long q0), .second, .val (.int p1), .val (.int p2), .val (.int p3), .val (.int p4), .val (.int p5), .val (.int (p1 &&& (7 : Int32))), .val (.int ((1 : Int32) + ((p2 &&& (2147483647 : Int32)) % (19 : Int32)))), .val (.int ((p3 &&& (2147483647 : Int32)) % ((1 : Int32) + ((p2 &&& (2147483647 : Int32)) % (19 : Int32))))), .val (.int (j0_0 p4 p5)), .val (.ref b27), .unset, .unset, .unset, .unset, .unset, .unset] [(.int (14 : Int32)), (.ref b27)])) _
    refine XS.lloadN X109.here hx rfl (hb hby at_231) rfl ?_
    show Steps p.tables e below (T109.setTop (mkF m 232 #[.val (.long q0), .second, .val (.int p1), .val (.int p2), .val (.int p3), .val (.int p4), .val (.int p5), .val (.int (p1 &&& (7 : Int32))), .val (.int ((1 : Int32) + ((p2 &&& (2147483647 : Int32)) % (19 : Int32)))), .val (.int ((p3 &&& (2147483647 : Int32)) % ((1 : Int32) + ((p2 &&& (2147483647 : Int32)) % (19 : Int32))))), .val (.int (j0_0 p4 p5)), .val (.ref b27), .unset, .unset, .unset, .unset, .unset, .unset] [(.long q0), (.int (14 : Int32)), (.ref b27)])) _
    refine XS.bipush X109.here hx rfl (hb hby at_232) ?_
    show Steps p.tables e below (T109.setTop (mkF m 234 #[.val (.long q0), .second, .val (.int p1), .val (.int p2), .val (.int p3), .val (.int p4), .val (.int p5), .val (.int (p1 &&& (7 : Int32))), .val (.int ((1 : Int32) + ((p2 &&& (2147483647 : Int32)) % (19 : Int32)))), .val (.int ((p3 &&& (2147483647 : Int32)) % ((1 : Int32) + ((p2 &&& (2147483647 : Int32)) % (19 : Int32))))), .val (.int (j0_0 p4 p5)), .val (.ref b27), .unset, .unset, .unset, .unset, .unset, .unset] [(.int (42 : Int32)), (.long q0), (.int (14 : Int32)), (.ref b27)])) _
    refine XS.lushr X109.here hx rfl (hb hby at_234) rfl ?_
    show Steps p.tables e below (T109.setTop (mkF m 235 #[.val (.long q0), .second, .val (.int p1), .val (.int p2), .val (.int p3), .val (.int p4), .val (.int p5), .val (.int (p1 &&& (7 : Int32))), .val (.int ((1 : Int32) + ((p2 &&& (2147483647 : Int32)) % (19 : Int32)))), .val (.int ((p3 &&& (2147483647 : Int32)) % ((1 : Int32) + ((p2 &&& (2147483647 : Int32)) % (19 : Int32))))), .val (.int (j0_0 p4 p5)), .val (.ref b27), .unset, .unset, .unset, .unset, .unset, .unset] [(.long ((q0.toUInt64 >>> ((42 : Int32) &&& 0x3f).toInt64.toUInt64).toInt64)), (.int (14 : Int32)), (.ref b27)])) _
    refine XS.l2i X109.here hx rfl (hb hby at_235) rfl ?_
    show Steps p.tables e below (T109.setTop (mkF m 236 #[.val (.long q0), .second, .val (.int p1), .val (.int p2), .val (.int p3), .val (.int p4), .val (.int p5), .val (.int (p1 &&& (7 : Int32))), .val (.int ((1 : Int32) + ((p2 &&& (2147483647 : Int32)) % (19 : Int32)))), .val (.int ((p3 &&& (2147483647 : Int32)) % ((1 : Int32) + ((p2 &&& (2147483647 : Int32)) % (19 : Int32))))), .val (.int (j0_0 p4 p5)), .val (.ref b27), .unset, .unset, .unset, .unset, .unset, .unset] [(.int (((q0.toUInt64 >>> ((42 : Int32) &&& 0x3f).toInt64.toUInt64).toInt64).toInt32)), (.int (14 : Int32)), (.ref b27)])) _
    refine XS.bipush X109.here hx rfl (hb hby at_236) ?_
    show Steps p.tables e below (T109.setTop (mkF m 238 #[.val (.long q0), .second, .val (.int p1), .val (.int p2), .val (.int p3), .val (.int p4), .val (.int p5), .val (.int (p1 &&& (7 : Int32))), .val (.int ((1 : Int32) + ((p2 &&& (2147483647 : Int32)) % (19 : Int32)))), .val (.int ((p3 &&& (2147483647 : Int32)) % ((1 : Int32) + ((p2 &&& (2147483647 : Int32)) % (19 : Int32))))), .val (.int (j0_0 p4 p5)), .val (.ref b27), .unset, .unset, .unset, .unset, .unset, .unset] [(.int (7 : Int32)), (.int (((q0.toUInt64 >>> ((42 : Int32) &&& 0x3f).toInt64.toUInt64).toInt64).toInt32)), (.int (14 : Int32)), (.ref b27)])) _
    refine XS.iand X109.here hx rfl (hb hby at_238) rfl ?_
    show Steps p.tables e below (T109.setTop (mkF m 239 #[.val (.long q0), .second, .val (.int p1), .val (.int p2), .val (.int p3), .val (.int p4), .val (.int p5), .val (.int (p1 &&& (7 : Int32))), .val (.int ((1 : Int32) + ((p2 &&& (2147483647 : Int32)) % (19 : Int32)))), .val (.int ((p3 &&& (2147483647 : Int32)) % ((1 : Int32) + ((p2 &&& (2147483647 : Int32)) % (19 : Int32))))), .val (.int (j0_0 p4 p5)), .val (.ref b27), .unset, .unset, .unset, .unset, .unset, .unset] [(.int ((((q0.toUInt64 >>> ((42 : Int32) &&& 0x3f).toInt64.toUInt64).toInt64).toInt32) &&& (7 : Int32))), (.int (14 : Int32)), (.ref b27)])) _
    refine st115 _ ?_
    show Steps p.tables e below (T115.setTop (mkF m 240 #[.val (.long q0), .second, .val (.int p1), .val (.int p2), .val (.int p3), .val (.int p4), .val (.int p5), .val (.int (p1 &&& (7 : Int32))), .val (.int ((1 : Int32) + ((p2 &&& (2147483647 : Int32)) % (19 : Int32)))), .val (.int ((p3 &&& (2147483647 : Int32)) % ((1 : Int32) + ((p2 &&& (2147483647 : Int32)) % (19 : Int32))))), .val (.int (j0_0 p4 p5)), .val (.ref b27), .unset, .unset, .unset, .unset, .unset, .unset] [])) _
    refine XS.aload X115.here hx rfl (hb hby at_240) rfl rfl ?_
    show Steps p.tables e below (T115.setTop (mkF m 242 #[.val (.long q0), .second, .val (.int p1), .val (.int p2), .val (.int p3), .val (.int p4), .val (.int p5), .val (.int (p1 &&& (7 : Int32))), .val (.int ((1 : Int32) + ((p2 &&& (2147483647 : Int32)) % (19 : Int32)))), .val (.int ((p3 &&& (2147483647 : Int32)) % ((1 : Int32) + ((p2 &&& (2147483647 : Int32)) % (19 : Int32))))), .val (.int (j0_0 p4 p5)), .val (.ref b27), .unset, .unset, .unset, .unset, .unset, .unset] [(.ref b27)])) _
    refine XS.bipush X115.here hx rfl (hb hby at_242) ?_
    show Steps p.tables e below (T115.setTop (mkF m 244 #[.val (.long q0), .second, .val (.int p1), .val (.int p2), .val (.int p3), .val (.int p4), .val (.int p5), .val (.int (p1 &&& (7 : Int32))), .val (.int ((1 : Int32) + ((p2 &&& (2147483647 : Int32)) % (19 : Int32)))), .val (.int ((p3 &&& (2147483647 : Int32)) % ((1 : Int32) + ((p2 &&& (2147483647 : Int32)) % (19 : Int32))))), .val (.int (j0_0 p4 p5)), .val (.ref b27), .unset, .unset, .unset, .unset, .unset, .unset] [(.int (15 : Int32)), (.ref b27)])) _
    refine XS.lloadN X115.here hx rfl (hb hby at_244) rfl ?_
    show Steps p.tables e below (T115.setTop (mkF m 245 #[.val (.long q0), .second, .val (.int p1), .val (.int p2), .val (.int p3), .val (.int p4), .val (.int p5), .val (.int (p1 &&& (7 : Int32))), .val (.int ((1 : Int32) + ((p2 &&& (2147483647 : Int32)) % (19 : Int32)))), .val (.int ((p3 &&& (2147483647 : Int32)) % ((1 : Int32) + ((p2 &&& (2147483647 : Int32)) % (19 : Int32))))), .val (.int (j0_0 p4 p5)), .val (.ref b27), .unset, .unset, .unset, .unset, .unset, .unset] [(.long q0), (.int (15 : Int32)), (.ref b27)])) _
    refine XS.bipush X115.here hx rfl (hb hby at_245) ?_
    show Steps p.tables e below (T115.setTop (mkF m 247 #[.val (.long q0), .second, .val (.int p1), .val (.int p2), .val (.int p3), .val (.int p4), .val (.int p5), .val (.int (p1 &&& (7 : Int32))), .val (.int ((1 : Int32) + ((p2 &&& (2147483647 : Int32)) % (19 : Int32)))), .val (.int ((p3 &&& (2147483647 : Int32)) % ((1 : Int32) + ((p2 &&& (2147483647 : Int32)) % (19 : Int32))))), .val (.int (j0_0 p4 p5)), .val (.ref b27), .unset, .unset, .unset, .unset, .unset, .unset] [(.int (45 : Int32)), (.long q0), (.int (15 : Int32)), (.ref b27)])) _
    refine XS.lushr X115.here hx rfl (hb hby at_247) rfl ?_
    show Steps p.tables e below (T115.setTop (mkF m 248 #[.val (.long q0), .second, .val (.int p1), .val (.int p2), .val (.int p3), .val (.int p4), .val (.int p5), .val (.int (p1 &&& (7 : Int32))), .val (.int ((1 : Int32) + ((p2 &&& (2147483647 : Int32)) % (19 : Int32)))), .val (.int ((p3 &&& (2147483647 : Int32)) % ((1 : Int32) + ((p2 &&& (2147483647 : Int32)) % (19 : Int32))))), .val (.int (j0_0 p4 p5)), .val (.ref b27), .unset, .unset, .unset, .unset, .unset, .unset] [(.long ((q0.toUInt64 >>> ((45 : Int32) &&& 0x3f).toInt64.toUInt64).toInt64)), (.int (15 : Int32)), (.ref b27)])) _
    refine XS.l2i X115.here hx rfl (hb hby at_248) rfl ?_
    show Steps p.tables e below (T115.setTop (mkF m 249 #[.val (.long q0), .second, .val (.int p1), .val (.int p2), .val (.int p3), .val (.int p4), .val (.int p5), .val (.int (p1 &&& (7 : Int32))), .val (.int ((1 : Int32) + ((p2 &&& (2147483647 : Int32)) % (19 : Int32)))), .val (.int ((p3 &&& (2147483647 : Int32)) % ((1 : Int32) + ((p2 &&& (2147483647 : Int32)) % (19 : Int32))))), .val (.int (j0_0 p4 p5)), .val (.ref b27), .unset, .unset, .unset, .unset, .unset, .unset] [(.int (((q0.toUInt64 >>> ((45 : Int32) &&& 0x3f).toInt64.toUInt64).toInt64).toInt32)), (.int (15 : Int32)), (.ref b27)])) _
    refine XS.bipush X115.here hx rfl (hb hby at_249) ?_
    show Steps p.tables e below (T115.setTop (mkF m 251 #[.val (.long q0), .second, .val (.int p1), .val (.int p2), .val (.int p3), .val (.int p4), .val (.int p5), .val (.int (p1 &&& (7 : Int32))), .val (.int ((1 : Int32) + ((p2 &&& (2147483647 : Int32)) % (19 : Int32)))), .val (.int ((p3 &&& (2147483647 : Int32)) % ((1 : Int32) + ((p2 &&& (2147483647 : Int32)) % (19 : Int32))))), .val (.int (j0_0 p4 p5)), .val (.ref b27), .unset, .unset, .unset, .unset, .unset, .unset] [(.int (7 : Int32)), (.int (((q0.toUInt64 >>> ((45 : Int32) &&& 0x3f).toInt64.toUInt64).toInt64).toInt32)), (.int (15 : Int32)), (.ref b27)])) _
    refine XS.iand X115.here hx rfl (hb hby at_251) rfl ?_
    show Steps p.tables e below (T115.setTop (mkF m 252 #[.val (.long q0), .second, .val (.int p1), .val (.int p2), .val (.int p3), .val (.int p4), .val (.int p5), .val (.int (p1 &&& (7 : Int32))), .val (.int ((1 : Int32) + ((p2 &&& (2147483647 : Int32)) % (19 : Int32)))), .val (.int ((p3 &&& (2147483647 : Int32)) % ((1 : Int32) + ((p2 &&& (2147483647 : Int32)) % (19 : Int32))))), .val (.int (j0_0 p4 p5)), .val (.ref b27), .unset, .unset, .unset, .unset, .unset, .unset] [(.int ((((q0.toUInt64 >>> ((45 : Int32) &&& 0x3f).toInt64.toUInt64).toInt64).toInt32) &&& (7 : Int32))), (.int (15 : Int32)), (.ref b27)])) _
    refine st121 _ ?_
    show Steps p.tables e below (T121.setTop (mkF m 253 #[.val (.long q0), .second, .val (.int p1), .val (.int p2), .val (.int p3), .val (.int p4), .val (.int p5), .val (.int (p1 &&& (7 : Int32))), .val (.int ((1 : Int32) + ((p2 &&& (2147483647 : Int32)) % (19 : Int32)))), .val (.int ((p3 &&& (2147483647 : Int32)) % ((1 : Int32) + ((p2 &&& (2147483647 : Int32)) % (19 : Int32))))), .val (.int (j0_0 p4 p5)), .val (.ref b27), .unset, .unset, .unset, .unset, .unset, .unset] [])) _
    refine XS.aload X121.here hx rfl (hb hby at_253) rfl rfl ?_
    show Steps p.tables e below (T121.setTop (mkF m 255 #[.val (.long q0), .second, .val (.int p1), .val (.int p2), .val (.int p3), .val (.int p4), .val (.int p5), .val (.int (p1 &&& (7 : Int32))), .val (.int ((1 : Int32) + ((p2 &&& (2147483647 : Int32)) % (19 : Int32)))), .val (.int ((p3 &&& (2147483647 : Int32)) % ((1 : Int32) + ((p2 &&& (2147483647 : Int32)) % (19 : Int32))))), .val (.int (j0_0 p4 p5)), .val (.ref b27), .unset, .unset, .unset, .unset, .unset, .unset] [(.ref b27)])) _
    refine XS.bipush X121.here hx rfl (hb hby at_255) ?_
    show Steps p.tables e below (T121.setTop (mkF m 257 #[.val (.long q0), .second, .val (.int p1), .val (.int p2), .val (.int p3), .val (.int p4), .val (.int p5), .val (.int (p1 &&& (7 : Int32))), .val (.int ((1 : Int32) + ((p2 &&& (2147483647 : Int32)) % (19 : Int32)))), .val (.int ((p3 &&& (2147483647 : Int32)) % ((1 : Int32) + ((p2 &&& (2147483647 : Int32)) % (19 : Int32))))), .val (.int (j0_0 p4 p5)), .val (.ref b27), .unset, .unset, .unset, .unset, .unset, .unset] [(.int (16 : Int32)), (.ref b27)])) _
    refine XS.lloadN X121.here hx rfl (hb hby at_257) rfl ?_
    show Steps p.tables e below (T121.setTop (mkF m 258 #[.val (.long q0), .second, .val (.int p1), .val (.int p2), .val (.int p3), .val (.int p4), .val (.int p5), .val (.int (p1 &&& (7 : Int32))), .val (.int ((1 : Int32) + ((p2 &&& (2147483647 : Int32)) % (19 : Int32)))), .val (.int ((p3 &&& (2147483647 : Int32)) % ((1 : Int32) + ((p2 &&& (2147483647 : Int32)) % (19 : Int32))))), .val (.int (j0_0 p4 p5)), .val (.ref b27), .unset, .unset, .unset, .unset, .unset, .unset] [(.long q0), (.int (16 : Int32)), (.ref b27)])) _
    refine XS.bipush X121.here hx rfl (hb hby at_258) ?_
    show Steps p.tables e below (T121.setTop (mkF m 260 #[.val (.long q0), .second, .val (.int p1), .val (.int p2), .val (.int p3), .val (.int p4), .val (.int p5), .val (.int (p1 &&& (7 : Int32))), .val (.int ((1 : Int32) + ((p2 &&& (2147483647 : Int32)) % (19 : Int32)))), .val (.int ((p3 &&& (2147483647 : Int32)) % ((1 : Int32) + ((p2 &&& (2147483647 : Int32)) % (19 : Int32))))), .val (.int (j0_0 p4 p5)), .val (.ref b27), .unset, .unset, .unset, .unset, .unset, .unset] [(.int (48 : Int32)), (.long q0), (.int (16 : Int32)), (.ref b27)])) _
    refine XS.lushr X121.here hx rfl (hb hby at_260) rfl ?_
    show Steps p.tables e below (T121.setTop (mkF m 261 #[.val (.long q0), .second, .val (.int p1), .val (.int p2), .val (.int p3), .val (.int p4), .val (.int p5), .val (.int (p1 &&& (7 : Int32))), .val (.int ((1 : Int32) + ((p2 &&& (2147483647 : Int32)) % (19 : Int32)))), .val (.int ((p3 &&& (2147483647 : Int32)) % ((1 : Int32) + ((p2 &&& (2147483647 : Int32)) % (19 : Int32))))), .val (.int (j0_0 p4 p5)), .val (.ref b27), .unset, .unset, .unset, .unset, .unset, .unset] [(.long ((q0.toUInt64 >>> ((48 : Int32) &&& 0x3f).toInt64.toUInt64).toInt64)), (.int (16 : Int32)), (.ref b27)])) _
    refine XS.l2i X121.here hx rfl (hb hby at_261) rfl ?_
    show Steps p.tables e below (T121.setTop (mkF m 262 #[.val (.long q0), .second, .val (.int p1), .val (.int p2), .val (.int p3), .val (.int p4), .val (.int p5), .val (.int (p1 &&& (7 : Int32))), .val (.int ((1 : Int32) + ((p2 &&& (2147483647 : Int32)) % (19 : Int32)))), .val (.int ((p3 &&& (2147483647 : Int32)) % ((1 : Int32) + ((p2 &&& (2147483647 : Int32)) % (19 : Int32))))), .val (.int (j0_0 p4 p5)), .val (.ref b27), .unset, .unset, .unset, .unset, .unset, .unset] [(.int (((q0.toUInt64 >>> ((48 : Int32) &&& 0x3f).toInt64.toUInt64).toInt64).toInt32)), (.int (16 : Int32)), (.ref b27)])) _
    refine XS.bipush X121.here hx rfl (hb hby at_262) ?_
    show Steps p.tables e below (T121.setTop (mkF m 264 #[.val (.long q0), .second, .val (.int p1), .val (.int p2), .val (.int p3), .val (.int p4), .val (.int p5), .val (.int (p1 &&& (7 : Int32))), .val (.int ((1 : Int32) + ((p2 &&& (2147483647 : Int32)) % (19 : Int32)))), .val (.int ((p3 &&& (2147483647 : Int32)) % ((1 : Int32) + ((p2 &&& (2147483647 : Int32)) % (19 : Int32))))), .val (.int (j0_0 p4 p5)), .val (.ref b27), .unset, .unset, .unset, .unset, .unset, .unset] [(.int (7 : Int32)), (.int (((q0.toUInt64 >>> ((48 : Int32) &&& 0x3f).toInt64.toUInt64).toInt64).toInt32)), (.int (16 : Int32)), (.ref b27)])) _
    refine XS.iand X121.here hx rfl (hb hby at_264) rfl ?_
    show Steps p.tables e below (T121.setTop (mkF m 265 #[.val (.long q0), .second, .val (.int p1), .val (.int p2), .val (.int p3), .val (.int p4), .val (.int p5), .val (.int (p1 &&& (7 : Int32))), .val (.int ((1 : Int32) + ((p2 &&& (2147483647 : Int32)) % (19 : Int32)))), .val (.int ((p3 &&& (2147483647 : Int32)) % ((1 : Int32) + ((p2 &&& (2147483647 : Int32)) % (19 : Int32))))), .val (.int (j0_0 p4 p5)), .val (.ref b27), .unset, .unset, .unset, .unset, .unset, .unset] [(.int ((((q0.toUInt64 >>> ((48 : Int32) &&& 0x3f).toInt64.toUInt64).toInt64).toInt32) &&& (7 : Int32))), (.int (16 : Int32)), (.ref b27)])) _
    refine st127 _ ?_
    show Steps p.tables e below (T127.setTop (mkF m 266 #[.val (.long q0), .second, .val (.int p1), .val (.int p2), .val (.int p3), .val (.int p4), .val (.int p5), .val (.int (p1 &&& (7 : Int32))), .val (.int ((1 : Int32) + ((p2 &&& (2147483647 : Int32)) % (19 : Int32)))), .val (.int ((p3 &&& (2147483647 : Int32)) % ((1 : Int32) + ((p2 &&& (2147483647 : Int32)) % (19 : Int32))))), .val (.int (j0_0 p4 p5)), .val (.ref b27), .unset, .unset, .unset, .unset, .unset, .unset] [])) _
    refine XS.aload X127.here hx rfl (hb hby at_266) rfl rfl ?_
    show Steps p.tables e below (T127.setTop (mkF m 268 #[.val (.long q0), .second, .val (.int p1), .val (.int p2), .val (.int p3), .val (.int p4), .val (.int p5), .val (.int (p1 &&& (7 : Int32))), .val (.int ((1 : Int32) + ((p2 &&& (2147483647 : Int32)) % (19 : Int32)))), .val (.int ((p3 &&& (2147483647 : Int32)) % ((1 : Int32) + ((p2 &&& (2147483647 : Int32)) % (19 : Int32))))), .val (.int (j0_0 p4 p5)), .val (.ref b27), .unset, .unset, .unset, .unset, .unset, .unset] [(.ref b27)])) _
    refine XS.bipush X127.here hx rfl (hb hby at_268) ?_
    show Steps p.tables e below (T127.setTop (mkF m 270 #[.val (.long q0), .second, .val (.int p1), .val (.int p2), .val (.int p3), .val (.int p4), .val (.int p5), .val (.int (p1 &&& (7 : Int32))), .val (.int ((1 : Int32) + ((p2 &&& (2147483647 : Int32)) % (19 : Int32)))), .val (.int ((p3 &&& (2147483647 : Int32)) % ((1 : Int32) + ((p2 &&& (2147483647 : Int32)) % (19 : Int32))))), .val (.int (j0_0 p4 p5)), .val (.ref b27), .unset, .unset, .unset, .unset, .unset, .unset] [(.int (17 : Int32)), (.ref b27)])) _
    refine XS.lloadN X127.here hx rfl (hb hby at_270) rfl ?_
    show Steps p.tables e below (T127.setTop (mkF m 271 #[.val (.long q0), .second, .val (.int p1), .val (.int p2), .val (.int p3), .val (.int p4), .val (.int p5), .val (.int (p1 &&& (7 : Int32))), .val (.int ((1 : Int32) + ((p2 &&& (2147483647 : Int32)) % (19 : Int32)))), .val (.int ((p3 &&& (2147483647 : Int32)) % ((1 : Int32) + ((p2 &&& (2147483647 : Int32)) % (19 : Int32))))), .val (.int (j0_0 p4 p5)), .val (.ref b27), .unset, .unset, .unset, .unset, .unset, .unset] [(.long q0), (.int (17 : Int32)), (.ref b27)])) _
    refine XS.bipush X127.here hx rfl (hb hby at_271) ?_
    show Steps p.tables e below (T127.setTop (mkF m 273 #[.val (.long q0), .second, .val (.int p1), .val (.int p2), .val (.int p3), .val (.int p4), .val (.int p5), .val (.int (p1 &&& (7 : Int32))), .val (.int ((1 : Int32) + ((p2 &&& (2147483647 : Int32)) % (19 : Int32)))), .val (.int ((p3 &&& (2147483647 : Int32)) % ((1 : Int32) + ((p2 &&& (2147483647 : Int32)) % (19 : Int32))))), .val (.int (j0_0 p4 p5)), .val (.ref b27), .unset, .unset, .unset, .unset, .unset, .unset] [(.int (51 : Int32)), (.long q0), (.int (17 : Int32)), (.ref b27)])) _
    refine XS.lushr X127.here hx rfl (hb hby at_273) rfl ?_
    show Steps p.tables e below (T127.setTop (mkF m 274 #[.val (.long q0), .second, .val (.int p1), .val (.int p2), .val (.int p3), .val (.int p4), .val (.int p5), .val (.int (p1 &&& (7 : Int32))), .val (.int ((1 : Int32) + ((p2 &&& (2147483647 : Int32)) % (19 : Int32)))), .val (.int ((p3 &&& (2147483647 : Int32)) % ((1 : Int32) + ((p2 &&& (2147483647 : Int32)) % (19 : Int32))))), .val (.int (j0_0 p4 p5)), .val (.ref b27), .unset, .unset, .unset, .unset, .unset, .unset] [(.long ((q0.toUInt64 >>> ((51 : Int32) &&& 0x3f).toInt64.toUInt64).toInt64)), (.int (17 : Int32)), (.ref b27)])) _
    refine XS.l2i X127.here hx rfl (hb hby at_274) rfl ?_
    show Steps p.tables e below (T127.setTop (mkF m 275 #[.val (.long q0), .second, .val (.int p1), .val (.int p2), .val (.int p3), .val (.int p4), .val (.int p5), .val (.int (p1 &&& (7 : Int32))), .val (.int ((1 : Int32) + ((p2 &&& (2147483647 : Int32)) % (19 : Int32)))), .val (.int ((p3 &&& (2147483647 : Int32)) % ((1 : Int32) + ((p2 &&& (2147483647 : Int32)) % (19 : Int32))))), .val (.int (j0_0 p4 p5)), .val (.ref b27), .unset, .unset, .unset, .unset, .unset, .unset] [(.int (((q0.toUInt64 >>> ((51 : Int32) &&& 0x3f).toInt64.toUInt64).toInt64).toInt32)), (.int (17 : Int32)), (.ref b27)])) _
    refine XS.bipush X127.here hx rfl (hb hby at_275) ?_
    show Steps p.tables e below (T127.setTop (mkF m 277 #[.val (.long q0), .second, .val (.int p1), .val (.int p2), .val (.int p3), .val (.int p4), .val (.int p5), .val (.int (p1 &&& (7 : Int32))), .val (.int ((1 : Int32) + ((p2 &&& (2147483647 : Int32)) % (19 : Int32)))), .val (.int ((p3 &&& (2147483647 : Int32)) % ((1 : Int32) + ((p2 &&& (2147483647 : Int32)) % (19 : Int32))))), .val (.int (j0_0 p4 p5)), .val (.ref b27), .unset, .unset, .unset, .unset, .unset, .unset] [(.int (7 : Int32)), (.int (((q0.toUInt64 >>> ((51 : Int32) &&& 0x3f).toInt64.toUInt64).toInt64).toInt32)), (.int (17 : Int32)), (.ref b27)])) _
    refine XS.iand X127.here hx rfl (hb hby at_277) rfl ?_
    show Steps p.tables e below (T127.setTop (mkF m 278 #[.val (.long q0), .second, .val (.int p1), .val (.int p2), .val (.int p3), .val (.int p4), .val (.int p5), .val (.int (p1 &&& (7 : Int32))), .val (.int ((1 : Int32) + ((p2 &&& (2147483647 : Int32)) % (19 : Int32)))), .val (.int ((p3 &&& (2147483647 : Int32)) % ((1 : Int32) + ((p2 &&& (2147483647 : Int32)) % (19 : Int32))))), .val (.int (j0_0 p4 p5)), .val (.ref b27), .unset, .unset, .unset, .unset, .unset, .unset] [(.int ((((q0.toUInt64 >>> ((51 : Int32) &&& 0x3f).toInt64.toUInt64).toInt64).toInt32) &&& (7 : Int32))), (.int (17 : Int32)), (.ref b27)])) _
    refine st133 _ ?_
    show Steps p.tables e below (T133.setTop (mkF m 279 #[.val (.long q0), .second, .val (.int p1), .val (.int p2), .val (.int p3), .val (.int p4), .val (.int p5), .val (.int (p1 &&& (7 : Int32))), .val (.int ((1 : Int32) + ((p2 &&& (2147483647 : Int32)) % (19 : Int32)))), .val (.int ((p3 &&& (2147483647 : Int32)) % ((1 : Int32) + ((p2 &&& (2147483647 : Int32)) % (19 : Int32))))), .val (.int (j0_0 p4 p5)), .val (.ref b27), .unset, .unset, .unset, .unset, .unset, .unset] [])) _
    refine XS.aload X133.here hx rfl (hb hby at_279) rfl rfl ?_
    show Steps p.tables e below (T133.setTop (mkF m 281 #[.val (.long q0), .second, .val (.int p1), .val (.int p2), .val (.int p3), .val (.int p4), .val (.int p5), .val (.int (p1 &&& (7 : Int32))), .val (.int ((1 : Int32) + ((p2 &&& (2147483647 : Int32)) % (19 : Int32)))), .val (.int ((p3 &&& (2147483647 : Int32)) % ((1 : Int32) + ((p2 &&& (2147483647 : Int32)) % (19 : Int32))))), .val (.int (j0_0 p4 p5)), .val (.ref b27), .unset, .unset, .unset, .unset, .unset, .unset] [(.ref b27)])) _
    refine XS.bipush X133.here hx rfl (hb hby at_281) ?_
    show Steps p.tables e below (T133.setTop (mkF m 283 #[.val (.long q0), .second, .val (.int p1), .val (.int p2), .val (.int p3), .val (.int p4), .val (.int p5), .val (.int (p1 &&& (7 : Int32))), .val (.int ((1 : Int32) + ((p2 &&& (2147483647 : Int32)) % (19 : Int32)))), .val (.int ((p3 &&& (2147483647 : Int32)) % ((1 : Int32) + ((p2 &&& (2147483647 : Int32)) % (19 : Int32))))), .val (.int (j0_0 p4 p5)), .val (.ref b27), .unset, .unset, .unset, .unset, .unset, .unset] [(.int (18 : Int32)), (.ref b27)])) _
    refine XS.lloadN X133.here hx rfl (hb hby at_283) rfl ?_
    show Steps p.tables e below (T133.setTop (mkF m 284 #[.val (.long q0), .second, .val (.int p1), .val (.int p2), .val (.int p3), .val (.int p4), .val (.int p5), .val (.int (p1 &&& (7 : Int32))), .val (.int ((1 : Int32) + ((p2 &&& (2147483647 : Int32)) % (19 : Int32)))), .val (.int ((p3 &&& (2147483647 : Int32)) % ((1 : Int32) + ((p2 &&& (2147483647 : Int32)) % (19 : Int32))))), .val (.int (j0_0 p4 p5)), .val (.ref b27), .unset, .unset, .unset, .unset, .unset, .unset] [(.long q0), (.int (18 : Int32)), (.ref b27)])) _
    refine XS.bipush X133.here hx rfl (hb hby at_284) ?_
    show Steps p.tables e below (T133.setTop (mkF m 286 #[.val (.long q0), .second, .val (.int p1), .val (.int p2), .val (.int p3), .val (.int p4), .val (.int p5), .val (.int (p1 &&& (7 : Int32))), .val (.int ((1 : Int32) + ((p2 &&& (2147483647 : Int32)) % (19 : Int32)))), .val (.int ((p3 &&& (2147483647 : Int32)) % ((1 : Int32) + ((p2 &&& (2147483647 : Int32)) % (19 : Int32))))), .val (.int (j0_0 p4 p5)), .val (.ref b27), .unset, .unset, .unset, .unset, .unset, .unset] [(.int (54 : Int32)), (.long q0), (.int (18 : Int32)), (.ref b27)])) _
    refine XS.lushr X133.here hx rfl (hb hby at_286) rfl ?_
    show Steps p.tables e below (T133.setTop (mkF m 287 #[.val (.long q0), .second, .val (.int p1), .val (.int p2), .val (.int p3), .val (.int p4), .val (.int p5), .val (.int (p1 &&& (7 : Int32))), .val (.int ((1 : Int32) + ((p2 &&& (2147483647 : Int32)) % (19 : Int32)))), .val (.int ((p3 &&& (2147483647 : Int32)) % ((1 : Int32) + ((p2 &&& (2147483647 : Int32)) % (19 : Int32))))), .val (.int (j0_0 p4 p5)), .val (.ref b27), .unset, .unset, .unset, .unset, .unset, .unset] [(.long ((q0.toUInt64 >>> ((54 : Int32) &&& 0x3f).toInt64.toUInt64).toInt64)), (.int (18 : Int32)), (.ref b27)])) _
    refine XS.l2i X133.here hx rfl (hb hby at_287) rfl ?_
    show Steps p.tables e below (T133.setTop (mkF m 288 #[.val (.long q0), .second, .val (.int p1), .val (.int p2), .val (.int p3), .val (.int p4), .val (.int p5), .val (.int (p1 &&& (7 : Int32))), .val (.int ((1 : Int32) + ((p2 &&& (2147483647 : Int32)) % (19 : Int32)))), .val (.int ((p3 &&& (2147483647 : Int32)) % ((1 : Int32) + ((p2 &&& (2147483647 : Int32)) % (19 : Int32))))), .val (.int (j0_0 p4 p5)), .val (.ref b27), .unset, .unset, .unset, .unset, .unset, .unset] [(.int (((q0.toUInt64 >>> ((54 : Int32) &&& 0x3f).toInt64.toUInt64).toInt64).toInt32)), (.int (18 : Int32)), (.ref b27)])) _
    refine XS.bipush X133.here hx rfl (hb hby at_288) ?_
    show Steps p.tables e below (T133.setTop (mkF m 290 #[.val (.long q0), .second, .val (.int p1), .val (.int p2), .val (.int p3), .val (.int p4), .val (.int p5), .val (.int (p1 &&& (7 : Int32))), .val (.int ((1 : Int32) + ((p2 &&& (2147483647 : Int32)) % (19 : Int32)))), .val (.int ((p3 &&& (2147483647 : Int32)) % ((1 : Int32) + ((p2 &&& (2147483647 : Int32)) % (19 : Int32))))), .val (.int (j0_0 p4 p5)), .val (.ref b27), .unset, .unset, .unset, .unset, .unset, .unset] [(.int (7 : Int32)), (.int (((q0.toUInt64 >>> ((54 : Int32) &&& 0x3f).toInt64.toUInt64).toInt64).toInt32)), (.int (18 : Int32)), (.ref b27)])) _
    refine XS.iand X133.here hx rfl (hb hby at_290) rfl ?_
    show Steps p.tables e below (T133.setTop (mkF m 291 #[.val (.long q0), .second, .val (.int p1), .val (.int p2), .val (.int p3), .val (.int p4), .val (.int p5), .val (.int (p1 &&& (7 : Int32))), .val (.int ((1 : Int32) + ((p2 &&& (2147483647 : Int32)) % (19 : Int32)))), .val (.int ((p3 &&& (2147483647 : Int32)) % ((1 : Int32) + ((p2 &&& (2147483647 : Int32)) % (19 : Int32))))), .val (.int (j0_0 p4 p5)), .val (.ref b27), .unset, .unset, .unset, .unset, .unset, .unset] [(.int ((((q0.toUInt64 >>> ((54 : Int32) &&& 0x3f).toInt64.toUInt64).toInt64).toInt32) &&& (7 : Int32))), (.int (18 : Int32)), (.ref b27)])) _
    refine st139 _ ?_
    show Steps p.tables e below (T139.setTop (mkF m 292 #[.val (.long q0), .second, .val (.int p1), .val (.int p2), .val (.int p3), .val (.int p4), .val (.int p5), .val (.int (p1 &&& (7 : Int32))), .val (.int ((1 : Int32) + ((p2 &&& (2147483647 : Int32)) % (19 : Int32)))), .val (.int ((p3 &&& (2147483647 : Int32)) % ((1 : Int32) + ((p2 &&& (2147483647 : Int32)) % (19 : Int32))))), .val (.int (j0_0 p4 p5)), .val (.ref b27), .unset, .unset, .unset, .unset, .unset, .unset] [])) _
    refine XS.iload X139.here hx rfl (hb hby at_292) rfl ?_
    show Steps p.tables e below (T139.setTop (mkF m 294 #[.val (.long q0), .second, .val (.int p1), .val (.int p2), .val (.int p3), .val (.int p4), .val (.int p5), .val (.int (p1 &&& (7 : Int32))), .val (.int ((1 : Int32) + ((p2 &&& (2147483647 : Int32)) % (19 : Int32)))), .val (.int ((p3 &&& (2147483647 : Int32)) % ((1 : Int32) + ((p2 &&& (2147483647 : Int32)) % (19 : Int32))))), .val (.int (j0_0 p4 p5)), .val (.ref b27), .unset, .unset, .unset, .unset, .unset, .unset] [(.int (p1 &&& (7 : Int32)))])) _
    refine XS.aload X139.here hx rfl (hb hby at_294) rfl rfl ?_
    show Steps p.tables e below (T139.setTop (mkF m 296 #[.val (.long q0), .second, .val (.int p1), .val (.int p2), .val (.int p3), .val (.int p4), .val (.int p5), .val (.int (p1 &&& (7 : Int32))), .val (.int ((1 : Int32) + ((p2 &&& (2147483647 : Int32)) % (19 : Int32)))), .val (.int ((p3 &&& (2147483647 : Int32)) % ((1 : Int32) + ((p2 &&& (2147483647 : Int32)) % (19 : Int32))))), .val (.int (j0_0 p4 p5)), .val (.ref b27), .unset, .unset, .unset, .unset, .unset, .unset] [(.ref b27), (.int (p1 &&& (7 : Int32)))])) _
    refine XS.iload X139.here hx rfl (hb hby at_296) rfl ?_
    show Steps p.tables e below (T139.setTop (mkF m 298 #[.val (.long q0), .second, .val (.int p1), .val (.int p2), .val (.int p3), .val (.int p4), .val (.int p5), .val (.int (p1 &&& (7 : Int32))), .val (.int ((1 : Int32) + ((p2 &&& (2147483647 : Int32)) % (19 : Int32)))), .val (.int ((p3 &&& (2147483647 : Int32)) % ((1 : Int32) + ((p2 &&& (2147483647 : Int32)) % (19 : Int32))))), .val (.int (j0_0 p4 p5)), .val (.ref b27), .unset, .unset, .unset, .unset, .unset, .unset] [(.int ((1 : Int32) + ((p2 &&& (2147483647 : Int32)) % (19 : Int32)))), (.ref b27), (.int (p1 &&& (7 : Int32)))])) _
    refine st144 _ ?_
    show Steps p.tables e below (T144.setTop (mkF m 301 #[.val (.long q0), .second, .val (.int p1), .val (.int p2), .val (.int p3), .val (.int p4), .val (.int p5), .val (.int (p1 &&& (7 : Int32))), .val (.int ((1 : Int32) + ((p2 &&& (2147483647 : Int32)) % (19 : Int32)))), .val (.int ((p3 &&& (2147483647 : Int32)) % ((1 : Int32) + ((p2 &&& (2147483647 : Int32)) % (19 : Int32))))), .val (.int (j0_0 p4 p5)), .val (.ref b27), .unset, .unset, .unset, .unset, .unset, .unset] [(.long (v1 (p1 &&& (7 : Int32)) ((1 : Int32) + ((p2 &&& (2147483647 : Int32)) % (19 : Int32))) (own_xs q0)))])) _
    refine XS.lstore X144.here hx rfl (hb hby at_301) rfl (l' := #[.val (.long q0), .second, .val (.int p1), .val (.int p2), .val (.int p3), .val (.int p4), .val (.int p5), .val (.int (p1 &&& (7 : Int32))), .val (.int ((1 : Int32) + ((p2 &&& (2147483647 : Int32)) % (19 : Int32)))), .val (.int ((p3 &&& (2147483647 : Int32)) % ((1 : Int32) + ((p2 &&& (2147483647 : Int32)) % (19 : Int32))))), .val (.int (j0_0 p4 p5)), .val (.ref b27), .val (.long (v1 (p1 &&& (7 : Int32)) ((1 : Int32) + ((p2 &&& (2147483647 : Int32)) % (19 : Int32))) (own_xs q0))), .second, .unset, .unset, .unset, .unset]) rfl ?_
    show Steps p.tables e below (T144.setTop (mkF m 303 #[.val (.long q0), .second, .val (.int p1), .val (.int p2), .val (.int p3), .val (.int p4), .val (.int p5), .val (.int (p1 &&& (7 : Int32))), .val (.int ((1 : Int32) + ((p2 &&& (2147483647 : Int32)) % (19 : Int32)))), .val (.int ((p3 &&& (2147483647 : Int32)) % ((1 : Int32) + ((p2 &&& (2147483647 : Int32)) % (19 : Int32))))), .val (.int (j0_0 p4 p5)), .val (.ref b27), .val (.long (v1 (p1 &&& (7 : Int32)) ((1 : Int32) + ((p2 &&& (2147483647 : Int32)) % (19 : Int32))) (own_xs q0))), .second, .unset, .unset, .unset, .unset] [])) _
    refine XS.lload X144.here hx rfl (hb hby at_303) rfl ?_
    show Steps p.tables e below (T144.setTop (mkF m 305 #[.val (.long q0), .second, .val (.int p1), .val (.int p2), .val (.int p3), .val (.int p4), .val (.int p5), .val (.int (p1 &&& (7 : Int32))), .val (.int ((1 : Int32) + ((p2 &&& (2147483647 : Int32)) % (19 : Int32)))), .val (.int ((p3 &&& (2147483647 : Int32)) % ((1 : Int32) + ((p2 &&& (2147483647 : Int32)) % (19 : Int32))))), .val (.int (j0_0 p4 p5)), .val (.ref b27), .val (.long (v1 (p1 &&& (7 : Int32)) ((1 : Int32) + ((p2 &&& (2147483647 : Int32)) % (19 : Int32))) (own_xs q0))), .second, .unset, .unset, .unset, .unset] [(.long (v1 (p1 &&& (7 : Int32)) ((1 : Int32) + ((p2 &&& (2147483647 : Int32)) % (19 : Int32))) (own_xs q0)))])) _
    refine X144.ldc2Long hx hown (mvT hZ (hw _ (List.mem_of_getElem? (i := 6) rfl))) (g := (mkF m 305 #[.val (.long q0), .second, .val (.int p1), .val (.int p2), .val (.int p3), .val (.int p4), .val (.int p5), .val (.int (p1 &&& (7 : Int32))), .val (.int ((1 : Int32) + ((p2 &&& (2147483647 : Int32)) % (19 : Int32)))), .val (.int ((p3 &&& (2147483647 : Int32)) % ((1 : Int32) + ((p2 &&& (2147483647 : Int32)) % (19 : Int32))))), .val (.int (j0_0 p4 p5)), .val (.ref b27), .val (.long (v1 (p1 &&& (7 : Int32)) ((1 : Int32) + ((p2 &&& (2147483647 : Int32)) % (19 : Int32))) (own_xs q0))), .second, .unset, .unset, .unset, .unset] [(.long (v1 (p1 &&& (7 : Int32)) ((1 : Int32) + ((p2 &&& (2147483647 : Int32)) % (19 : Int32))) (own_xs q0)))])) rfl (hb hby at_305) _ ?_
    show Steps p.tables e below (T144.setTop (mkF m 308 #[.val (.long q0), .second, .val (.int p1), .val (.int p2), .val (.int p3), .val (.int p4), .val (.int p5), .val (.int (p1 &&& (7 : Int32))), .val (.int ((1 : Int32) + ((p2 &&& (2147483647 : Int32)) % (19 : Int32)))), .val (.int ((p3 &&& (2147483647 : Int32)) % ((1 : Int32) + ((p2 &&& (2147483647 : Int32)) % (19 : Int32))))), .val (.int (j0_0 p4 p5)), .val (.ref b27), .val (.long (v1 (p1 &&& (7 : Int32)) ((1 : Int32) + ((p2 &&& (2147483647 : Int32)) % (19 : Int32))) (own_xs q0))), .second, .unset, .unset, .unset, .unset] [(.long (-1 : Int64)), (.long (v1 (p1 &&& (7 : Int32)) ((1 : Int32) + ((p2 &&& (2147483647 : Int32)) % (19 : Int32))) (own_xs q0)))])) _
    refine XS.lcmp X144.here hx rfl (hb hby at_308) rfl ?_
    exact k)
  by_cases hc145 : (v1 (p1 &&& (7 : Int32)) ((1 : Int32) + ((p2 &&& (2147483647 : Int32)) % (19 : Int32))) (own_xs q0)) = (-1 : Int64)
  · skip
    obtain ⟨fs, hr, hrun, hended, hW, hsame⟩ := X144.leave (v := some (.int (0 : Int32))) (fun h => by rw [Bd.returns] at h; cases h)
    refine ⟨_, _, pre146 _ ?_, hrun, hended, _, _, rfl, ?_, ⟨_, rfl⟩, hW, hsame.mono (by decide) (by decide)⟩
    · skip
      show Steps p.tables e below (T144.setTop (mkF m 309 #[.val (.long q0), .second, .val (.int p1), .val (.int p2), .val (.int p3), .val (.int p4), .val (.int p5), .val (.int (p1 &&& (7 : Int32))), .val (.int ((1 : Int32) + ((p2 &&& (2147483647 : Int32)) % (19 : Int32)))), .val (.int ((p3 &&& (2147483647 : Int32)) % ((1 : Int32) + ((p2 &&& (2147483647 : Int32)) % (19 : Int32))))), .val (.int (j0_0 p4 p5)), .val (.ref b27), .val (.long (v1 (p1 &&& (7 : Int32)) ((1 : Int32) + ((p2 &&& (2147483647 : Int32)) % (19 : Int32))) (own_xs q0))), .second, .unset, .unset, .unset, .unset] [(.int (lcmpW (v1 (p1 &&& (7 : Int32)) ((1 : Int32) + ((p2 &&& (2147483647 : Int32)) % (19 : Int32))) (own_xs q0)) (-1 : Int64)))])) _
      refine XS.ifNo X144.here hx rfl (hb hby at_309) rfl ((if0 _ _).trans (teq ((own_eq (v1 (p1 &&& (7 : Int32)) ((1 : Int32) + ((p2 &&& (2147483647 : Int32)) % (19 : Int32))) (own_xs q0)) (-1 : Int64)).mpr hc145)).2) ?_
      show Steps p.tables e below (T144.setTop (mkF m 312 #[.val (.long q0), .second, .val (.int p1), .val (.int p2), .val (.int p3), .val (.int p4), .val (.int p5), .val (.int (p1 &&& (7 : Int32))), .val (.int ((1 : Int32) + ((p2 &&& (2147483647 : Int32)) % (19 : Int32)))), .val (.int ((p3 &&& (2147483647 : Int32)) % ((1 : Int32) + ((p2 &&& (2147483647 : Int32)) % (19 : Int32))))), .val (.int (j0_0 p4 p5)), .val (.ref b27), .val (.long (v1 (p1 &&& (7 : Int32)) ((1 : Int32) + ((p2 &&& (2147483647 : Int32)) % (19 : Int32))) (own_xs q0))), .second, .unset, .unset, .unset, .unset] [])) _
      refine XS.iconst X144.here hx rfl (hb hby at_312) ?_
      show Steps p.tables e below (T144.setTop (mkF m 313 #[.val (.long q0), .second, .val (.int p1), .val (.int p2), .val (.int p3), .val (.int p4), .val (.int p5), .val (.int (p1 &&& (7 : Int32))), .val (.int ((1 : Int32) + ((p2 &&& (2147483647 : Int32)) % (19 : Int32)))), .val (.int ((p3 &&& (2147483647 : Int32)) % ((1 : Int32) + ((p2 &&& (2147483647 : Int32)) % (19 : Int32))))), .val (.int (j0_0 p4 p5)), .val (.ref b27), .val (.long (v1 (p1 &&& (7 : Int32)) ((1 : Int32) + ((p2 &&& (2147483647 : Int32)) % (19 : Int32))) (own_xs q0))), .second, .unset, .unset, .unset, .unset] [(.int (0 : Int32))])) _
      exact retN X144 hx (t := .boolean) Bd.returns (by simp) (hb hby at_313) hr
    · show Q0 Z q0 p1 p2 p3 p4 p5 h0 n0 _ T144.heap _
      rw [e144]
      have hv : (0 : Int32) = (v0 q0 p1 p2 p3 p4 p5) := by first | exact (if_pos hc145).symm | (unfold v0; first | (rw [if_pos hc145]) | (simp only [if_pos hc145]))
      exact ⟨(by rw [← hv]), N144⟩
  · skip
    obtain ⟨cl147, Ar147, q147, S147, M147, H147, G147⟩ := id Vx143
    have hin148 : ¬ (((p3 &&& (2147483647 : Int32)) % ((1 : Int32) + ((p2 &&& (2147483647 : Int32)) % (19 : Int32)))) < 0 ∨ cl147.slots.size ≤ (((p3 &&& (2147483647 : Int32)) % ((1 : Int32) + ((p2 &&& (2147483647 : Int32)) % (19 : Int32))))).toNatClampNeg) := inb_of S147 (own_sb p3 p2)
    obtain ⟨T149, h149, X149, e149, W149, st149⟩ := stI X144 hx hZ e144 Ar147 (j := ((p3 &&& (2147483647 : Int32)) % ((1 : Int32) + ((p2 &&& (2147483647 : Int32)) % (19 : Int32))))) hin148 (g := (mkF m 320 #[.val (.long q0), .second, .val (.int p1), .val (.int p2), .val (.int p3), .val (.int p4), .val (.int p5), .val (.int (p1 &&& (7 : Int32))), .val (.int ((1 : Int32) + ((p2 &&& (2147483647 : Int32)) % (19 : Int32)))), .val (.int ((p3 &&& (2147483647 : Int32)) % ((1 : Int32) + ((p2 &&& (2147483647 : Int32)) % (19 : Int32))))), .val (.int (j0_0 p4 p5)), .val (.ref b27), .val (.long (v1 (p1 &&& (7 : Int32)) ((1 : Int32) + ((p2 &&& (2147483647 : Int32)) % (19 : Int32))) (own_xs q0))), .second, .unset, .unset, .unset, .unset] [(.int (j0_0 p4 p5)), (.int ((p3 &&& (2147483647 : Int32)) % ((1 : Int32) + ((p2 &&& (2147483647 : Int32)) % (19 : Int32))))), (.ref b27)])) rfl rfl (hb hby at_320)
    have V149 : Arv Z h149 b27 k27 .int (19 : Int32) (((own_xs q0).set ((p3 &&& (2147483647 : Int32)) % ((1 : Int32) + ((p2 &&& (2147483647 : Int32)) % (19 : Int32)))).toNatClampNeg (j0_0 p4 p5)).map Value.int) (.int (0 : Int32)) := by rw [List.map_set]; exact Arv.set Ar147 q147 S147 M147 H147 G147 rfl W149 _ rfl (own_sn p3 p2)
    have Z151 := Nat.le_trans Z141 (Keep.of_wr W149).1
    have N152 := Fr.snoc X149 N144 g_b27
    obtain ⟨_, _, ⟨T153, L153, k153, n153⟩, -, X153, ⟨Lc153, hQ153, l153, y153, z153⟩, st153⟩ := Jvm.LawKit.callS X149 hx (y := (⟨"com/example/dedlock/dedlock/csp/StateTable", "key", "(I[II)J"⟩ : MethodName)) hown (mvT hZ (hw _ (List.mem_of_getElem? (i := 2) rfl))) (mvT hZ (hw _ (List.mem_of_getElem? (i := 3) rfl))) (mvT hZ (hw _ (List.mem_of_getElem? (i := 4) rfl))) (mvT hZ (hw _ (List.mem_of_getElem? (i := 5) rfl))) (by decide) (backOf (W := 0) (rm1 l Z aw hw [] ((p1 &&& (7 : Int32))) b27 (((1 : Int32) + ((p2 &&& (2147483647 : Int32)) % (19 : Int32)))) (((own_xs q0).set ((p3 &&& (2147483647 : Int32)) % ((1 : Int32) + ((p2 &&& (2147483647 : Int32)) % (19 : Int32)))).toNatClampNeg (j0_0 p4 p5))) k27 h149 n0 Z151 V149 (own_n0 p2) (own_n19 p2)) hZ (hw _ (List.mem_of_getElem? (i := 5) rfl)) (hw _ (List.mem_of_getElem? (i := 4) rfl)) (by decide) (by decide)) (g := (mkF m 327 #[.val (.long q0), .second, .val (.int p1), .val (.int p2), .val (.int p3), .val (.int p4), .val (.int p5), .val (.int (p1 &&& (7 : Int32))), .val (.int ((1 : Int32) + ((p2 &&& (2147483647 : Int32)) % (19 : Int32)))), .val (.int ((p3 &&& (2147483647 : Int32)) % ((1 : Int32) + ((p2 &&& (2147483647 : Int32)) % (19 : Int32))))), .val (.int (j0_0 p4 p5)), .val (.ref b27), .val (.long (v1 (p1 &&& (7 : Int32)) ((1 : Int32) + ((p2 &&& (2147483647 : Int32)) % (19 : Int32))) (own_xs q0))), .second, .unset, .unset, .unset, .unset] [(.int ((1 : Int32) + ((p2 &&& (2147483647 : Int32)) % (19 : Int32)))), (.ref b27), (.int (p1 &&& (7 : Int32)))])) rfl (by rw [hml]; rfl) (argsL := [(.int (p1 &&& (7 : Int32))), (.ref b27), (.int ((1 : Int32) + ((p2 &&& (2147483647 : Int32)) % (19 : Int32))))]) (rest := []) (lenOf pd_1 rfl) rfl (by show 2 * 0 + _ ≤ _; exact Nat.le_of_eq rfl) (hb hby at_327) (fun _ _ => ⟨rfl, e149, (by decide : 1 + 0 ≤ _), (by decide : 19 + 0 ≤ _)⟩)
    dsimp only [Pt.U, Pt.locs, Pt.cells, Pt.slots] at X153 l153 y153 z153 st153 hQ153
    replace l153 := l153.symm
    subst l153 y153 z153
    obtain ⟨rfl, N153q, e153⟩ := hQ153
    have N153 := Fr.app N152 N153q
    obtain ⟨_, _, ⟨T154, L154, k154, n154⟩, -, X154, ⟨Lc154, hQ154, l154, y154, z154⟩, st154⟩ := Jvm.LawKit.callS X153 hx (y := (⟨"com/example/dedlock/dedlock/csp/StateTable", "changed", "(JII)J"⟩ : MethodName)) hown (mvT hZ (hw _ (List.mem_of_getElem? (i := 7) rfl))) (mvT hZ (hw _ (List.mem_of_getElem? (i := 8) rfl))) (mvT hZ (hw _ (List.mem_of_getElem? (i := 4) rfl))) (mvT hZ (hw _ (List.mem_of_getElem? (i := 9) rfl))) (by decide) (backOf (W := 0) (rm2 l Z aw hw [] ((v1 (p1 &&& (7 : Int32)) ((1 : Int32) + ((p2 &&& (2147483647 : Int32)) % (19 : Int32))) (own_xs q0))) (((p3 &&& (2147483647 : Int32)) % ((1 : Int32) + ((p2 &&& (2147483647 : Int32)) % (19 : Int32))))) ((j0_0 p4 p5)) h149 n0 Z151 ) hZ (hw _ (List.mem_of_getElem? (i := 9) rfl)) (hw _ (List.mem_of_getElem? (i := 4) rfl)) (by decide) (by decide)) (g := (mkF m 338 #[.val (.long q0), .second, .val (.int p1), .val (.int p2), .val (.int p3), .val (.int p4), .val (.int p5), .val (.int (p1 &&& (7 : Int32))), .val (.int ((1 : Int32) + ((p2 &&& (2147483647 : Int32)) % (19 : Int32)))), .val (.int ((p3 &&& (2147483647 : Int32)) % ((1 : Int32) + ((p2 &&& (2147483647 : Int32)) % (19 : Int32))))), .val (.int (j0_0 p4 p5)), .val (.ref b27), .val (.long (v1 (p1 &&& (7 : Int32)) ((1 : Int32) + ((p2 &&& (2147483647 : Int32)) % (19 : Int32))) (own_xs q0))), .second, .val (.long (v1 (p1 &&& (7 : Int32)) ((1 : Int32) + ((p2 &&& (2147483647 : Int32)) % (19 : Int32))) ((own_xs q0).set ((p3 &&& (2147483647 : Int32)) % ((1 : Int32) + ((p2 &&& (2147483647 : Int32)) % (19 : Int32)))).toNatClampNeg (j0_0 p4 p5)))), .second, .unset, .unset] [(.int (j0_0 p4 p5)), (.int ((p3 &&& (2147483647 : Int32)) % ((1 : Int32) + ((p2 &&& (2147483647 : Int32)) % (19 : Int32))))), (.long (v1 (p1 &&& (7 : Int32)) ((1 : Int32) + ((p2 &&& (2147483647 : Int32)) % (19 : Int32))) (own_xs q0)))])) rfl (by rw [hml]; rfl) (argsL := [(.long (v1 (p1 &&& (7 : Int32)) ((1 : Int32) + ((p2 &&& (2147483647 : Int32)) % (19 : Int32))) (own_xs q0))), (.int ((p3 &&& (2147483647 : Int32)) % ((1 : Int32) + ((p2 &&& (2147483647 : Int32)) % (19 : Int32))))), (.int (j0_0 p4 p5))]) (rest := []) (lenOf pd_2 rfl) rfl (by show 2 * 0 + _ ≤ _; exact Nat.le_of_eq rfl) (hb hby at_338) (fun _ _ => ⟨rfl, e153, (by decide : 1 + 0 ≤ _), (by decide : 19 + 0 ≤ _)⟩)
    dsimp only [Pt.U, Pt.locs, Pt.cells, Pt.slots] at X154 l154 y154 z154 st154 hQ154
    replace l154 := l154.symm
    subst l154 y154 z154
    obtain ⟨rfl, N154q, e154⟩ := hQ154
    have N154 := Fr.app N153 N154q
    have pre155 := fun (t : State) (k : Steps p.tables e below (T154.setTop (mkF m 348 #[.val (.long q0), .second, .val (.int p1), .val (.int p2), .val (.int p3), .val (.int p4), .val (.int p5), .val (.int (p1 &&& (7 : Int32))), .val (.int ((1 : Int32) + ((p2 &&& (2147483647 : Int32)) % (19 : Int32)))), .val (.int ((p3 &&& (2147483647 : Int32)) % ((1 : Int32) + ((p2 &&& (2147483647 : Int32)) % (19 : Int32))))), .val (.int (j0_0 p4 p5)), .val (.ref b27), .val (.long (v1 (p1 &&& (7 : Int32)) ((1 : Int32) + ((p2 &&& (2147483647 : Int32)) % (19 : Int32))) (own_xs q0))), .second, .val (.long (v1 (p1 &&& (7 : Int32)) ((1 : Int32) + ((p2 &&& (2147483647 : Int32)) % (19 : Int32))) ((own_xs q0).set ((p3 &&& (2147483647 : Int32)) % ((1 : Int32) + ((p2 &&& (2147483647 : Int32)) % (19 : Int32)))).toNatClampNeg (j0_0 p4 p5)))), .second, .val (.long (j2_0 (v1 (p1 &&& (7 : Int32)) ((1 : Int32) + ((p2 &&& (2147483647 : Int32)) % (19 : Int32))) (own_xs q0)) ((p3 &&& (2147483647 : Int32)) % ((1 : Int32) + ((p2 &&& (2147483647 : Int32)) % (19 : Int32)))) (j0_0 p4 p5))), .second] [(.int (lcmpW (j2_0 (v1 (p1 &&& (7 : Int32)) ((1 : Int32) + ((p2 &&& (2147483647 : Int32)) % (19 : Int32))) (own_xs q0)) ((p3 &&& (2147483647 : Int32)) % ((1 : Int32) + ((p2 &&& (2147483647 : Int32)) % (19 : Int32)))) (j0_0 p4 p5)) (v1 (p1 &&& (7 : Int32)) ((1 : Int32) + ((p2 &&& (2147483647 : Int32)) % (19 : Int32))) ((own_xs q0).set ((p3 &&& (2147483647 : Int32)) % ((1 : Int32) + ((p2 &&& (2147483647 : Int32)) % (19 : Int32)))).toNatClampNeg (j0_0 p4 p5)))))])) t) => pre146 t (by
      show Steps p.tables e below (T144.setTop (mkF m 309 #[.val (.long q0), .second, .val (.int p1), .val (.int p2), .val (.int p3), .val (.int p4), .val (.int p5), .val (.int (p1 &&& (7 : Int32))), .val (.int ((1 : Int32) + ((p2 &&& (2147483647 : Int32)) % (19 : Int32)))), .val (.int ((p3 &&& (2147483647 : Int32)) % ((1 : Int32) + ((p2 &&& (2147483647 : Int32)) % (19 : Int32))))), .val (.int (j0_0 p4 p5)), .val (.ref b27), .val (.long (v1 (p1 &&& (7 : Int32)) ((1 : Int32) + ((p2 &&& (2147483647 : Int32)) % (19 : Int32))) (own_xs q0))), .second, .unset, .unset, .unset, .unset] [(.int (lcmpW (v1 (p1 &&& (7 : Int32)) ((1 : Int32) + ((p2 &&& (2147483647 : Int32)) % (19 : Int32))) (own_xs q0)) (-1 : Int64)))])) _
      refine XS.ifYes X144.here hx rfl (pc0 := 309) (pc' := 314) rfl (hb hby at_309) rfl ((if0 _ _).trans (feq (mt (own_eq (v1 (p1 &&& (7 : Int32)) ((1 : Int32) + ((p2 &&& (2147483647 : Int32)) % (19 : Int32))) (own_xs q0)) (-1 : Int64)).mp hc145)).2) (by decide) (by decide) ?_
      show Steps p.tables e below (T144.setTop (mkF m 314 #[.val (.long q0), .second, .val (.int p1), .val (.int p2), .val (.int p3), .val (.int p4), .val (.int p5), .val (.int (p1 &&& (7 : Int32))), .val (.int ((1 : Int32) + ((p2 &&& (2147483647 : Int32)) % (19 : Int32)))), .val (.int ((p3 &&& (2147483647 : Int32)) % ((1 : Int32) + ((p2 &&& (2147483647 : Int32)) % (19 : Int32))))), .val (.int (j0_0 p4 p5)), .val (.ref b27), .val (.long (v1 (p1 &&& (7 : Int32)) ((1 : Int32) + ((p2 &&& (2147483647 : Int32)) % (19 : Int32))) (own_xs q0))), .second, .unset, .unset, .unset, .unset] [])) _
      refine XS.aload X144.here hx rfl (hb hby at_314) rfl rfl ?_
      show Steps p.tables e below (T144.setTop (mkF m 316 #[.val (.long q0), .second, .val (.int p1), .val (.int p2), .val (.int p3), .val (.int p4), .val (.int p5), .val (.int (p1 &&& (7 : Int32))), .val (.int ((1 : Int32) + ((p2 &&& (2147483647 : Int32)) % (19 : Int32)))), .val (.int ((p3 &&& (2147483647 : Int32)) % ((1 : Int32) + ((p2 &&& (2147483647 : Int32)) % (19 : Int32))))), .val (.int (j0_0 p4 p5)), .val (.ref b27), .val (.long (v1 (p1 &&& (7 : Int32)) ((1 : Int32) + ((p2 &&& (2147483647 : Int32)) % (19 : Int32))) (own_xs q0))), .second, .unset, .unset, .unset, .unset] [(.ref b27)])) _
      refine XS.iload X144.here hx rfl (hb hby at_316) rfl ?_
      show Steps p.tables e below (T144.setTop (mkF m 318 #[.val (.long q0), .second, .val (.int p1), .val (.int p2), .val (.int p3), .val (.int p4), .val (.int p5), .val (.int (p1 &&& (7 : Int32))), .val (.int ((1 : Int32) + ((p2 &&& (2147483647 : Int32)) % (19 : Int32)))), .val (.int ((p3 &&& (2147483647 : Int32)) % ((1 : Int32) + ((p2 &&& (2147483647 : Int32)) % (19 : Int32))))), .val (.int (j0_0 p4 p5)), .val (.ref b27), .val (.long (v1 (p1 &&& (7 : Int32)) ((1 : Int32) + ((p2 &&& (2147483647 : Int32)) % (19 : Int32))) (own_xs q0))), .second, .unset, .unset, .unset, .unset] [(.int ((p3 &&& (2147483647 : Int32)) % ((1 : Int32) + ((p2 &&& (2147483647 : Int32)) % (19 : Int32))))), (.ref b27)])) _
      refine XS.iload X144.here hx rfl (hb hby at_318) rfl ?_
      show Steps p.tables e below (T144.setTop (mkF m 320 #[.val (.long q0), .second, .val (.int p1), .val (.int p2), .val (.int p3), .val (.int p4), .val (.int p5), .val (.int (p1 &&& (7 : Int32))), .val (.int ((1 : Int32) + ((p2 &&& (2147483647 : Int32)) % (19 : Int32)))), .val (.int ((p3 &&& (2147483647 : Int32)) % ((1 : Int32) + ((p2 &&& (2147483647 : Int32)) % (19 : Int32))))), .val (.int (j0_0 p4 p5)), .val (.ref b27), .val (.long (v1 (p1 &&& (7 : Int32)) ((1 : Int32) + ((p2 &&& (2147483647 : Int32)) % (19 : Int32))) (own_xs q0))), .second, .unset, .unset, .unset, .unset] [(.int (j0_0 p4 p5)), (.int ((p3 &&& (2147483647 : Int32)) % ((1 : Int32) + ((p2 &&& (2147483647 : Int32)) % (19 : Int32))))), (.ref b27)])) _
      refine st149 _ ?_
      show Steps p.tables e below (T149.setTop (mkF m 321 #[.val (.long q0), .second, .val (.int p1), .val (.int p2), .val (.int p3), .val (.int p4), .val (.int p5), .val (.int (p1 &&& (7 : Int32))), .val (.int ((1 : Int32) + ((p2 &&& (2147483647 : Int32)) % (19 : Int32)))), .val (.int ((p3 &&& (2147483647 : Int32)) % ((1 : Int32) + ((p2 &&& (2147483647 : Int32)) % (19 : Int32))))), .val (.int (j0_0 p4 p5)), .val (.ref b27), .val (.long (v1 (p1 &&& (7 : Int32)) ((1 : Int32) + ((p2 &&& (2147483647 : Int32)) % (19 : Int32))) (own_xs q0))), .second, .unset, .unset, .unset, .unset] [])) _
      refine XS.iload X149.here hx rfl (hb hby at_321) rfl ?_
      show Steps p.tables e below (T149.setTop (mkF m 323 #[.val (.long q0), .second, .val (.int p1), .val (.int p2), .val (.int p3), .val (.int p4), .val (.int p5), .val (.int (p1 &&& (7 : Int32))), .val (.int ((1 : Int32) + ((p2 &&& (2147483647 : Int32)) % (19 : Int32)))), .val (.int ((p3 &&& (2147483647 : Int32)) % ((1 : Int32) + ((p2 &&& (2147483647 : Int32)) % (19 : Int32))))), .val (.int (j0_0 p4 p5)), .val (.ref b27), .val (.long (v1 (p1 &&& (7 : Int32)) ((1 : Int32) + ((p2 &&& (2147483647 : Int32)) % (19 : Int32))) (own_xs q0))), .second, .unset, .unset, .unset, .unset] [(.int (p1 &&& (7 : Int32)))])) _
      refine XS.aload X149.here hx rfl (hb hby at_323) rfl rfl ?_
      show Steps p.tables e below (T149.setTop (mkF m 325 #[.val (.long q0), .second, .val (.int p1), .val (.int p2), .val (.int p3), .val (.int p4), .val (.int p5), .val (.int (p1 &&& (7 : Int32))), .val (.int ((1 : Int32) + ((p2 &&& (2147483647 : Int32)) % (19 : Int32)))), .val (.int ((p3 &&& (2147483647 : Int32)) % ((1 : Int32) + ((p2 &&& (2147483647 : Int32)) % (19 : Int32))))), .val (.int (j0_0 p4 p5)), .val (.ref b27), .val (.long (v1 (p1 &&& (7 : Int32)) ((1 : Int32) + ((p2 &&& (2147483647 : Int32)) % (19 : Int32))) (own_xs q0))), .second, .unset, .unset, .unset, .unset] [(.ref b27), (.int (p1 &&& (7 : Int32)))])) _
      refine XS.iload X149.here hx rfl (hb hby at_325) rfl ?_
      show Steps p.tables e below (T149.setTop (mkF m 327 #[.val (.long q0), .second, .val (.int p1), .val (.int p2), .val (.int p3), .val (.int p4), .val (.int p5), .val (.int (p1 &&& (7 : Int32))), .val (.int ((1 : Int32) + ((p2 &&& (2147483647 : Int32)) % (19 : Int32)))), .val (.int ((p3 &&& (2147483647 : Int32)) % ((1 : Int32) + ((p2 &&& (2147483647 : Int32)) % (19 : Int32))))), .val (.int (j0_0 p4 p5)), .val (.ref b27), .val (.long (v1 (p1 &&& (7 : Int32)) ((1 : Int32) + ((p2 &&& (2147483647 : Int32)) % (19 : Int32))) (own_xs q0))), .second, .unset, .unset, .unset, .unset] [(.int ((1 : Int32) + ((p2 &&& (2147483647 : Int32)) % (19 : Int32)))), (.ref b27), (.int (p1 &&& (7 : Int32)))])) _
      refine st153 _ ?_
      show Steps p.tables e below (T153.setTop (mkF m 330 #[.val (.long q0), .second, .val (.int p1), .val (.int p2), .val (.int p3), .val (.int p4), .val (.int p5), .val (.int (p1 &&& (7 : Int32))), .val (.int ((1 : Int32) + ((p2 &&& (2147483647 : Int32)) % (19 : Int32)))), .val (.int ((p3 &&& (2147483647 : Int32)) % ((1 : Int32) + ((p2 &&& (2147483647 : Int32)) % (19 : Int32))))), .val (.int (j0_0 p4 p5)), .val (.ref b27), .val (.long (v1 (p1 &&& (7 : Int32)) ((1 : Int32) + ((p2 &&& (2147483647 : Int32)) % (19 : Int32))) (own_xs q0))), .second, .unset, .unset, .unset, .unset] [(.long (v1 (p1 &&& (7 : Int32)) ((1 : Int32) + ((p2 &&& (2147483647 : Int32)) % (19 : Int32))) ((own_xs q0).set ((p3 &&& (2147483647 : Int32)) % ((1 : Int32) + ((p2 &&& (2147483647 : Int32)) % (19 : Int32)))).toNatClampNeg (j0_0 p4 p5))))])) _
      refine XS.lstore X153.here hx rfl (hb hby at_330) rfl (l' := #[.val (.long q0), .second, .val (.int p1), .val (.int p2), .val (.int p3), .val (.int p4), .val (.int p5), .val (.int (p1 &&& (7 : Int32))), .val (.int ((1 : Int32) + ((p2 &&& (2147483647 : Int32)) % (19 : Int32)))), .val (.int ((p3 &&& (2147483647 : Int32)) % ((1 : Int32) + ((p2 &&& (2147483647 : Int32)) % (19 : Int32))))), .val (.int (j0_0 p4 p5)), .val (.ref b27), .val (.long (v1 (p1 &&& (7 : Int32)) ((1 : Int32) + ((p2 &&& (2147483647 : Int32)) % (19 : Int32))) (own_xs q0))), .second, .val (.long (v1 (p1 &&& (7 : Int32)) ((1 : Int32) + ((p2 &&& (2147483647 : Int32)) % (19 : Int32))) ((own_xs q0).set ((p3 &&& (2147483647 : Int32)) % ((1 : Int32) + ((p2 &&& (2147483647 : Int32)) % (19 : Int32)))).toNatClampNeg (j0_0 p4 p5)))), .second, .unset, .unset]) rfl ?_
      show Steps p.tables e below (T153.setTop (mkF m 332 #[.val (.long q0), .second, .val (.int p1), .val (.int p2), .val (.int p3), .val (.int p4), .val (.int p5), .val (.int (p1 &&& (7 : Int32))), .val (.int ((1 : Int32) + ((p2 &&& (2147483647 : Int32)) % (19 : Int32)))), .val (.int ((p3 &&& (2147483647 : Int32)) % ((1 : Int32) + ((p2 &&& (2147483647 : Int32)) % (19 : Int32))))), .val (.int (j0_0 p4 p5)), .val (.ref b27), .val (.long (v1 (p1 &&& (7 : Int32)) ((1 : Int32) + ((p2 &&& (2147483647 : Int32)) % (19 : Int32))) (own_xs q0))), .second, .val (.long (v1 (p1 &&& (7 : Int32)) ((1 : Int32) + ((p2 &&& (2147483647 : Int32)) % (19 : Int32))) ((own_xs q0).set ((p3 &&& (2147483647 : Int32)) % ((1 : Int32) + ((p2 &&& (2147483647 : Int32)) % (19 : Int32)))).toNatClampNeg (j0_0 p4 p5)))), .second, .unset, .unset] [])) _
      refine XS.lload X153.here hx rfl (hb hby at_332) rfl ?_
      show Steps p.tables e below (T153.setTop (mkF m 334 #[.val (.long q0), .second, .val (.int p1), .val (.int p2), .val (.int p3), .val (.int p4), .val (.int p5), .val (.int (p1 &&& (7 : Int32))), .val (.int ((1 : Int32) + ((p2 &&& (2147483647 : Int32)) % (19 : Int32)))), .val (.int ((p3 &&& (2147483647 : Int32)) % ((1 : Int32) + ((p2 &&& (2147483647 : Int32)) % (19 : Int32))))), .val (.int (j0_0 p4 p5)), .val (.ref b27), .val (.long (v1 (p1 &&& (7 : Int32)) ((1 : Int32) + ((p2 &&& (2147483647 : Int32)) % (19 : Int32))) (own_xs q0))), .second, .val (.long (v1 (p1 &&& (7 : Int32)) ((1 : Int32) + ((p2 &&& (2147483647 : Int32)) % (19 : Int32))) ((own_xs q0).set ((p3 &&& (2147483647 : Int32)) % ((1 : Int32) + ((p2 &&& (2147483647 : Int32)) % (19 : Int32)))).toNatClampNeg (j0_0 p4 p5)))), .second, .unset, .unset] [(.long (v1 (p1 &&& (7 : Int32)) ((1 : Int32) + ((p2 &&& (2147483647 : Int32)) % (19 : Int32))) (own_xs q0)))])) _
      refine XS.iload X153.here hx rfl (hb hby at_334) rfl ?_
      show Steps p.tables e below (T153.setTop (mkF m 336 #[.val (.long q0), .second, .val (.int p1), .val (.int p2), .val (.int p3), .val (.int p4), .val (.int p5), .val (.int (p1 &&& (7 : Int32))), .val (.int ((1 : Int32) + ((p2 &&& (2147483647 : Int32)) % (19 : Int32)))), .val (.int ((p3 &&& (2147483647 : Int32)) % ((1 : Int32) + ((p2 &&& (2147483647 : Int32)) % (19 : Int32))))), .val (.int (j0_0 p4 p5)), .val (.ref b27), .val (.long (v1 (p1 &&& (7 : Int32)) ((1 : Int32) + ((p2 &&& (2147483647 : Int32)) % (19 : Int32))) (own_xs q0))), .second, .val (.long (v1 (p1 &&& (7 : Int32)) ((1 : Int32) + ((p2 &&& (2147483647 : Int32)) % (19 : Int32))) ((own_xs q0).set ((p3 &&& (2147483647 : Int32)) % ((1 : Int32) + ((p2 &&& (2147483647 : Int32)) % (19 : Int32)))).toNatClampNeg (j0_0 p4 p5)))), .second, .unset, .unset] [(.int ((p3 &&& (2147483647 : Int32)) % ((1 : Int32) + ((p2 &&& (2147483647 : Int32)) % (19 : Int32))))), (.long (v1 (p1 &&& (7 : Int32)) ((1 : Int32) + ((p2 &&& (2147483647 : Int32)) % (19 : Int32))) (own_xs q0)))])) _
      refine XS.iload X153.here hx rfl (hb hby at_336) rfl ?_
      show Steps p.tables e below (T153.setTop (mkF m 338 #[.val (.long q0), .second, .val (.int p1), .val (.int p2), .val (.int p3), .val (.int p4), .val (.int p5), .val (.int (p1 &&& (7 : Int32))), .val (.int ((1 : Int32) + ((p2 &&& (2147483647 : Int32)) % (19 : Int32)))), .val (.int ((p3 &&& (2147483647 : Int32)) % ((1 : Int32) + ((p2 &&& (2147483647 : Int32)) % (19 : Int32))))), .val (.int (j0_0 p4 p5)), .val (.ref b27), .val (.long (v1 (p1 &&& (7 : Int32)) ((1 : Int32) + ((p2 &&& (2147483647 : Int32)) % (19 : Int32))) (own_xs q0))), .second, .val (.long (v1 (p1 &&& (7 : Int32)) ((1 : Int32) + ((p2 &&& (2147483647 : Int32)) % (19 : Int32))) ((own_xs q0).set ((p3 &&& (2147483647 : Int32)) % ((1 : Int32) + ((p2 &&& (2147483647 : Int32)) % (19 : Int32)))).toNatClampNeg (j0_0 p4 p5)))), .second, .unset, .unset] [(.int (j0_0 p4 p5)), (.int ((p3 &&& (2147483647 : Int32)) % ((1 : Int32) + ((p2 &&& (2147483647 : Int32)) % (19 : Int32))))), (.long (v1 (p1 &&& (7 : Int32)) ((1 : Int32) + ((p2 &&& (2147483647 : Int32)) % (19 : Int32))) (own_xs q0)))])) _
      refine st154 _ ?_
      show Steps p.tables e below (T154.setTop (mkF m 341 #[.val (.long q0), .second, .val (.int p1), .val (.int p2), .val (.int p3), .val (.int p4), .val (.int p5), .val (.int (p1 &&& (7 : Int32))), .val (.int ((1 : Int32) + ((p2 &&& (2147483647 : Int32)) % (19 : Int32)))), .val (.int ((p3 &&& (2147483647 : Int32)) % ((1 : Int32) + ((p2 &&& (2147483647 : Int32)) % (19 : Int32))))), .val (.int (j0_0 p4 p5)), .val (.ref b27), .val (.long (v1 (p1 &&& (7 : Int32)) ((1 : Int32) + ((p2 &&& (2147483647 : Int32)) % (19 : Int32))) (own_xs q0))), .second, .val (.long (v1 (p1 &&& (7 : Int32)) ((1 : Int32) + ((p2 &&& (2147483647 : Int32)) % (19 : Int32))) ((own_xs q0).set ((p3 &&& (2147483647 : Int32)) % ((1 : Int32) + ((p2 &&& (2147483647 : Int32)) % (19 : Int32)))).toNatClampNeg (j0_0 p4 p5)))), .second, .unset, .unset] [(.long (j2_0 (v1 (p1 &&& (7 : Int32)) ((1 : Int32) + ((p2 &&& (2147483647 : Int32)) % (19 : Int32))) (own_xs q0)) ((p3 &&& (2147483647 : Int32)) % ((1 : Int32) + ((p2 &&& (2147483647 : Int32)) % (19 : Int32)))) (j0_0 p4 p5)))])) _
      refine XS.lstore X154.here hx rfl (hb hby at_341) rfl (l' := #[.val (.long q0), .second, .val (.int p1), .val (.int p2), .val (.int p3), .val (.int p4), .val (.int p5), .val (.int (p1 &&& (7 : Int32))), .val (.int ((1 : Int32) + ((p2 &&& (2147483647 : Int32)) % (19 : Int32)))), .val (.int ((p3 &&& (2147483647 : Int32)) % ((1 : Int32) + ((p2 &&& (2147483647 : Int32)) % (19 : Int32))))), .val (.int (j0_0 p4 p5)), .val (.ref b27), .val (.long (v1 (p1 &&& (7 : Int32)) ((1 : Int32) + ((p2 &&& (2147483647 : Int32)) % (19 : Int32))) (own_xs q0))), .second, .val (.long (v1 (p1 &&& (7 : Int32)) ((1 : Int32) + ((p2 &&& (2147483647 : Int32)) % (19 : Int32))) ((own_xs q0).set ((p3 &&& (2147483647 : Int32)) % ((1 : Int32) + ((p2 &&& (2147483647 : Int32)) % (19 : Int32)))).toNatClampNeg (j0_0 p4 p5)))), .second, .val (.long (j2_0 (v1 (p1 &&& (7 : Int32)) ((1 : Int32) + ((p2 &&& (2147483647 : Int32)) % (19 : Int32))) (own_xs q0)) ((p3 &&& (2147483647 : Int32)) % ((1 : Int32) + ((p2 &&& (2147483647 : Int32)) % (19 : Int32)))) (j0_0 p4 p5))), .second]) rfl ?_
      show Steps p.tables e below (T154.setTop (mkF m 343 #[.val (.long q0), .second, .val (.int p1), .val (.int p2), .val (.int p3), .val (.int p4), .val (.int p5), .val (.int (p1 &&& (7 : Int32))), .val (.int ((1 : Int32) + ((p2 &&& (2147483647 : Int32)) % (19 : Int32)))), .val (.int ((p3 &&& (2147483647 : Int32)) % ((1 : Int32) + ((p2 &&& (2147483647 : Int32)) % (19 : Int32))))), .val (.int (j0_0 p4 p5)), .val (.ref b27), .val (.long (v1 (p1 &&& (7 : Int32)) ((1 : Int32) + ((p2 &&& (2147483647 : Int32)) % (19 : Int32))) (own_xs q0))), .second, .val (.long (v1 (p1 &&& (7 : Int32)) ((1 : Int32) + ((p2 &&& (2147483647 : Int32)) % (19 : Int32))) ((own_xs q0).set ((p3 &&& (2147483647 : Int32)) % ((1 : Int32) + ((p2 &&& (2147483647 : Int32)) % (19 : Int32)))).toNatClampNeg (j0_0 p4 p5)))), .second, .val (.long (j2_0 (v1 (p1 &&& (7 : Int32)) ((1 : Int32) + ((p2 &&& (2147483647 : Int32)) % (19 : Int32))) (own_xs q0)) ((p3 &&& (2147483647 : Int32)) % ((1 : Int32) + ((p2 &&& (2147483647 : Int32)) % (19 : Int32)))) (j0_0 p4 p5))), .second] [])) _
      refine XS.lload X154.here hx rfl (hb hby at_343) rfl ?_
      show Steps p.tables e below (T154.setTop (mkF m 345 #[.val (.long q0), .second, .val (.int p1), .val (.int p2), .val (.int p3), .val (.int p4), .val (.int p5), .val (.int (p1 &&& (7 : Int32))), .val (.int ((1 : Int32) + ((p2 &&& (2147483647 : Int32)) % (19 : Int32)))), .val (.int ((p3 &&& (2147483647 : Int32)) % ((1 : Int32) + ((p2 &&& (2147483647 : Int32)) % (19 : Int32))))), .val (.int (j0_0 p4 p5)), .val (.ref b27), .val (.long (v1 (p1 &&& (7 : Int32)) ((1 : Int32) + ((p2 &&& (2147483647 : Int32)) % (19 : Int32))) (own_xs q0))), .second, .val (.long (v1 (p1 &&& (7 : Int32)) ((1 : Int32) + ((p2 &&& (2147483647 : Int32)) % (19 : Int32))) ((own_xs q0).set ((p3 &&& (2147483647 : Int32)) % ((1 : Int32) + ((p2 &&& (2147483647 : Int32)) % (19 : Int32)))).toNatClampNeg (j0_0 p4 p5)))), .second, .val (.long (j2_0 (v1 (p1 &&& (7 : Int32)) ((1 : Int32) + ((p2 &&& (2147483647 : Int32)) % (19 : Int32))) (own_xs q0)) ((p3 &&& (2147483647 : Int32)) % ((1 : Int32) + ((p2 &&& (2147483647 : Int32)) % (19 : Int32)))) (j0_0 p4 p5))), .second] [(.long (j2_0 (v1 (p1 &&& (7 : Int32)) ((1 : Int32) + ((p2 &&& (2147483647 : Int32)) % (19 : Int32))) (own_xs q0)) ((p3 &&& (2147483647 : Int32)) % ((1 : Int32) + ((p2 &&& (2147483647 : Int32)) % (19 : Int32)))) (j0_0 p4 p5)))])) _
      refine XS.lload X154.here hx rfl (hb hby at_345) rfl ?_
      show Steps p.tables e below (T154.setTop (mkF m 347 #[.val (.long q0), .second, .val (.int p1), .val (.int p2), .val (.int p3), .val (.int p4), .val (.int p5), .val (.int (p1 &&& (7 : Int32))), .val (.int ((1 : Int32) + ((p2 &&& (2147483647 : Int32)) % (19 : Int32)))), .val (.int ((p3 &&& (2147483647 : Int32)) % ((1 : Int32) + ((p2 &&& (2147483647 : Int32)) % (19 : Int32))))), .val (.int (j0_0 p4 p5)), .val (.ref b27), .val (.long (v1 (p1 &&& (7 : Int32)) ((1 : Int32) + ((p2 &&& (2147483647 : Int32)) % (19 : Int32))) (own_xs q0))), .second, .val (.long (v1 (p1 &&& (7 : Int32)) ((1 : Int32) + ((p2 &&& (2147483647 : Int32)) % (19 : Int32))) ((own_xs q0).set ((p3 &&& (2147483647 : Int32)) % ((1 : Int32) + ((p2 &&& (2147483647 : Int32)) % (19 : Int32)))).toNatClampNeg (j0_0 p4 p5)))), .second, .val (.long (j2_0 (v1 (p1 &&& (7 : Int32)) ((1 : Int32) + ((p2 &&& (2147483647 : Int32)) % (19 : Int32))) (own_xs q0)) ((p3 &&& (2147483647 : Int32)) % ((1 : Int32) + ((p2 &&& (2147483647 : Int32)) % (19 : Int32)))) (j0_0 p4 p5))), .second] [(.long (v1 (p1 &&& (7 : Int32)) ((1 : Int32) + ((p2 &&& (2147483647 : Int32)) % (19 : Int32))) ((own_xs q0).set ((p3 &&& (2147483647 : Int32)) % ((1 : Int32) + ((p2 &&& (2147483647 : Int32)) % (19 : Int32)))).toNatClampNeg (j0_0 p4 p5)))), (.long (j2_0 (v1 (p1 &&& (7 : Int32)) ((1 : Int32) + ((p2 &&& (2147483647 : Int32)) % (19 : Int32))) (own_xs q0)) ((p3 &&& (2147483647 : Int32)) % ((1 : Int32) + ((p2 &&& (2147483647 : Int32)) % (19 : Int32)))) (j0_0 p4 p5)))])) _
      refine XS.lcmp X154.here hx rfl (hb hby at_347) rfl ?_
      exact k)
    have pre156 := fun (t : State) (k : Steps p.tables e below (T154.setTop (mkF m 356 #[.val (.long q0), .second, .val (.int p1), .val (.int p2), .val (.int p3), .val (.int p4), .val (.int p5), .val (.int (p1 &&& (7 : Int32))), .val (.int ((1 : Int32) + ((p2 &&& (2147483647 : Int32)) % (19 : Int32)))), .val (.int ((p3 &&& (2147483647 : Int32)) % ((1 : Int32) + ((p2 &&& (2147483647 : Int32)) % (19 : Int32))))), .val (.int (j0_0 p4 p5)), .val (.ref b27), .val (.long (v1 (p1 &&& (7 : Int32)) ((1 : Int32) + ((p2 &&& (2147483647 : Int32)) % (19 : Int32))) (own_xs q0))), .second, .val (.long (v1 (p1 &&& (7 : Int32)) ((1 : Int32) + ((p2 &&& (2147483647 : Int32)) % (19 : Int32))) ((own_xs q0).set ((p3 &&& (2147483647 : Int32)) % ((1 : Int32) + ((p2 &&& (2147483647 : Int32)) % (19 : Int32)))).toNatClampNeg (j0_0 p4 p5)))), .second, .val (.long (j2_0 (v1 (p1 &&& (7 : Int32)) ((1 : Int32) + ((p2 &&& (2147483647 : Int32)) % (19 : Int32))) (own_xs q0)) ((p3 &&& (2147483647 : Int32)) % ((1 : Int32) + ((p2 &&& (2147483647 : Int32)) % (19 : Int32)))) (j0_0 p4 p5))), .second] [(.int (j0_1 q0 p1 p2 p3 p4 p5))])) t) => pre155 t (by
      by_cases hc157 : (j2_0 (v1 (p1 &&& (7 : Int32)) ((1 : Int32) + ((p2 &&& (2147483647 : Int32)) % (19 : Int32))) (own_xs q0)) ((p3 &&& (2147483647 : Int32)) % ((1 : Int32) + ((p2 &&& (2147483647 : Int32)) % (19 : Int32)))) (j0_0 p4 p5)) = (v1 (p1 &&& (7 : Int32)) ((1 : Int32) + ((p2 &&& (2147483647 : Int32)) % (19 : Int32))) ((own_xs q0).set ((p3 &&& (2147483647 : Int32)) % ((1 : Int32) + ((p2 &&& (2147483647 : Int32)) % (19 : Int32)))).toNatClampNeg (j0_0 p4 p5)))
      · skip
        show Steps p.tables e below (T154.setTop (mkF m 348 #[.val (.long q0), .second, .val (.int p1), .val (.int p2), .val (.int p3), .val (.int p4), .val (.int p5), .val (.int (p1 &&& (7 : Int32))), .val (.int ((1 : Int32) + ((p2 &&& (2147483647 : Int32)) % (19 : Int32)))), .val (.int ((p3 &&& (2147483647 : Int32)) % ((1 : Int32) + ((p2 &&& (2147483647 : Int32)) % (19 : Int32))))), .val (.int (j0_0 p4 p5)), .val (.ref b27), .val (.long (v1 (p1 &&& (7 : Int32)) ((1 : Int32) + ((p2 &&& (2147483647 : Int32)) % (19 : Int32))) (own_xs q0))), .second, .val (.long (v1 (p1 &&& (7 : Int32)) ((1 : Int32) + ((p2 &&& (2147483647 : Int32)) % (19 : Int32))) ((own_xs q0).set ((p3 &&& (2147483647 : Int32)) % ((1 : Int32) + ((p2 &&& (2147483647 : Int32)) % (19 : Int32)))).toNatClampNeg (j0_0 p4 p5)))), .second, .val (.long (j2_0 (v1 (p1 &&& (7 : Int32)) ((1 : Int32) + ((p2 &&& (2147483647 : Int32)) % (19 : Int32))) (own_xs q0)) ((p3 &&& (2147483647 : Int32)) % ((1 : Int32) + ((p2 &&& (2147483647 : Int32)) % (19 : Int32)))) (j0_0 p4 p5))), .second] [(.int (lcmpW (j2_0 (v1 (p1 &&& (7 : Int32)) ((1 : Int32) + ((p2 &&& (2147483647 : Int32)) % (19 : Int32))) (own_xs q0)) ((p3 &&& (2147483647 : Int32)) % ((1 : Int32) + ((p2 &&& (2147483647 : Int32)) % (19 : Int32)))) (j0_0 p4 p5)) (v1 (p1 &&& (7 : Int32)) ((1 : Int32) + ((p2 &&& (2147483647 : Int32)) % (19 : Int32))) ((own_xs q0).set ((p3 &&& (2147483647 : Int32)) % ((1 : Int32) + ((p2 &&& (2147483647 : Int32)) % (19 : Int32)))).toNatClampNeg (j0_0 p4 p5)))))])) _
        refine XS.ifNo X154.here hx rfl (hb hby at_348) rfl ((if0 _ _).trans (teq ((own_eq (j2_0 (v1 (p1 &&& (7 : Int32)) ((1 : Int32) + ((p2 &&& (2147483647 : Int32)) % (19 : Int32))) (own_xs q0)) ((p3 &&& (2147483647 : Int32)) % ((1 : Int32) + ((p2 &&& (2147483647 : Int32)) % (19 : Int32)))) (j0_0 p4 p5)) (v1 (p1 &&& (7 : Int32)) ((1 : Int32) + ((p2 &&& (2147483647 : Int32)) % (19 : Int32))) ((own_xs q0).set ((p3 &&& (2147483647 : Int32)) % ((1 : Int32) + ((p2 &&& (2147483647 : Int32)) % (19 : Int32)))).toNatClampNeg (j0_0 p4 p5)))).mpr hc157)).2) ?_
        show Steps p.tables e below (T154.setTop (mkF m 351 #[.val (.long q0), .second, .val (.int p1), .val (.int p2), .val (.int p3), .val (.int p4), .val (.int p5), .val (.int (p1 &&& (7 : Int32))), .val (.int ((1 : Int32) + ((p2 &&& (2147483647 : Int32)) % (19 : Int32)))), .val (.int ((p3 &&& (2147483647 : Int32)) % ((1 : Int32) + ((p2 &&& (2147483647 : Int32)) % (19 : Int32))))), .val (.int (j0_0 p4 p5)), .val (.ref b27), .val (.long (v1 (p1 &&& (7 : Int32)) ((1 : Int32) + ((p2 &&& (2147483647 : Int32)) % (19 : Int32))) (own_xs q0))), .second, .val (.long (v1 (p1 &&& (7 : Int32)) ((1 : Int32) + ((p2 &&& (2147483647 : Int32)) % (19 : Int32))) ((own_xs q0).set ((p3 &&& (2147483647 : Int32)) % ((1 : Int32) + ((p2 &&& (2147483647 : Int32)) % (19 : Int32)))).toNatClampNeg (j0_0 p4 p5)))), .second, .val (.long (j2_0 (v1 (p1 &&& (7 : Int32)) ((1 : Int32) + ((p2 &&& (2147483647 : Int32)) % (19 : Int32))) (own_xs q0)) ((p3 &&& (2147483647 : Int32)) % ((1 : Int32) + ((p2 &&& (2147483647 : Int32)) % (19 : Int32)))) (j0_0 p4 p5))), .second] [])) _
        refine XS.iconst X154.here hx rfl (hb hby at_351) ?_
        show Steps p.tables e below (T154.setTop (mkF m 352 #[.val (.long q0), .second, .val (.int p1), .val (.int p2), .val (.int p3), .val (.int p4), .val (.int p5), .val (.int (p1 &&& (7 : Int32))), .val (.int ((1 : Int32) + ((p2 &&& (2147483647 : Int32)) % (19 : Int32)))), .val (.int ((p3 &&& (2147483647 : Int32)) % ((1 : Int32) + ((p2 &&& (2147483647 : Int32)) % (19 : Int32))))), .val (.int (j0_0 p4 p5)), .val (.ref b27), .val (.long (v1 (p1 &&& (7 : Int32)) ((1 : Int32) + ((p2 &&& (2147483647 : Int32)) % (19 : Int32))) (own_xs q0))), .second, .val (.long (v1 (p1 &&& (7 : Int32)) ((1 : Int32) + ((p2 &&& (2147483647 : Int32)) % (19 : Int32))) ((own_xs q0).set ((p3 &&& (2147483647 : Int32)) % ((1 : Int32) + ((p2 &&& (2147483647 : Int32)) % (19 : Int32)))).toNatClampNeg (j0_0 p4 p5)))), .second, .val (.long (j2_0 (v1 (p1 &&& (7 : Int32)) ((1 : Int32) + ((p2 &&& (2147483647 : Int32)) % (19 : Int32))) (own_xs q0)) ((p3 &&& (2147483647 : Int32)) % ((1 : Int32) + ((p2 &&& (2147483647 : Int32)) % (19 : Int32)))) (j0_0 p4 p5))), .second] [(.int (1 : Int32))])) _
        refine XS.goto X154.here hx rfl (pc0 := 352) (pc' := 356) rfl (hb hby at_352) (by decide) (by decide) ?_
        have hj158 : (j0_1 q0 p1 p2 p3 p4 p5) = (1 : Int32) := by first | exact (if_pos hc157) | (unfold j0_1; first | (rw [if_pos hc157]) | (simp only [if_pos hc157]))
        rw [hj158] at k
        exact k
      · skip
        show Steps p.tables e below (T154.setTop (mkF m 348 #[.val (.long q0), .second, .val (.int p1), .val (.int p2), .val (.int p3), .val (.int p4), .val (.int p5), .val (.int (p1 &&& (7 : Int32))), .val (.int ((1 : Int32) + ((p2 &&& (2147483647 : Int32)) % (19 : Int32)))), .val (.int ((p3 &&& (2147483647 : Int32)) % ((1 : Int32) + ((p2 &&& (2147483647 : Int32)) % (19 : Int32))))), .val (.int (j0_0 p4 p5)), .val (.ref b27), .val (.long (v1 (p1 &&& (7 : Int32)) ((1 : Int32) + ((p2 &&& (2147483647 : Int32)) % (19 : Int32))) (own_xs q0))), .second, .val (.long (v1 (p1 &&& (7 : Int32)) ((1 : Int32) + ((p2 &&& (2147483647 : Int32)) % (19 : Int32))) ((own_xs q0).set ((p3 &&& (2147483647 : Int32)) % ((1 : Int32) + ((p2 &&& (2147483647 : Int32)) % (19 : Int32)))).toNatClampNeg (j0_0 p4 p5)))), .second, .val (.long (j2_0 (v1 (p1 &&& (7 : Int32)) ((1 : Int32) + ((p2 &&& (2147483647 : Int32)) % (19 : Int32))) (own_xs q0)) ((p3 &&& (2147483647 : Int32)) % ((1 : Int32) + ((p2 &&& (2147483647 : Int32)) % (19 : Int32)))) (j0_0 p4 p5))), .second] [(.int (lcmpW (j2_0 (v1 (p1 &&& (7 : Int32)) ((1 : Int32) + ((p2 &&& (2147483647 : Int32)) % (19 : Int32))) (own_xs q0)) ((p3 &&& (2147483647 : Int32)) % ((1 : Int32) + ((p2 &&& (2147483647 : Int32)) % (19 : Int32)))) (j0_0 p4 p5)) (v1 (p1 &&& (7 : Int32)) ((1 : Int32) + ((p2 &&& (2147483647 : Int32)) % (19 : Int32))) ((own_xs q0).set ((p3 &&& (2147483647 : Int32)) % ((1 : Int32) + ((p2 &&& (2147483647 : Int32)) % (19 : Int32)))).toNatClampNeg (j0_0 p4 p5)))))])) _
        refine XS.ifYes X154.here hx rfl (pc0 := 348) (pc' := 355) rfl (hb hby at_348) rfl ((if0 _ _).trans (feq (mt (own_eq (j2_0 (v1 (p1 &&& (7 : Int32)) ((1 : Int32) + ((p2 &&& (2147483647 : Int32)) % (19 : Int32))) (own_xs q0)) ((p3 &&& (2147483647 : Int32)) % ((1 : Int32) + ((p2 &&& (2147483647 : Int32)) % (19 : Int32)))) (j0_0 p4 p5)) (v1 (p1 &&& (7 : Int32)) ((1 : Int32) + ((p2 &&& (2147483647 : Int32)) % (19 : Int32))) ((own_xs q0).set ((p3 &&& (2147483647 : Int32)) % ((1 : Int32) + ((p2 &&& (2147483647 : Int32)) % (19 : Int32)))).toNatClampNeg (j0_0 p4 p5)))).mp hc157)).2) (by decide) (by decide) ?_
        show Steps p.tables e below (T154.setTop (mkF m 355 #[.val (.long q0), .second, .val (.int p1), .val (.int p2), .val (.int p3), .val (.int p4), .val (.int p5), .val (.int (p1 &&& (7 : Int32))), .val (.int ((1 : Int32) + ((p2 &&& (2147483647 : Int32)) % (19 : Int32)))), .val (.int ((p3 &&& (2147483647 : Int32)) % ((1 : Int32) + ((p2 &&& (2147483647 : Int32)) % (19 : Int32))))), .val (.int (j0_0 p4 p5)), .val (.ref b27), .val (.long (v1 (p1 &&& (7 : Int32)) ((1 : Int32) + ((p2 &&& (2147483647 : Int32)) % (19 : Int32))) (own_xs q0))), .second, .val (.long (v1 (p1 &&& (7 : Int32)) ((1 : Int32) + ((p2 &&& (2147483647 : Int32)) % (19 : Int32))) ((own_xs q0).set ((p3 &&& (2147483647 : Int32)) % ((1 : Int32) + ((p2 &&& (2147483647 : Int32)) % (19 : Int32)))).toNatClampNeg (j0_0 p4 p5)))), .second, .val (.long (j2_0 (v1 (p1 &&& (7 : Int32)) ((1 : Int32) + ((p2 &&& (2147483647 : Int32)) % (19 : Int32))) (own_xs q0)) ((p3 &&& (2147483647 : Int32)) % ((1 : Int32) + ((p2 &&& (2147483647 : Int32)) % (19 : Int32)))) (j0_0 p4 p5))), .second] [])) _
        refine XS.iconst X154.here hx rfl (hb hby at_355) ?_
        have hj159 : (j0_1 q0 p1 p2 p3 p4 p5) = (0 : Int32) := by first | exact (if_neg hc157) | (unfold j0_1; first | (rw [if_neg hc157]) | (simp only [if_neg hc157]))
        rw [hj159] at k
        exact k)
    obtain ⟨fs, hr, hrun, hended, hW, hsame⟩ := X154.leave (v := some (.int (nar .boolean (j0_1 q0 p1 p2 p3 p4 p5)))) (fun h => by rw [Bd.returns] at h; cases h)
    refine ⟨_, _, pre156 _ ?_, hrun, hended, _, _, rfl, ?_, ⟨_, rfl⟩, hW, hsame.mono (by decide) (by decide)⟩
    · skip
      show Steps p.tables e below (T154.setTop (mkF m 356 #[.val (.long q0), .second, .val (.int p1), .val (.int p2), .val (.int p3), .val (.int p4), .val (.int p5), .val (.int (p1 &&& (7 : Int32))), .val (.int ((1 : Int32) + ((p2 &&& (2147483647 : Int32)) % (19 : Int32)))), .val (.int ((p3 &&& (2147483647 : Int32)) % ((1 : Int32) + ((p2 &&& (2147483647 : Int32)) % (19 : Int32))))), .val (.int (j0_0 p4 p5)), .val (.ref b27), .val (.long (v1 (p1 &&& (7 : Int32)) ((1 : Int32) + ((p2 &&& (2147483647 : Int32)) % (19 : Int32))) (own_xs q0))), .second, .val (.long (v1 (p1 &&& (7 : Int32)) ((1 : Int32) + ((p2 &&& (2147483647 : Int32)) % (19 : Int32))) ((own_xs q0).set ((p3 &&& (2147483647 : Int32)) % ((1 : Int32) + ((p2 &&& (2147483647 : Int32)) % (19 : Int32)))).toNatClampNeg (j0_0 p4 p5)))), .second, .val (.long (j2_0 (v1 (p1 &&& (7 : Int32)) ((1 : Int32) + ((p2 &&& (2147483647 : Int32)) % (19 : Int32))) (own_xs q0)) ((p3 &&& (2147483647 : Int32)) % ((1 : Int32) + ((p2 &&& (2147483647 : Int32)) % (19 : Int32)))) (j0_0 p4 p5))), .second] [(.int (j0_1 q0 p1 p2 p3 p4 p5))])) _
      exact retN X154 hx (t := .boolean) Bd.returns (by simp) (hb hby at_356) hr
    · show Q0 Z q0 p1 p2 p3 p4 p5 h0 n0 _ T154.heap _
      rw [e154]
      have hv : (nar .boolean (j0_1 q0 p1 p2 p3 p4 p5)) = (v0 q0 p1 p2 p3 p4 p5) := by first | exact (if_neg hc145).symm | (unfold v0; first | (rw [if_neg hc145]) | (simp only [if_neg hc145]))
      exact ⟨(by rw [← hv]), N154⟩
theorem own_sh (e : Int32) (k : Nat) (hk : k < 64) (he : e.toInt = k) : (e &&& 0x3f).toInt64.toBitVec.toNat = k ∧ ((e &&& 0x3f).toInt64.toBitVec.smod 64#64).toNat = k := by
  have hm : (e &&& 0x3f).toInt = e.toInt % 2 ^ 6 := Jvm.Kit.i32_mask e 63 (k := 6) (by decide) (by decide)
  have e64 : (e &&& 0x3f).toInt64.toInt = k := by rw [Jvm.Kit.i64_of_i32, hm, he]; omega
  have eb : (e &&& 0x3f).toInt64.toBitVec.toNat = k := by
    have : (e &&& 0x3f).toInt64.toInt = (e &&& 0x3f).toInt64.toBitVec.toInt := rfl
    rw [this, BitVec.toInt_eq_toNat_cond] at e64
    have := (e &&& 0x3f).toInt64.toBitVec.isLt
    split at e64 <;> omega
  generalize (e &&& 0x3f).toInt64 = s at *
  refine ⟨eb, ?_⟩
  have h1 : s.toBitVec.smod 64#64 = s.toBitVec.umod 64#64 := by
    have hm1 : s.toBitVec.msb = false := by
      rw [BitVec.msb_eq_decide]; simp; omega
    rw [BitVec.smod_eq, hm1]; rfl
  rw [h1]
  show (s.toBitVec % 64#64).toNat = k
  rw [BitVec.toNat_umod, eb]
  simp; omega
theorem own_shl (x : Int64) (e : Int32) (k : Nat) (hk : k < 64) (he : e.toInt = k) : (x <<< (e &&& 0x3f).toInt64).toBitVec = x.toBitVec <<< k := by
  have : (x <<< (e &&& 0x3f).toInt64).toBitVec = x.toBitVec <<< ((e &&& 0x3f).toInt64.toBitVec.smod 64#64) := rfl
  rw [this, BitVec.shiftLeft_eq', (own_sh e k hk he).2]
theorem own_shr (x : Int64) (e : Int32) (k : Nat) (hk : k < 64) (he : e.toInt = k) : ((x.toUInt64 >>> (e &&& 0x3f).toInt64.toUInt64).toInt64).toBitVec = x.toBitVec >>> k := by
  have : ((x.toUInt64 >>> (e &&& 0x3f).toInt64.toUInt64).toInt64).toBitVec = x.toBitVec >>> ((e &&& 0x3f).toInt64.toBitVec % 64#64) := rfl
  have h2 : ((e &&& 0x3f).toInt64.toBitVec % 64#64).toNat = k := by rw [BitVec.toNat_umod, (own_sh e k hk he).1]; simp; omega
  rw [this, BitVec.ushiftRight_eq', h2]
theorem own_7 (w : Int64) : ((w.toInt32 &&& (7 : Int32)).toInt64).toBitVec = w.toBitVec &&& 7#64 := by
  have hm : (w.toInt32 &&& (7 : Int32)).toInt = w.toInt32.toInt % 2 ^ 3 := Jvm.Kit.i32_mask _ 7 (k := 3) (by decide) (by decide)
  have h6 : (w &&& (7 : Int64)).toInt = w.toInt % 2 ^ 3 := Jvm.Kit.i64_mask w 7 (k := 3) (by decide) (by decide)
  have e : (w.toInt32 &&& (7 : Int32)).toInt64 = w &&& 7 := by
    rw [← Int64.toInt_inj, Jvm.Kit.i64_of_i32, hm, h6, Int64.toInt_toInt32]
    rw [Int.bmod_def]; omega
  rw [e]; rfl
theorem own_mk (k : Nat) (hk : k < 64) (i : Nat) (hi : i < 64) : ((1#64 <<< k) - 1#64).getLsbD i = decide (i < k) := by
  have e : (1#64 <<< k) - 1#64 = BitVec.ofNat 64 (2 ^ k - 1) := by
    apply BitVec.eq_of_toNat_eq
    have h1 : 2 ^ k < 2 ^ 64 := Nat.pow_lt_pow_right (by decide) hk
    have h2 : 0 < 2 ^ k := Nat.pow_pos (by decide)
    rw [BitVec.toNat_sub, BitVec.toNat_shiftLeft, BitVec.toNat_ofNat, BitVec.toNat_ofNat, Nat.shiftLeft_eq, Nat.mod_eq_of_lt (show (1 : Nat) < 2 ^ 64 by decide), Nat.one_mul, Nat.mod_eq_of_lt h1]
    rw [Nat.mod_eq_of_lt (show 2 ^ k - 1 < 2 ^ 64 by omega)]
    omega
  rw [e, BitVec.getLsbD_ofNat]
  simp [hi, Nat.testBit_two_pow_sub_one]
theorem own_b7 (i : Nat) : (7#64).getLsbD i = decide (i < 3) := by
  have : (7#64) = BitVec.ofNat 64 (2 ^ 3 - 1) := rfl
  rw [this, BitVec.getLsbD_ofNat, Nat.testBit_two_pow_sub_one]
  by_cases h : i < 64 <;> simp [h]; omega
theorem own_join (b : BitVec 64) (n : Nat) (hn : n < 20) : ((b &&& ((1#64 <<< (3 * n)) - 1#64)) <<< 3) ||| (((b >>> (3 * n)) &&& 7#64) <<< (3 * (n + 1))) = (b &&& ((1#64 <<< (3 * (n + 1))) - 1#64)) <<< 3 := by
  apply BitVec.eq_of_getLsbD_eq
  intro i hi
  simp only [BitVec.getLsbD_or, BitVec.getLsbD_shiftLeft, BitVec.getLsbD_and, BitVec.getLsbD_ushiftRight, own_b7, hi, decide_true, Bool.true_and]
  by_cases h3 : i < 3
  · simp [h3]; omega
  · rw [own_mk _ (by omega) _ (by omega), own_mk _ (by omega) _ (by omega)]
    by_cases h1 : i < 3 * (n + 1)
    · have a1 : i - 3 < 3 * n := by omega
      have a2 : i - 3 < 3 * (n + 1) := by omega
      simp [h1, a1, a2, h3]
    · by_cases h2 : i < 3 * (n + 2)
      · have a1 : ¬ i - 3 < 3 * n := by omega
        have a2 : i - 3 < 3 * (n + 1) := by omega
        have a3 : i - 3 * (n + 1) < 3 := by omega
        have a4 : 3 * n + (i - 3 * (n + 1)) = i - 3 := by omega
        simp [h1, a1, a2, a3, a4, h3]
      · have a1 : ¬ i - 3 < 3 * n := by omega
        have a2 : ¬ i - 3 < 3 * (n + 1) := by omega
        have a3 : ¬ i - 3 * (n + 1) < 3 := by omega
        simp [h1, a1, a2, a3, h3]
theorem own_key (s : Int32) (xs : List Int32) (b : BitVec 64) : ∀ n, n ≤ 20 → (∀ i, i < n → ((xs.getD i 0).toInt64).toBitVec = (b >>> (3 * i)) &&& 7#64) → (own_k s xs n).toBitVec = s.toInt64.toBitVec ||| ((b &&& ((1#64 <<< (3 * n)) - 1#64)) <<< 3)
  | 0, _, _ => by
    show s.toInt64.toBitVec = _
    have : (1#64 <<< (3 * 0)) - 1#64 = 0#64 := by decide
    rw [this]; simp
  | n + 1, hn, h => by
    have ih := own_key s xs b n (by omega) fun i hi => h i (by omega)
    have e3 : ((3 : Int32) * (own_i n + (1 : Int32))).toInt = (3 * (n + 1) : Nat) := by
      have e1 := own_in n (by omega)
      have o : (1 : Int32).toInt = 1 := rfl
      have t : (3 : Int32).toInt = 3 := rfl
      have e2 : (own_i n + (1 : Int32)).toInt = n + 1 := by rw [Jvm.Kit.i32_add] <;> rw [e1, o] <;> omega
      rw [Jvm.Kit.i32_mul] <;> rw [e2, t] <;> omega
    show (own_k s xs n).toBitVec ||| ((xs.getD n 0).toInt64 <<< (((3 : Int32) * (own_i n + (1 : Int32))) &&& 0x3f).toInt64).toBitVec = _
    rw [own_shl _ _ (3 * (n + 1)) (by omega) e3, ih, h n (by omega), BitVec.or_assoc, own_join b n (by omega)]
theorem own_or8 (a b : Int32) (ha : 0 ≤ a.toInt) (ha' : a.toInt < 8) (hb : 0 ≤ b.toInt) (hb' : b.toInt < 8) : 0 ≤ (a ||| b).toInt ∧ (a ||| b).toInt < 8 := by
  have ea : a.toInt = a.toBitVec.toInt := rfl
  have eb : b.toInt = b.toBitVec.toInt := rfl
  have eo : (a ||| b).toInt = (a.toBitVec ||| b.toBitVec).toInt := rfl
  have la := a.toBitVec.isLt; have lb := b.toBitVec.isLt
  rw [ea, BitVec.toInt_eq_toNat_cond] at ha ha'
  rw [eb, BitVec.toInt_eq_toNat_cond] at hb hb'
  have a1 : a.toBitVec.toNat < 2 ^ 3 := by split at ha <;> omega
  have b1 : b.toBitVec.toNat < 2 ^ 3 := by split at hb <;> omega
  have o1 := Nat.or_lt_two_pow a1 b1
  rw [eo, BitVec.toInt_eq_toNat_cond, BitVec.toNat_or]
  split <;> omega
theorem own_orge (a b : Int32) (ha : 0 ≤ a.toInt) (hb : 0 ≤ b.toInt) : a.toInt ≤ (a ||| b).toInt ∧ b.toInt ≤ (a ||| b).toInt := by
  have ea : a.toInt = a.toBitVec.toInt := rfl
  have eb : b.toInt = b.toBitVec.toInt := rfl
  have eo : (a ||| b).toInt = (a.toBitVec ||| b.toBitVec).toInt := rfl
  have la := a.toBitVec.isLt; have lb := b.toBitVec.isLt
  rw [ea, BitVec.toInt_eq_toNat_cond] at ha
  rw [eb, BitVec.toInt_eq_toNat_cond] at hb
  have a1 : a.toBitVec.toNat < 2 ^ 31 := by split at ha <;> omega
  have b1 : b.toBitVec.toNat < 2 ^ 31 := by split at hb <;> omega
  have o1 := Nat.or_lt_two_pow a1 b1
  have o2 : a.toBitVec.toNat ≤ a.toBitVec.toNat ||| b.toBitVec.toNat := Nat.left_le_or
  have o3 : b.toBitVec.toNat ≤ a.toBitVec.toNat ||| b.toBitVec.toNat := Nat.right_le_or
  rw [eo, ea, eb, BitVec.toInt_eq_toNat_cond, BitVec.toInt_eq_toNat_cond, BitVec.toInt_eq_toNat_cond, BitVec.toNat_or]
  split <;> split <;> split <;> omega
theorem own_ob (s : Int32) (xs : List Int32) (h0 : 0 ≤ s.toInt) (hx : ∀ i, 0 ≤ (xs.getD i 0).toInt) : ∀ n, 0 ≤ (own_o s xs n).toInt ∧ s.toInt ≤ (own_o s xs n).toInt ∧ ∀ i, i < n → (xs.getD i 0).toInt ≤ (own_o s xs n).toInt
  | 0 => ⟨h0, Int.le_refl _, fun i hi => absurd hi (Nat.not_lt_zero _)⟩
  | n + 1 => by
    obtain ⟨a, b, c⟩ := own_ob s xs h0 hx n
    obtain ⟨p, q⟩ := own_orge (own_o s xs n) (xs.getD n 0) a (hx n)
    have e : own_o s xs (n + 1) = own_o s xs n ||| xs.getD n 0 := rfl
    rw [e]
    refine ⟨by omega, by omega, fun i hi => ?_⟩
    by_cases h : i = n
    · subst h; exact q
    · have := c i (by omega); omega
theorem own_o8 (s : Int32) (xs : List Int32) (h0 : 0 ≤ s.toInt) (h8 : s.toInt < 8) : ∀ n, (∀ i, i < n → 0 ≤ (xs.getD i 0).toInt ∧ (xs.getD i 0).toInt < 8) → 0 ≤ (own_o s xs n).toInt ∧ (own_o s xs n).toInt < 8
  | 0, _ => ⟨h0, h8⟩
  | n + 1, h => by
    obtain ⟨a, b⟩ := own_o8 s xs h0 h8 n fun i hi => h i (by omega)
    exact own_or8 _ _ a b (h n (by omega)).1 (h n (by omega)).2
theorem own_rep (q vb : BitVec 64) (hv : vb.toNat < 8) (i j : Nat) (hi : i < 20) (hj : j < 20) : (((q &&& ((7#64 <<< (3 * j)) ^^^ BitVec.allOnes 64)) ||| (vb <<< (3 * j))) >>> (3 * i)) &&& 7#64 = if i = j then vb else (q >>> (3 * i)) &&& 7#64 := by
  have hb : ∀ t, ¬ t < 3 → vb.getLsbD t = false := fun t ht => by
    show vb.toNat.testBit t = false
    exact Nat.testBit_lt_two_pow (Nat.lt_of_lt_of_le hv (by show 2 ^ 3 ≤ 2 ^ t; exact Nat.pow_le_pow_right (by decide) (by omega)))
  apply BitVec.eq_of_getLsbD_eq
  intro t ht
  by_cases h3 : t < 3
  · have b1 : 3 * i + t < 64 := by omega
    by_cases e : i = j
    · subst e
      have b2 : ¬ 3 * i + t < 3 * i := by omega
      have b3 : 3 * i + t - 3 * i = t := by omega
      rw [if_pos rfl]
      simp only [BitVec.getLsbD_or, BitVec.getLsbD_and, BitVec.getLsbD_xor, BitVec.getLsbD_shiftLeft, BitVec.getLsbD_ushiftRight, BitVec.getLsbD_allOnes, decide_true, decide_false, Bool.not_false, Bool.not_true, Bool.true_and, Bool.and_true, Bool.false_and, Bool.and_false, Bool.or_false, Bool.false_or, Bool.xor_self, Bool.true_xor, Bool.xor_true, Bool.false_xor, Bool.xor_false, own_b7, h3, b1, b2, b3]
    · rw [if_neg e]
      by_cases l : 3 * i + t < 3 * j
      · simp only [BitVec.getLsbD_or, BitVec.getLsbD_and, BitVec.getLsbD_xor, BitVec.getLsbD_shiftLeft, BitVec.getLsbD_ushiftRight, BitVec.getLsbD_allOnes, decide_true, decide_false, Bool.not_false, Bool.not_true, Bool.true_and, Bool.and_true, Bool.false_and, Bool.and_false, Bool.or_false, Bool.false_or, Bool.xor_self, Bool.true_xor, Bool.xor_true, Bool.false_xor, Bool.xor_false, own_b7, h3, b1, l]
      · have b3 : ¬ 3 * i + t - 3 * j < 3 := by omega
        simp only [BitVec.getLsbD_or, BitVec.getLsbD_and, BitVec.getLsbD_xor, BitVec.getLsbD_shiftLeft, BitVec.getLsbD_ushiftRight, BitVec.getLsbD_allOnes, decide_true, decide_false, Bool.not_false, Bool.not_true, Bool.true_and, Bool.and_true, Bool.false_and, Bool.and_false, Bool.or_false, Bool.false_or, Bool.xor_self, Bool.true_xor, Bool.xor_true, Bool.false_xor, Bool.xor_false, own_b7, h3, b1, l, b3, hb _ b3]
  · have r : ((if i = j then vb else (q >>> (3 * i)) &&& 7#64)).getLsbD t = false := by
      split
      · exact hb t h3
      · simp [own_b7, h3]
    rw [r]; simp [own_b7, h3]
theorem own_vb (v : Int32) (h0 : 0 ≤ v.toInt) (h8 : v.toInt < 8) : v.toInt64.toBitVec.toNat < 8 := by
  have e := Jvm.Kit.i64_of_i32 v
  have e2 : v.toInt64.toInt = v.toInt64.toBitVec.toInt := rfl
  rw [e2, BitVec.toInt_eq_toNat_cond] at e
  have := v.toInt64.toBitVec.isLt
  split at e <;> omega
theorem own_setd (l : List Int32) (j : Nat) (v : Int32) (hj : j < l.length) (i : Nat) : (l.set j v).getD i 0 = if i = j then v else l.getD i 0 := by
  simp only [List.getD_eq_getElem?_getD]
  by_cases h : i = j
  · subst h; simp [hj]
  · rw [List.getElem?_set_ne (fun q => h q.symm), if_neg h]
theorem own_e7 (w : Int64) : 0 ≤ (w.toInt32 &&& (7 : Int32)).toInt ∧ (w.toInt32 &&& (7 : Int32)).toInt < 8 := by
  rw [Jvm.Kit.i32_mask _ 7 (k := 3) (by decide) (by decide)]; omega
theorem own_3k (p : Int32) (n : Nat) (hp : p.toInt = n) (hn : n ≤ 30) : ((3 : Int32) * p).toInt = (3 * n : Nat) ∧ ((3 : Int32) * (p + (1 : Int32))).toInt = (3 * (n + 1) : Nat) := by
  have o : (1 : Int32).toInt = 1 := rfl
  have t : (3 : Int32).toInt = 3 := rfl
  have e2 : (p + (1 : Int32)).toInt = n + 1 := by rw [Jvm.Kit.i32_add] <;> rw [hp, o] <;> omega
  refine ⟨?_, ?_⟩
  · rw [Jvm.Kit.i32_mul] <;> rw [hp, t] <;> omega
  · rw [Jvm.Kit.i32_mul] <;> rw [e2, t] <;> omega
theorem own_el (q : Int64) : ∀ i, i < 19 → (((own_xs q).getD i 0).toInt64).toBitVec = (q.toBitVec >>> (3 * i)) &&& 7#64 := by
  intro i hi
  have c0 : ((q.toInt32 &&& (7 : Int32)).toInt64).toBitVec = (q.toBitVec >>> (3 * 0)) &&& 7#64 := by rw [own_7]; simp
  have c : ∀ (e : Int32) (k : Nat), k < 64 → e.toInt = k → (((((q.toUInt64 >>> (e &&& 0x3f).toInt64.toUInt64).toInt64).toInt32) &&& (7 : Int32)).toInt64).toBitVec = (q.toBitVec >>> k) &&& 7#64 := fun e k hk he => by rw [own_7, own_shr q e k hk he]
  match i, hi with
  | 0, _ => exact c0
  | 1, _ => exact c 3 3 (by decide) rfl
  | 2, _ => exact c 6 6 (by decide) rfl
  | 3, _ => exact c 9 9 (by decide) rfl
  | 4, _ => exact c 12 12 (by decide) rfl
  | 5, _ => exact c 15 15 (by decide) rfl
  | 6, _ => exact c 18 18 (by decide) rfl
  | 7, _ => exact c 21 21 (by decide) rfl
  | 8, _ => exact c 24 24 (by decide) rfl
  | 9, _ => exact c 27 27 (by decide) rfl
  | 10, _ => exact c 30 30 (by decide) rfl
  | 11, _ => exact c 33 33 (by decide) rfl
  | 12, _ => exact c 36 36 (by decide) rfl
  | 13, _ => exact c 39 39 (by decide) rfl
  | 14, _ => exact c 42 42 (by decide) rfl
  | 15, _ => exact c 45 45 (by decide) rfl
  | 16, _ => exact c 48 48 (by decide) rfl
  | 17, _ => exact c 51 51 (by decide) rfl
  | 18, _ => exact c 54 54 (by decide) rfl
  | n + 19, h => exact absurd h (by omega)
theorem own_elb (q : Int64) (i : Nat) : 0 ≤ ((own_xs q).getD i 0).toInt ∧ ((own_xs q).getD i 0).toInt < 8 := by
  by_cases h : i < 19
  · match i, h with
    | 0, _ => exact own_e7 _
    | 1, _ => exact own_e7 _
    | 2, _ => exact own_e7 _
    | 3, _ => exact own_e7 _
    | 4, _ => exact own_e7 _
    | 5, _ => exact own_e7 _
    | 6, _ => exact own_e7 _
    | 7, _ => exact own_e7 _
    | 8, _ => exact own_e7 _
    | 9, _ => exact own_e7 _
    | 10, _ => exact own_e7 _
    | 11, _ => exact own_e7 _
    | 12, _ => exact own_e7 _
    | 13, _ => exact own_e7 _
    | 14, _ => exact own_e7 _
    | 15, _ => exact own_e7 _
    | 16, _ => exact own_e7 _
    | 17, _ => exact own_e7 _
    | 18, _ => exact own_e7 _
    | n + 19, h => exact absurd h (by omega)
  · have e : (own_xs q).getD i 0 = 0 := by rw [List.getD_eq_getElem?_getD, List.getElem?_eq_none (by show 19 ≤ i; omega)]; rfl
    rw [e]; decide
theorem own_v1 (s N : Int32) (xs : List Int32) (n : Nat) (b : Int64) (hN : N.toInt = n) (hn : n < 20) (h0 : 0 ≤ s.toInt) (h8 : s.toInt < 8) (hx : ∀ i, i < n → 0 ≤ (xs.getD i 0).toInt ∧ (xs.getD i 0).toInt < 8) (hb : ∀ i, i < n → ((xs.getD i 0).toInt64).toBitVec = (b.toBitVec >>> (3 * i)) &&& 7#64) :
    v1 s N xs = ((s.toInt64 ||| ((b &&& (((1 : Int64) <<< (((3 : Int32) * N) &&& 0x3f).toInt64) - (1 : Int64))) <<< ((3 : Int32) &&& 0x3f).toInt64)) ||| ((1 : Int64) <<< (((3 : Int32) * (N + (1 : Int32))) &&& 0x3f).toInt64)) := by
  have hc : N.toNatClampNeg = n := by simp only [own_tnc]; omega
  have l20 : N < (20 : Int32) := by rw [Int32.lt_iff_toInt_lt, hN, show (20 : Int32).toInt = 20 from rfl]; omega
  obtain ⟨-, o8⟩ := own_o8 s xs h0 h8 n hx
  have lo : own_o s xs N.toNatClampNeg < (8 : Int32) := by rw [hc, Int32.lt_iff_toInt_lt]; exact o8
  unfold v1 j1_0
  rw [if_pos l20, if_pos lo, hc]
  congr 1
  rw [← Int64.toBitVec_inj, own_key s xs b.toBitVec n (by omega) hb]
  show _ = s.toInt64.toBitVec ||| ((b &&& (((1 : Int64) <<< (((3 : Int32) * N) &&& 0x3f).toInt64) - (1 : Int64))) <<< ((3 : Int32) &&& 0x3f).toInt64).toBitVec
  rw [own_shl _ (3 : Int32) 3 (by decide) rfl]
  show _ = s.toInt64.toBitVec ||| ((b.toBitVec &&& (((1 : Int64) <<< (((3 : Int32) * N) &&& 0x3f).toInt64).toBitVec - 1#64)) <<< 3)
  rw [own_shl _ _ (3 * n) (by omega) (own_3k N n hN (by omega)).1]
  rfl
theorem own_v1n (s N : Int32) (xs : List Int32) (n : Nat) (hN : N.toInt = n) (hn : n < 20) (h0 : 0 ≤ s.toInt) (hx : ∀ i, 0 ≤ (xs.getD i 0).toInt) (hbad : 8 ≤ s.toInt ∨ ∃ i, i < n ∧ 8 ≤ (xs.getD i 0).toInt) : v1 s N xs = (-1 : Int64) := by
  have hc : N.toNatClampNeg = n := by simp only [own_tnc]; omega
  have l20 : N < (20 : Int32) := by rw [Int32.lt_iff_toInt_lt, hN, show (20 : Int32).toInt = 20 from rfl]; omega
  obtain ⟨a, b, c⟩ := own_ob s xs h0 hx n
  have lo : ¬ own_o s xs N.toNatClampNeg < (8 : Int32) := by
    rw [hc, Int32.lt_iff_toInt_lt, show (8 : Int32).toInt = 8 from rfl]
    rcases hbad with h | ⟨i, hi, h⟩
    · omega
    · have := c i hi; omega
  unfold v1 j1_0
  rw [if_pos l20, if_neg lo]
theorem own_chg (S B q vb : BitVec 64) (n j : Nat) (hn : n < 20) (hj : j < n) (hS : S.toNat < 8) (hv : vb.toNat < 8) :
    (((S ||| ((q &&& ((1#64 <<< (3 * n)) - 1#64)) <<< 3)) ||| (1#64 <<< (3 * (n + 1)))) &&& ((7#64 <<< (3 * (j + 1))) ^^^ BitVec.allOnes 64)) ||| (vb <<< (3 * (j + 1))) =
    (S ||| ((((q &&& ((7#64 <<< (3 * j)) ^^^ BitVec.allOnes 64)) ||| (vb <<< (3 * j))) &&& ((1#64 <<< (3 * n)) - 1#64)) <<< 3)) ||| (1#64 <<< (3 * (n + 1))) := by
  have hb : ∀ t, ¬ t < 3 → vb.getLsbD t = false := fun t ht => by
    show vb.toNat.testBit t = false
    exact Nat.testBit_lt_two_pow (Nat.lt_of_lt_of_le hv (by show 2 ^ 3 ≤ 2 ^ t; exact Nat.pow_le_pow_right (by decide) (by omega)))
  have hs : ∀ t, ¬ t < 3 → S.getLsbD t = false := fun t ht => by
    show S.toNat.testBit t = false
    exact Nat.testBit_lt_two_pow (Nat.lt_of_lt_of_le hS (by show 2 ^ 3 ≤ 2 ^ t; exact Nat.pow_le_pow_right (by decide) (by omega)))
  apply BitVec.eq_of_getLsbD_eq
  intro t ht
  simp only [BitVec.getLsbD_or, BitVec.getLsbD_and, BitVec.getLsbD_xor, BitVec.getLsbD_shiftLeft, BitVec.getLsbD_allOnes, own_b7, BitVec.getLsbD_one, ht, decide_true, Bool.true_and]
  by_cases h3 : t < 3
  · have a1 : t < 3 * (j + 1) := by omega
    have a2 : t < 3 * (n + 1) := by omega
    simp [h3, a1, a2]
  · have m1 : (1#64 <<< (3 * n) - 1#64).getLsbD (t - 3) = decide (t - 3 < 3 * n) := own_mk _ (by omega) _ (by omega)
    rw [m1, hs t h3]
    have t64 : t - 3 < 64 := by omega
    by_cases c1 : t < 3 * (j + 1)
    · have a2 : t < 3 * (n + 1) := by omega
      have a3 : t - 3 < 3 * j := by omega
      have a4 : t - 3 < 3 * n := by omega
      simp [h3, c1, a2, a3, a4, t64]
    · by_cases c2 : t - 3 * (j + 1) < 3
      · have a2 : t < 3 * (n + 1) := by omega
        have a3 : ¬ t - 3 < 3 * j := by omega
        have a4 : t - 3 < 3 * n := by omega
        have a5 : t - 3 - 3 * j = t - 3 * (j + 1) := by omega
        simp [h3, c1, c2, a2, a3, a4, a5, t64]
      · have a3 : ¬ t - 3 < 3 * j := by omega
        have a5 : t - 3 - 3 * j = t - 3 * (j + 1) := by omega
        rw [hb _ c2]
        by_cases a2 : t < 3 * (n + 1)
        · have a4 : t - 3 < 3 * n := by omega
          simp [h3, c1, c2, a2, a3, a4, a5, t64, hb _ c2]
        · have a4 : ¬ t - 3 < 3 * n := by omega
          simp [h3, c1, c2, a2, a3, a4, a5, t64]
theorem own_notm (S q : BitVec 64) (n : Nat) (hn : n < 20) (hS : S.toNat < 8) : (S ||| ((q &&& ((1#64 <<< (3 * n)) - 1#64)) <<< 3)) ||| (1#64 <<< (3 * (n + 1))) ≠ BitVec.allOnes 64 := by
  intro h
  have hs : S.getLsbD 63 = false := by
    show S.toNat.testBit 63 = false
    exact Nat.testBit_lt_two_pow (Nat.lt_of_lt_of_le hS (by decide))
  have := congrArg (fun b => b.getLsbD 63) h
  have m1 : (1#64 <<< (3 * n) - 1#64).getLsbD 60 = decide (60 < 3 * n) := own_mk _ (by omega) _ (by omega)
  have a1 : ¬ 60 < 3 * n := by omega
  have a2 : ¬ 63 < 3 * (n + 1) := by omega
  have a3 : ¬ 63 - 3 * (n + 1) = 0 := by omega
  simp only [BitVec.getLsbD_or, BitVec.getLsbD_and, BitVec.getLsbD_shiftLeft, BitVec.getLsbD_allOnes, BitVec.getLsbD_one, hs, m1, a1, a2, a3] at this
  simp [m1, a1] at this
theorem law_one (q0 : Int64) (p1 p2 p3 p4 p5 : Int32) : (v0 q0 p1 p2 p3 p4 p5) = 1 := by
  have es : (p1 &&& (7 : Int32)).toInt = p1.toInt % 2 ^ 3 := Jvm.Kit.i32_mask p1 7 (k := 3) (by decide) (by decide)
  have hv : 0 ≤ (j0_0 p4 p5).toInt := by
    unfold j0_0; split
    · rw [Jvm.Kit.i32_mask p4 2147483647 (k := 31) (by decide) (by decide)]; omega
    · rw [Jvm.Kit.i32_mask p4 7 (k := 3) (by decide) (by decide)]; omega
  have hN := own_nn p2
  have hj := own_ss p3 (n := ((1 : Int32) + ((p2 &&& (2147483647 : Int32)) % (19 : Int32)))) (by omega)
  unfold v0 j0_1
  generalize j0_0 p4 p5 = v at *
  generalize (p3 &&& (2147483647 : Int32)) % ((1 : Int32) + ((p2 &&& (2147483647 : Int32)) % (19 : Int32))) = jj at *
  obtain ⟨n, hn⟩ : ∃ n : Nat, ((1 : Int32) + ((p2 &&& (2147483647 : Int32)) % (19 : Int32))).toInt = n := ⟨(1 + p2.toInt % 2 ^ 31 % 19).toNat, by omega⟩
  obtain ⟨j, hjn⟩ : ∃ j : Nat, jj.toInt = j := ⟨jj.toInt.toNat, by omega⟩
  have hc : jj.toNatClampNeg = j := by simp only [own_tnc]; omega
  have hs0 : 0 ≤ (p1 &&& (7 : Int32)).toInt := by omega
  have hs8 : (p1 &&& (7 : Int32)).toInt < 8 := by omega
  have n19 : n ≤ 19 := by omega
  generalize ((1 : Int32) + ((p2 &&& (2147483647 : Int32)) % (19 : Int32))) = N at *
  generalize (p1 &&& (7 : Int32)) = s at *
  rw [hc]
  have hj19 : j < 19 := by omega
  have hd : ∀ i, ((own_xs q0).set j v).getD i 0 = if i = j then v else (own_xs q0).getD i 0 := own_setd _ _ _ hj19
  have hx : ∀ i, 0 ≤ (((own_xs q0).set j v).getD i 0).toInt := fun i => by
    rw [hd]; split
    · exact hv
    · exact (own_elb q0 i).1
  have k3 := own_3k N n hn (by omega)
  have k4 := own_3k jj j hjn (by omega)
  have e1 := own_v1 s N (own_xs q0) n q0 hn (by omega) hs0 hs8 (fun i _ => own_elb q0 i) (fun i hi => own_el q0 i (by omega))
  have b1 : (v1 s N (own_xs q0)).toBitVec = (s.toInt64.toBitVec ||| ((q0.toBitVec &&& ((1#64 <<< (3 * n)) - 1#64)) <<< 3)) ||| (1#64 <<< (3 * (n + 1))) := by
    rw [e1]
    show (s.toInt64.toBitVec ||| ((q0 &&& (((1 : Int64) <<< (((3 : Int32) * N) &&& 0x3f).toInt64) - (1 : Int64))) <<< ((3 : Int32) &&& 0x3f).toInt64).toBitVec) ||| ((1 : Int64) <<< (((3 : Int32) * (N + (1 : Int32))) &&& 0x3f).toInt64).toBitVec = _
    rw [own_shl _ (3 : Int32) 3 (by decide) rfl, own_shl _ _ (3 * (n + 1)) (by omega) k3.2]
    show (s.toInt64.toBitVec ||| ((q0.toBitVec &&& (((1 : Int64) <<< (((3 : Int32) * N) &&& 0x3f).toInt64).toBitVec - 1#64)) <<< 3)) ||| _ = _
    rw [own_shl _ _ (3 * n) (by omega) k3.1]
    rfl
  have hS := own_vb s hs0 hs8
  have nm : ¬ v1 s N (own_xs q0) = (-1 : Int64) := by
    rw [← Int64.toBitVec_inj, b1]
    exact own_notm _ _ n (by omega) hS
  rw [if_neg nm]
  have z8 : (8 : Int32).toInt = 8 := rfl
  have main : j2_0 (v1 s N (own_xs q0)) jj v = v1 s N ((own_xs q0).set j v) := by
    unfold j2_0
    by_cases c4 : v < (8 : Int32)
    · rw [if_pos c4]
      rw [Int32.lt_iff_toInt_lt] at c4
      have e2 := own_v1 s N ((own_xs q0).set j v) n ((q0 &&& (((7 : Int64) <<< (((3 : Int32) * jj) &&& 0x3f).toInt64) ^^^ (-1 : Int64))) ||| (v.toInt64 <<< (((3 : Int32) * jj) &&& 0x3f).toInt64)) hn (by omega) hs0 hs8 (fun i hi => by
        rw [hd]; split
        · exact ⟨hv, by omega⟩
        · exact own_elb q0 i) (fun i hi => by
        rw [hd]
        show _ = ((q0.toBitVec &&& (((7 : Int64) <<< (((3 : Int32) * jj) &&& 0x3f).toInt64).toBitVec ^^^ (-1 : Int64).toBitVec)) ||| (v.toInt64 <<< (((3 : Int32) * jj) &&& 0x3f).toInt64).toBitVec) >>> (3 * i) &&& 7#64
        rw [own_shl _ _ (3 * j) (by omega) k4.1, own_shl _ _ (3 * j) (by omega) k4.1]
        refine Eq.trans ?_ (own_rep q0.toBitVec v.toInt64.toBitVec (own_vb v hv (by omega)) i j (by omega) (by omega)).symm
        split
        · rfl
        · exact own_el q0 i (by omega))
      have b2 : (v1 s N ((own_xs q0).set j v)).toBitVec = (s.toInt64.toBitVec ||| ((((q0.toBitVec &&& ((7#64 <<< (3 * j)) ^^^ BitVec.allOnes 64)) ||| (v.toInt64.toBitVec <<< (3 * j))) &&& ((1#64 <<< (3 * n)) - 1#64)) <<< 3)) ||| (1#64 <<< (3 * (n + 1))) := by
        rw [e2]
        generalize hB : (q0 &&& (((7 : Int64) <<< (((3 : Int32) * jj) &&& 0x3f).toInt64) ^^^ (-1 : Int64))) ||| (v.toInt64 <<< (((3 : Int32) * jj) &&& 0x3f).toInt64) = B
        have hB' : B.toBitVec = (q0.toBitVec &&& ((7#64 <<< (3 * j)) ^^^ BitVec.allOnes 64)) ||| (v.toInt64.toBitVec <<< (3 * j)) := by
          rw [← hB]
          show (q0.toBitVec &&& (((7 : Int64) <<< (((3 : Int32) * jj) &&& 0x3f).toInt64).toBitVec ^^^ (-1 : Int64).toBitVec)) ||| (v.toInt64 <<< (((3 : Int32) * jj) &&& 0x3f).toInt64).toBitVec = _
          rw [own_shl _ _ (3 * j) (by omega) k4.1, own_shl _ _ (3 * j) (by omega) k4.1]
          rfl
        rw [← hB']
        show (s.toInt64.toBitVec ||| ((B &&& (((1 : Int64) <<< (((3 : Int32) * N) &&& 0x3f).toInt64) - (1 : Int64))) <<< ((3 : Int32) &&& 0x3f).toInt64).toBitVec) ||| ((1 : Int64) <<< (((3 : Int32) * (N + (1 : Int32))) &&& 0x3f).toInt64).toBitVec = _
        rw [own_shl _ (3 : Int32) 3 (by decide) rfl, own_shl _ _ (3 * (n + 1)) (by omega) k3.2]
        show (s.toInt64.toBitVec ||| ((B.toBitVec &&& (((1 : Int64) <<< (((3 : Int32) * N) &&& 0x3f).toInt64).toBitVec - 1#64)) <<< 3)) ||| _ = _
        rw [own_shl _ _ (3 * n) (by omega) k3.1]
        rfl
      rw [← Int64.toBitVec_inj, b2, ← own_chg s.toInt64.toBitVec 0 q0.toBitVec v.toInt64.toBitVec n j (by omega) (by omega) hS (own_vb v hv (by omega)), ← b1]
      show ((v1 s N (own_xs q0)).toBitVec &&& (((7 : Int64) <<< (((3 : Int32) * (jj + (1 : Int32))) &&& 0x3f).toInt64).toBitVec ^^^ (-1 : Int64).toBitVec)) ||| (v.toInt64 <<< (((3 : Int32) * (jj + (1 : Int32))) &&& 0x3f).toInt64).toBitVec = _
      rw [own_shl _ _ (3 * (j + 1)) (by omega) k4.2, own_shl _ _ (3 * (j + 1)) (by omega) k4.2]
      rfl
    · rw [if_neg c4]
      rw [Int32.lt_iff_toInt_lt] at c4
      exact (own_v1n s N _ n hn (by omega) hs0 hx (Or.inr ⟨j, by omega, by rw [hd, if_pos rfl]; omega⟩)).symm
  rw [if_pos main]
  rfl
set_option maxRecDepth 65536 in
set_option maxHeartbeats 40000000 in
theorem comes_1 {Post : Tables → Env → Array Value → State → Outcome → State → Prop} (hpost : ∀ tb e args s v u, (limb_1_1.after args s (.returned v) u = true ∧ limb_1_2.after args s (.returned v) u = true ∧ True) → FrameEnd s (.returned v) u (Jvm.fieldLocs frame_1_writes args s ++ Jvm.arrayLocs frame_1_arrays args s ++ Jvm.staticLocs frame_1_statics s) 16 128 → Post tb e args s (.returned v) u) :
    ArmFor flags0 classFile x code maxLocals ret World_1 tables_1 room_1 Calls_1 rest_1 Pre_1 Post := by
  intro l hfl _ _ p e ha hc hk s m args below hf hA hF happ hP
  obtain ⟨hcalls, hrest, hpre⟩ := hP
  obtain ⟨-, -, -, hnamed, -, -, -, hat⟩ := (Spec.applies_iff hf).mp happ
  obtain ⟨hg, hn⟩ := and_e (Cond.before_iff.mp (show (Jvm.Cond.and given_1 narrow_1).before args s = true from hpre))
  obtain ⟨hcount, r0⟩ := and_e hg
  obtain ⟨k0, r1⟩ := and_e r0
  obtain ⟨k1, r2⟩ := and_e r1
  obtain ⟨k2, r3⟩ := and_e r2
  obtain ⟨k3, r4⟩ := and_e r3
  obtain ⟨k4, r5⟩ := and_e r4
  have k5 := r5
  obtain ⟨w0, w1, w2, w3, w4, w5, rfl⟩ : ∃ w0 w1 w2 w3 w4 w5 : Value, args = #[w0, w1, w2, w3, w4, w5] := by
    have hs : args.size = 6 := by simpa [Cond.value, given_1] using hcount
    obtain ⟨L⟩ := args
    match L, hs with
    | [w0, w1, w2, w3, w4, w5], _ => exact ⟨w0, w1, w2, w3, w4, w5, rfl⟩
  have hw := fun d (hd : d ∈ tables_1) => atoms_spec (ws := Jvm.Cond.code x code maxLocals ret :: tables_1) hat d (List.mem_cons_of_mem _ hd)
  obtain ⟨i0, ei0⟩ := isL_v k0
  obtain rfl : w0 = (.long i0) := Option.some.inj ei0
  obtain ⟨i1, ei1⟩ := is_v k1
  obtain rfl : w1 = (.int i1) := Option.some.inj ei1
  obtain ⟨i2, ei2⟩ := is_v k2
  obtain rfl : w2 = (.int i2) := Option.some.inj ei2
  obtain ⟨i3, ei3⟩ := is_v k3
  obtain rfl : w3 = (.int i3) := Option.some.inj ei3
  obtain ⟨i4, ei4⟩ := is_v k4
  obtain rfl : w4 = (.int i4) := Option.some.inj ei4
  obtain ⟨i5, ei5⟩ := is_v k5
  obtain rfl : w5 = (.int i5) := Option.some.inj ei5
  obtain ⟨n, o, h1, h2, h3, v, L, rfl, ⟨hv, N⟩, hq⟩ := rm0 l s _ hw tables_1 i0 i1 i2 i3 i4 i5 s.heap s.heap.size (Nat.le_refl _) p e ha hc hk s m _ below hf ((Spec.applies_iff_loose hf).mp happ).1 ⟨rfl, State.Warmed39.refl s, rfl⟩ trivial
  rw [law_one i0 i1 i2 i3 i4 i5] at hv
  subst hv
  refine ⟨n, _, h1, h2, h3, hpost _ _ _ _ _ _ ⟨Cond.after_iff.mpr rfl, Cond.after_iff.mpr (eq_i res_at (Term.int_eval (1)) rfl), trivial⟩ ⟨hq.1, hq.2.1, (hq.2.2.sift fun y hy => Or.inr (N y hy)).mono (by decide) (by decide)⟩⟩
theorem main_1_1 : Claimed_1_1 := comes_1 fun _ _ _ _ _ _ h hF => ⟨h.1, hF⟩
theorem main_1_2 : Claimed_1_2 := comes_1 fun _ _ _ _ _ _ h hF => ⟨h.2.1, hF⟩
end Jvm.Pilot.@@N@@
namespace Jvm.Pilot.@@N@@
open Jvm Jvm.ClassFile Sem Op Lib Jvm.Free Jvm.Stand Jvm.Pilot.@@N@@.Jvm.D
/-! MADE BY PROGRAM (witnessworld.py) out of the Statement's table words and the real class files: 9 classes; the members and pool entries that the words name. The judged class is class 1, her method 1. -/
namespace start1
open Jvm.ClassFile
def u (s : String) : CpInfo := .utf8 (stringToUtf16 s)
/-- a pool by its gaps: so many unusable entries, then the entry; so many at the end -/
def gap : Nat → List CpInfo → List CpInfo
  | 0, r => r
  | n + 1, r => .unusable :: gap n r
def poolList (es : List (Nat × CpInfo)) (last : Nat) : List CpInfo := es.foldr (fun e r => gap e.1 (e.2 :: r)) (gap last [])
def pool (es : List (Nat × CpInfo)) (last : Nat) : Array CpInfo := ⟨poolList es last⟩
def fileOf (pool : Array CpInfo) (this : Nat) (attrs : Array Attribute := #[]) (ms : Array MethodInfo := #[]) (fl : Nat := 33) (sup : Nat := 0) (ifs : Array Nat := #[]) (fds : Array FieldInfo := #[]) : ClassFile where
  minorVersion := 0
  majorVersion := 65
  constantPool := pool
  accessFlags := fl
  thisClass := this
  superClass := sup
  interfaces := ifs
  fields := fds
  methods := ms
  attributes := attrs
def plain (name : String) (sup : Option ClassId) : Class where
  name := name
  kind := .ordinary
  loader := none
  accessFlags := 33
  super := sup
  interfaces := #[]
  cf := none
  fields := #[]
  methods := #[]
  instanceTypes := #[]
  staticTypes := #[]
  resolved := #[]
  callSites := []
  init := .initialized
  statics := none
  mirror := none

def pool0 : Array CpInfo := pool [(5, u "<init>"), (0, u "()V"), (1, .class_ 10), (1, u "java/lang/Object")] 113

def k0m0 : Method := { name := "<init>", desc := "()V", sig := { parameters := [], returnType := none }, accessFlags := 1, code := none }
/-- java/lang/Object -/
def k0 : Class := { plain "java/lang/Object" none with
  accessFlags := 33
  interfaces := #[]
  cf := some (fileOf pool0 8 #[] #[{ accessFlags := 1, nameIndex := 5, descriptorIndex := 6, attributes := #[] }] 33 0 #[] #[])
  fields := #[]
  methods := #[k0m0]
  instanceTypes := #[]
  staticTypes := #[]
  resolved := Array.replicate 124 none
  statics := none }

def pool1 : Array CpInfo := pool [(2, .class_ 4), (1, u "java/lang/Object"), (0, u "<init>"), (0, u "()V"), (0, .integer 2147483647), (0, .methodref 9 10), (0, .class_ 11), (0, .nameAndType 12 13), (0, u "com/example/dedlock/dedlock/csp/StateTable"), (0, u "key"), (0, u "(I[II)J"), (0, .long 18446744073709551615), (1, .methodref 9 17), (0, .nameAndType 18 19), (0, u "changed"), (0, u "(JII)J"), (0, .class_ 21), (0, u "com/example/dedlock/dedlock/csp/StateTableChangedPinLaw"), (2, u "law"), (0, u "(JIIIII)Z")] 5

def k1m0 : Method := { name := "<init>", desc := "()V", sig := { parameters := [], returnType := none }, accessFlags := 1, code := none }
def k1c1 : Code := { maxStack := 5, maxLocals := 18, code := code, exceptionTable := #[], attributes := #[] }
def k1m1 : Method := { name := "law", desc := "(JIIIII)Z", sig := { parameters := [.long, .int, .int, .int, .int, .int], returnType := some .boolean }, accessFlags := 9, code := some k1c1 }
/-- com/example/dedlock/dedlock/csp/StateTableChangedPinLaw -/
def k1 : Class := { plain "com/example/dedlock/dedlock/csp/StateTableChangedPinLaw" (some 0) with
  accessFlags := 49
  interfaces := #[]
  cf := some (fileOf pool1 20 #[] #[{ accessFlags := 1, nameIndex := 5, descriptorIndex := 6, attributes := #[] }, { accessFlags := 9, nameIndex := 24, descriptorIndex := 25, attributes := #[] }] 49 2 #[] #[])
  fields := #[]
  methods := #[k1m0, k1m1]
  instanceTypes := #[]
  staticTypes := #[]
  resolved := Array.replicate 31 none
  statics := none }

def pool2 : Array CpInfo := pool [(2, .class_ 4), (1, u "java/lang/Object"), (0, u "<init>"), (0, u "()V"), (1, u "[B"), (1, .class_ 12), (1, u "com/example/dedlock/dedlock/csp/StateTable"), (0, u "blocks"), (0, u "[[B"), (2, u "offsets"), (0, u "[I"), (2, u "entries"), (2, u "tags"), (2, u "code"), (0, .long 18446744073709551615), (1, .long 7), (3, u "key"), (0, u "(I[II)J"), (51, u "size"), (0, u "I"), (28, u "used"), (37, u "NONE"), (0, u "J"), (1, u "BLOCK"), (1, u "LOAD"), (0, u "D"), (0, u "PAD"), (1, u "PACKABLE"), (1, u "PACKED"), (3, u "changed"), (0, u "(JII)J")] 5

def k2m0 : Method := { name := "<init>", desc := "()V", sig := { parameters := [], returnType := none }, accessFlags := 0, code := none }
def k2c1 : Code := { maxStack := 7, maxLocals := 7, code := prog_80_method_2_code, exceptionTable := #[], attributes := #[] }
def k2m1 : Method := { name := "key", desc := "(I[II)J", sig := { parameters := [.int, (.array .int), .int], returnType := some .long }, accessFlags := 8, code := some k2c1 }
def k2c2 : Code := { maxStack := 6, maxLocals := 5, code := prog_80_method_3_code, exceptionTable := #[], attributes := #[] }
def k2m2 : Method := { name := "changed", desc := "(JII)J", sig := { parameters := [.long, .int, .int], returnType := some .long }, accessFlags := 8, code := some k2c2 }
/-- com/example/dedlock/dedlock/csp/StateTable -/
def k2 : Class := { plain "com/example/dedlock/dedlock/csp/StateTable" (some 0) with
  accessFlags := 48
  interfaces := #[]
  cf := some (fileOf pool2 10 #[] #[{ accessFlags := 0, nameIndex := 5, descriptorIndex := 6, attributes := #[] }, { accessFlags := 8, nameIndex := 34, descriptorIndex := 35, attributes := #[] }, { accessFlags := 8, nameIndex := 170, descriptorIndex := 171, attributes := #[] }] 48 2 #[] #[{ accessFlags := 24, nameIndex := 155, descriptorIndex := 156, attributes := #[] }, { accessFlags := 26, nameIndex := 158, descriptorIndex := 88, attributes := #[] }, { accessFlags := 26, nameIndex := 160, descriptorIndex := 161, attributes := #[] }, { accessFlags := 26, nameIndex := 162, descriptorIndex := 88, attributes := #[] }, { accessFlags := 26, nameIndex := 164, descriptorIndex := 88, attributes := #[] }, { accessFlags := 26, nameIndex := 166, descriptorIndex := 88, attributes := #[] }, { accessFlags := 2, nameIndex := 13, descriptorIndex := 14, attributes := #[] }, { accessFlags := 2, nameIndex := 117, descriptorIndex := 88, attributes := #[] }, { accessFlags := 2, nameIndex := 17, descriptorIndex := 18, attributes := #[] }, { accessFlags := 2, nameIndex := 87, descriptorIndex := 88, attributes := #[] }, { accessFlags := 2, nameIndex := 21, descriptorIndex := 18, attributes := #[] }, { accessFlags := 2, nameIndex := 24, descriptorIndex := 8, attributes := #[] }, { accessFlags := 2, nameIndex := 27, descriptorIndex := 8, attributes := #[] }])
  fields := #[{ name := "NONE", type := .long, accessFlags := 24, slot := 0, constantValue := 0 }, { name := "BLOCK", type := .int, accessFlags := 26, slot := 1, constantValue := 0 }, { name := "LOAD", type := .double, accessFlags := 26, slot := 2, constantValue := 0 }, { name := "PAD", type := .int, accessFlags := 26, slot := 3, constantValue := 0 }, { name := "PACKABLE", type := .int, accessFlags := 26, slot := 4, constantValue := 0 }, { name := "PACKED", type := .int, accessFlags := 26, slot := 5, constantValue := 0 }, { name := "blocks", type := (.array (.array .byte)), accessFlags := 2, slot := 0, constantValue := 0 }, { name := "used", type := .int, accessFlags := 2, slot := 1, constantValue := 0 }, { name := "offsets", type := (.array .int), accessFlags := 2, slot := 2, constantValue := 0 }, { name := "size", type := .int, accessFlags := 2, slot := 3, constantValue := 0 }, { name := "entries", type := (.array .int), accessFlags := 2, slot := 4, constantValue := 0 }, { name := "tags", type := (.array .byte), accessFlags := 2, slot := 5, constantValue := 0 }, { name := "code", type := (.array .byte), accessFlags := 2, slot := 6, constantValue := 0 }]
  methods := #[k2m0, k2m1, k2m2]
  instanceTypes := #[(.array (.array .byte)), .int, (.array .int), .int, (.array .int), (.array .byte), (.array .byte)]
  staticTypes := #[.long, .int, .double, .int, .int, .int]
  resolved := Array.replicate 177 none
  statics := none }

def pool3 : Array CpInfo := pool [(1, u "java/lang/Cloneable"), (0, .class_ 1), (0, u "java/lang/Object"), (0, .class_ 3)] 3

/-- java/lang/Cloneable -/
def k3 : Class := { plain "java/lang/Cloneable" (some 0) with
  accessFlags := 1537
  interfaces := #[]
  cf := some (fileOf pool3 2 #[] #[] 1537 4 #[] #[])
  fields := #[]
  methods := #[]
  instanceTypes := #[]
  staticTypes := #[]
  resolved := Array.replicate 8 none
  statics := none }

def pool4 : Array CpInfo := pool [(1, u "java/io/Serializable"), (0, .class_ 1), (0, u "java/lang/Object"), (0, .class_ 3)] 3

/-- java/io/Serializable -/
def k4 : Class := { plain "java/io/Serializable" (some 0) with
  accessFlags := 1537
  interfaces := #[]
  cf := some (fileOf pool4 2 #[] #[] 1537 4 #[] #[])
  fields := #[]
  methods := #[]
  instanceTypes := #[]
  staticTypes := #[]
  resolved := Array.replicate 8 none
  statics := none }

/-- the primitive byte -/
def k5 : Class := { plain "byte" none with kind := .primitive 'B', accessFlags := 0x411 }
/-- [B -/
def k6 : Class := { plain "[B" (some 0) with kind := .array 5 .byte, interfaces := #[3, 4], accessFlags := 1041 }

/-- the primitive int -/
def k7 : Class := { plain "int" none with kind := .primitive 'I', accessFlags := 0x411 }
/-- [I -/
def k8 : Class := { plain "[I" (some 0) with kind := .array 7 .int, interfaces := #[3, 4], accessFlags := 1041 }

def heap : Heap := #[]
def classes : Array Class := #[k0, k1, k2, k3, k4, k5, k6, k7, k8]
def interned : List (Array UInt16 × Addr) := []
def slotsUsed : Nat := 0
def theMethod : MethodId := ⟨1, 1⟩
def args0 : Array Value := #[.long 5, .int 5, .int 5, .int 5, .int 5, .int 5]
def aboutOver (below : List Frame) : State where
  vm := { classes := classes, interned := interned.toArray }
  heap := heap
  slotsUsed := slotsUsed
  threads := #[{ frames := .invoking theMethod args0 :: below }]
def below0 : List Frame := [.native { method := ⟨0, 0⟩, args := #[] }]
def about1 : State := aboutOver below0
def p0 : Program := .bare "" "" ""
def e0 : Env := launch0.env 0 0 0
theorem w_frames : about1.frames = Frame.invoking theMethod args0 :: below0 := rfl
set_option maxRecDepth 65536 in
theorem w_args : argsFit about1.vm theMethod args0 = true := by decide +kernel
set_option maxRecDepth 65536 in
theorem w_heap : heapFits about1 = true := by decide +kernel
set_option maxRecDepth 65536 in
theorem w_runnable : about1.curStatus? = some .runnable := by decide +kernel
set_option maxRecDepth 65536 in
theorem w_alone : about1.alone = true := by decide +kernel
set_option maxRecDepth 65536 in
theorem w_named : about1.methodNamed? x = some theMethod := by decide +kernel
set_option maxRecDepth 65536 in
theorem w_hears : about1.hears theMethod below0 = true := by decide +kernel
set_option maxRecDepth 65536 in
theorem w_ripe : about1.ripe theMethod args0 below0 = true := by decide +kernel
theorem w_running : about1.status = .running := rfl
set_option maxRecDepth 65536 in
theorem w_room : about1.hasRoom e0.platform room_1 = true :=
  launch0.hasRoom_least _ room_1 (by decide +kernel) (by decide +kernel) (by decide +kernel) (by decide +kernel) (by decide +kernel) (by decide +kernel)
theorem allAtoms_all (ts : List Jvm.Cond) (a : Array Jvm.Value) (st : Jvm.State) : (allAtoms ts).before a st = ts.all (fun c => c.before a st) := by
  induction ts with
  | nil => rfl
  | cons c t ih =>
    show (Jvm.Cond.and c (allAtoms t)).before a st = _
    rw [Jvm.Cond.before_and, ih, List.all_cons]
def words1 : List Jvm.Cond := Jvm.Cond.code x code maxLocals ret :: tables_1
/-- a 'code' word, met by the world's own term for the bytes: nothing is compared byte by byte -/
theorem code_word {y : MethodName} {bytes : ByteArray} {mx : Nat} {rt : Option FieldType} {a : Array Value} {s : State} {m : MethodId} {meth : Method} {c : Code} (h1 : s.methodNamed? y = some m) (h2 : s.vm.method? m = some meth) (h3 : meth.code = some c) (h4 : c.code = bytes)
    (h5 : (c.maxLocals == mx && c.exceptionTable.isEmpty && decide (c.maxStack ≤ mostOperands) && decide (meth.sig.returnType = rt) && !meth.locks && decide (parseMethodDescriptor y.desc = some meth.sig)) = true) : (Jvm.Cond.code y bytes mx rt).before a s = true := by
  simp only [Bool.and_eq_true, beq_iff_eq, Bool.not_eq_true', decide_eq_true_eq] at h5
  obtain ⟨⟨⟨⟨⟨g1, g2⟩, g3⟩, g4⟩, g5⟩, g6⟩ := h5
  simp [Cond.before, Cond.holds, Cond.value, h1, h2, h3, h4, g1, g2, g3, g4, g5, g6]
def isCode : Jvm.Cond → Bool
  | .code _ _ _ _ => true
  | _ => false
theorem all_split {L : List Jvm.Cond} {P : Jvm.Cond → Bool} (h1 : L.all (fun c => isCode c || P c) = true) (h2 : ∀ c ∈ L.filter isCode, P c = true) : L.all P = true := by
  refine List.all_eq_true.mpr fun c hc => ?_
  have h := List.all_eq_true.mp h1 c hc
  rcases Bool.eq_false_or_eq_true (isCode c) with hi | hi
  · exact h2 c (List.mem_filter.mpr ⟨hc, hi⟩)
  · simpa [hi] using h
set_option maxRecDepth 65536 in
theorem w_c0 : (Jvm.Cond.code x code maxLocals ret).before args0 about1 = true := code_word (m := ⟨1, 1⟩) (meth := k1m1) (c := k1c1) (by decide +kernel) rfl rfl rfl (by decide +kernel)
set_option maxRecDepth 65536 in
theorem w_c1 : (Jvm.Cond.code ({ cls := "com/example/dedlock/dedlock/csp/StateTable", name := "key", desc := "(I[II)J" } : Jvm.MethodName) prog_80_method_2_code (7 : Nat) (Option.some Jvm.ClassFile.FieldType.long)).before args0 about1 = true := code_word (m := ⟨2, 1⟩) (meth := k2m1) (c := k2c1) (by decide +kernel) rfl rfl rfl (by decide +kernel)
set_option maxRecDepth 65536 in
theorem w_c2 : (Jvm.Cond.code ({ cls := "com/example/dedlock/dedlock/csp/StateTable", name := "changed", desc := "(JII)J" } : Jvm.MethodName) prog_80_method_3_code (5 : Nat) (Option.some Jvm.ClassFile.FieldType.long)).before args0 about1 = true := code_word (m := ⟨2, 2⟩) (meth := k2m2) (c := k2c2) (by decide +kernel) rfl rfl rfl (by decide +kernel)
def codes1 : List Jvm.Cond := [Jvm.Cond.code x code maxLocals ret, Jvm.Cond.code ({ cls := "com/example/dedlock/dedlock/csp/StateTable", name := "key", desc := "(I[II)J" } : Jvm.MethodName) prog_80_method_2_code (7 : Nat) (Option.some Jvm.ClassFile.FieldType.long), Jvm.Cond.code ({ cls := "com/example/dedlock/dedlock/csp/StateTable", name := "changed", desc := "(JII)J" } : Jvm.MethodName) prog_80_method_3_code (5 : Nat) (Option.some Jvm.ClassFile.FieldType.long)]
set_option maxRecDepth 65536 in
theorem codes_eq : words1.filter isCode = codes1 := rfl
theorem w_codes : ∀ c ∈ words1.filter isCode, c.before args0 about1 = true := by
  rw [codes_eq]
  intro c hc
  simp only [codes1, List.mem_cons, List.not_mem_nil, or_false] at hc
  rcases hc with rfl | rfl | rfl
  · exact w_c0
  · exact w_c1
  · exact w_c2
set_option maxRecDepth 65536 in
theorem w_t1 : words1.all (fun c => isCode c || c.before args0 about1) = true := by decide +kernel
theorem w_tables : (allAtoms (Jvm.Cond.code x code maxLocals ret :: tables_1)).before args0 about1 = true := by
  rw [allAtoms_all]
  show words1.all (fun c => c.before args0 about1) = true
  refine all_split ?_ w_codes
  rw [w_t1]
set_option maxRecDepth 65536 in
theorem w_case : (Jvm.Cond.and given_1 narrow_1).before args0 about1 = true := by decide +kernel
theorem w_applies : (headSpec (Jvm.Cond.code x code maxLocals ret :: tables_1) room_1).applies x e0.platform about1 = true :=
  (Spec.applies_iff w_frames).mpr ⟨w_running, w_runnable, w_alone, w_named, w_hears, w_ripe, w_room, w_tables⟩
theorem atStart : AtStart classFile x code maxLocals ret World_1 tables_1 room_1 Calls_1 rest_1 Pre_1 launch0 p0 e0 about1 theMethod args0 below0 :=
  ⟨lists_1, trivial, launch0.admits_env _ _ _, launch0.least_env, fairChoices_fair.cas, fairChoices_fair.clock, w_frames, w_args, w_heap, w_applies, trivial, trivial, w_case⟩
end start1
theorem witness_1 : WitnessClaimed_1 := ⟨start1.p0, start1.e0, start1.about1, start1.theMethod, start1.args0, start1.below0, start1.atStart⟩
end Jvm.Pilot.@@N@@
