import JvmDerived
import JvmDerived.Pilot.@@N@@Statement
import JvmDerived.Pilot.@@N@@Code
set_option linter.unusedVariables false
set_option linter.unusedSimpArgs false
@@BLOCK:NumsL.lean.txt@@
namespace Jvm.Pilot.@@N@@
open Jvm Jvm.ClassFile Sem Op Lib Jvm.Free Jvm.Stand Jvm.LawKit Jvm.RoadKit Bundle Jvm.Pilot.@@N@@.Jvm.D
theorem own_m {Z : State} {aw : Array Value} (hw : ∀ d ∈ tables_1, d.before aw Z = true) (i : Nat) {d : Jvm.Cond} (h : tables_1[i]? = some d) : d.before aw Z = true := hw d (List.mem_of_getElem? h)
theorem own_hk {α : Type} {k : Nat} {a b : Array α} (x : k ≤ b.size) (e : a = b) : k ≤ a.size := e ▸ x
theorem own_tnc (x : Int32) : x.toNatClampNeg = x.toInt.toNat := rfl
theorem own_lc (x y : Int64) : lcmpW x y = if x > y then 1 else if x = y then 0 else -1 := rfl
theorem own_lt (x y : Int64) : lcmpW x y < 0 ↔ x < y := by
  rw [own_lc]; split
  · rename_i h; exact ⟨fun q => absurd q (by decide), fun q => absurd h (Int64.lt_asymm q)⟩
  · split
    · rename_i h1 h2; subst h2; exact ⟨fun q => absurd q (by decide), fun q => absurd q Int64.lt_irrefl⟩
    · rename_i h1 h2; exact ⟨fun _ => (Int64.lt_or_lt_of_ne h2).resolve_right h1, fun _ => by decide⟩
theorem own_gt (x y : Int64) : 0 < lcmpW x y ↔ y < x := by
  rw [own_lc]; split
  · rename_i h; exact ⟨fun _ => h, fun _ => by decide⟩
  · split
    · rename_i h1 h2; exact ⟨fun q => absurd q (by decide), fun q => absurd q h1⟩
    · rename_i h1 h2; exact ⟨fun q => absurd q (by decide), fun q => absurd q h1⟩
theorem own_eq (x y : Int64) : lcmpW x y = 0 ↔ x = y := by
  rw [own_lc]; split
  · rename_i h; exact ⟨fun q => absurd q (by decide), fun q => absurd (q ▸ h) Int64.lt_irrefl⟩
  · split
    · rename_i h1 h2; exact ⟨fun _ => h2, fun _ => rfl⟩
    · rename_i h1 h2; exact ⟨fun q => absurd q (by decide), fun q => absurd q h2⟩
def own_gi (l : List Int32) (j : Int32) : Int32 := l.getD j.toNatClampNeg 0
def own_gj (l : List Int64) (j : Int32) : Int64 := l.getD j.toNatClampNeg 0
def own_si (l : List Int32) (j : Int32) (v : Int32) : List Int32 := l.set j.toNatClampNeg v
def own_sj (l : List Int64) (j : Int32) (v : Int64) : List Int64 := l.set j.toNatClampNeg v
theorem own_gmi (l : List Int32) (n : Nat) : (l.map Value.int).getD n (.int (0 : Int32)) = .int (l.getD n 0) := by
  simp only [List.getD_eq_getElem?_getD, List.getElem?_map]
  cases l[n]? <;> rfl
theorem own_gmj (l : List Int64) (n : Nat) : (l.map Value.long).getD n (.long (0 : Int64)) = .long (l.getD n 0) := by
  simp only [List.getD_eq_getElem?_getD, List.getElem?_map]
  cases l[n]? <;> rfl
theorem own_a15 (x : Int32) : ¬ (x &&& (15 : Int32)) < 0 ∧ (x &&& (15 : Int32)) < (16 : Int32) := by
  have e : (x &&& (15 : Int32)).toInt = x.toInt % 2 ^ 4 := Jvm.Kit.i32_mask x 15 (k := 4) (by decide) (by decide)
  have z0 : (0 : Int32).toInt = 0 := rfl
  have z1 : (16 : Int32).toInt = 16 := rfl
  rw [Int32.lt_iff_toInt_lt, Int32.lt_iff_toInt_lt]; omega
theorem own_n15 (x : Int32) : (x &&& (15 : Int32)).toNatClampNeg < 16 := by
  have e : (x &&& (15 : Int32)).toInt = x.toInt % 2 ^ 4 := Jvm.Kit.i32_mask x 15 (k := 4) (by decide) (by decide)
  simp only [own_tnc]; omega
def own_i : Nat → Int32
  | 0 => 0
  | n + 1 => own_i n + (1 : Int32)
theorem own_in : ∀ n : Nat, n < 2147483648 → (own_i n).toInt = n
  | 0, _ => rfl
  | n + 1, h => by
    have ih := own_in n (by omega)
    have o : (1 : Int32).toInt = 1 := rfl
    show (own_i n + (1 : Int32)).toInt = _
    rw [Jvm.Kit.i32_add] <;> rw [ih, o] <;> omega
theorem own_tn (n : Nat) (h : n < 2147483648) : (own_i n).toNatClampNeg = n := by
  have := own_in n h
  simp only [own_tnc, this]; omega
def own_coll (ks : List Int64) (vs : List Int32) : Nat → List Int64
  | 0 => []
  | n + 1 => if vs.getD n 0 = (-1 : Int32) then own_coll ks vs n else own_coll ks vs n ++ [ks.getD n 0]
theorem own_coll_le (ks : List Int64) (vs : List Int32) : ∀ n d, (own_coll ks vs n).length ≤ (own_coll ks vs (n + d)).length
  | _, 0 => Nat.le_refl _
  | n, d + 1 => by
    refine Nat.le_trans (own_coll_le ks vs n d) ?_
    show _ ≤ (if vs.getD (n + d) 0 = (-1 : Int32) then own_coll ks vs (n + d) else own_coll ks vs (n + d) ++ [ks.getD (n + d) 0]).length
    split <;> simp
def own_res (ks : List Int64) (vs : List Int32) (n : Nat) : List Int64 := own_coll ks vs n ++ List.replicate ((own_coll ks vs 16).length - (own_coll ks vs n).length) 0
theorem own_res_set (ks : List Int64) (vs : List Int32) (n : Nat) (hn : n < 16) (h : ¬ vs.getD n 0 = (-1 : Int32)) : own_res ks vs (n + 1) = (own_res ks vs n).set (own_coll ks vs n).length (ks.getD n 0) := by
  have e : own_coll ks vs (n + 1) = own_coll ks vs n ++ [ks.getD n 0] := if_neg h
  have l1 := own_coll_le ks vs (n + 1) (16 - (n + 1))
  rw [show n + 1 + (16 - (n + 1)) = 16 by omega, e, List.length_append] at l1
  unfold own_res
  rw [e, List.length_append]
  obtain ⟨r, hr⟩ : ∃ r, (own_coll ks vs 16).length - (own_coll ks vs n).length = r + 1 := ⟨(own_coll ks vs 16).length - (own_coll ks vs n).length - 1, by simp only [List.length_cons, List.length_nil] at l1; omega⟩
  rw [hr, List.replicate_succ, List.set_append_right _ _ (Nat.le_refl _), Nat.sub_self, List.set_cons_zero, List.append_assoc]
  simp only [List.length_cons, List.length_nil]
  rw [show (own_coll ks vs 16).length - ((own_coll ks vs n).length + (0 + 1)) = r by omega]
  rfl
theorem own_rlen (ks : List Int64) (vs : List Int32) (n : Nat) (hn : n < 16) (h : ¬ vs.getD n 0 = (-1 : Int32)) : (own_coll ks vs n).length < (own_coll ks vs 16).length ∧ (own_coll ks vs n).length < (own_res ks vs n).length := by
  have e : own_coll ks vs (n + 1) = own_coll ks vs n ++ [ks.getD n 0] := if_neg h
  have l1 := own_coll_le ks vs (n + 1) (16 - (n + 1))
  rw [show n + 1 + (16 - (n + 1)) = 16 by omega, e, List.length_append] at l1
  simp only [List.length_cons, List.length_nil] at l1
  unfold own_res
  rw [List.length_append, List.length_replicate]
  omega
theorem d3_0 : decode jdk_65_method_103_code 0 = .ok (.iconst 0, 1) := by decide +kernel
theorem d3_1 : decode jdk_65_method_103_code 1 = .ok (.istore_n 2, 1) := by decide +kernel
theorem d3_2 : decode jdk_65_method_103_code 2 = .ok (.aload_n 0, 1) := by decide +kernel
theorem d3_3 : decode jdk_65_method_103_code 3 = .ok (.arraylength, 1) := by decide +kernel
theorem d3_4 : decode jdk_65_method_103_code 4 = .ok (.istore_n 3, 1) := by decide +kernel
theorem d3_5 : decode jdk_65_method_103_code 5 = .ok (.iload_n 2, 1) := by decide +kernel
theorem d3_6 : decode jdk_65_method_103_code 6 = .ok (.iload_n 3, 1) := by decide +kernel
theorem d3_7 : decode jdk_65_method_103_code 7 = .ok (.if_icmp .ge 13, 3) := by decide +kernel
theorem d3_10 : decode jdk_65_method_103_code 10 = .ok (.aload_n 0, 1) := by decide +kernel
theorem d3_11 : decode jdk_65_method_103_code 11 = .ok (.iload_n 2, 1) := by decide +kernel
theorem d3_12 : decode jdk_65_method_103_code 12 = .ok (.iload_n 1, 1) := by decide +kernel
theorem d3_13 : decode jdk_65_method_103_code 13 = .ok (.iastore, 1) := by decide +kernel
theorem d3_14 : decode jdk_65_method_103_code 14 = .ok (.iinc 2 1, 3) := by decide +kernel
theorem d3_17 : decode jdk_65_method_103_code 17 = .ok (.goto (-12), 3) := by decide +kernel
theorem d3_20 : decode jdk_65_method_103_code 20 = .ok (.return_, 1) := by decide +kernel
theorem pn_1 : plainName "java/util/Arrays" = true := by first | (simp [plainName, overriddenIn]; done) | decide +kernel
theorem ef3 (m : MethodId) (x0 : Addr) (x1 : Int32) : entryFrame m #[(.ref x0), (.int x1)] 4 = mkF m 0 #[.val (.ref x0), .val (.int x1), .unset, .unset] [] := by first | (simp [entryFrame, mkF, argsToLocals, Value.category]; done) | rfl
abbrev rr3 : Room := { frames := 0, cells := 0, slots := 0, locals := 0 }
def Q3 (Z : State) (a0 : Addr) (p1 : Int32) (u0 : Int32) (u1 : Int32) (u2 : Int32) (u3 : Int32) (u4 : Int32) (u5 : Int32) (u6 : Int32) (u7 : Int32) (u8 : Int32) (u9 : Int32) (u10 : Int32) (u11 : Int32) (u12 : Int32) (u13 : Int32) (u14 : Int32) (u15 : Int32) (k_a0 : ClassId) (h0 : Heap) (n0 : Nat) (v : Option Value) (h : Heap) (L : List Loc) : Prop := v = none ∧ Fr n0 L ∧ Keep h0 h [a0] ∧ Arv Z h a0 k_a0 .int (16 : Int32) [(.int p1), (.int p1), (.int p1), (.int p1), (.int p1), (.int p1), (.int p1), (.int p1), (.int p1), (.int p1), (.int p1), (.int p1), (.int p1), (.int p1), (.int p1), (.int p1)] (.int (0 : Int32))
set_option maxRecDepth 65536 in
set_option maxHeartbeats 40000000 in
theorem rm3 (l : Launch) (Z : State) (aw : Array Value) (hw : ∀ d ∈ tables_1, d.before aw Z = true) (ws : List Jvm.Cond) (a0 : Addr) (p1 : Int32) (u0 : Int32) (u1 : Int32) (u2 : Int32) (u3 : Int32) (u4 : Int32) (u5 : Int32) (u6 : Int32) (u7 : Int32) (u8 : Int32) (u9 : Int32) (u10 : Int32) (u11 : Int32) (u12 : Int32) (u13 : Int32) (u14 : Int32) (u15 : Int32) (k_a0 : ClassId) (h0 : Heap) (n0 : Nat) (Z0 : n0 ≤ h0.size) (V_a0 : Arv Z h0 a0 k_a0 .int (16 : Int32) [(.int u0), (.int u1), (.int u2), (.int u3), (.int u4), (.int u5), (.int u6), (.int u7), (.int u8), (.int u9), (.int u10), (.int u11), (.int u12), (.int u13), (.int u14), (.int u15)] (.int (0 : Int32))) (g_a0 : n0 ≤ a0) :
    MetFree l (⟨"java/util/Arrays", "fill", "([II)V"⟩ : MethodName) (head1 (Jvm.Cond.code (⟨"java/util/Arrays", "fill", "([II)V"⟩ : MethodName) jdk_65_method_103_code 4 none :: ws) rr3) (fun a U => a = #[(.ref a0), (.int p1)] ∧ Z.Warmed39 U.vm ∧ U.heap = h0) (fun _ _ _ _ _ => True) (fun _ U o U' => ∃ v L, o = .returned v ∧ Q3 Z a0 p1 u0 u1 u2 u3 u4 u5 u6 u7 u8 u9 u10 u11 u12 u13 u14 u15 k_a0 h0 n0 v U'.heap L ∧ FrameEnd U o U' L rr3.cells rr3.slots) := by
  refine MetFree.of_bodySF (plainFor_of_name pn_1) hisR ?_
  intro p e s m args below meth c s₁ Bd hml0 hP hK
  obtain ⟨rfl, hZ, hh⟩ := hP
  have hx := Bd.exec
  have hby := Bd.bytes
  have hml : c.maxLocals = 4 := hml0
  have hown : s.vm.findClass "java/util/Arrays" = some m.cls := findClass_of_methodNamed Bd.named
  have hnm := (name_of_methodNamed Bd.named Bd.method).1
  have X0 : Stand p l e rr3 s m #[(.ref a0), (.int p1)] below meth c s₁ [] 0 0 := Stand.of_body Bd
  have e0 : s₁.heap = h0 := by rw [← hh, Bd.state]; rfl
  have N0 := Fr.nil n0
  have K0 := Keep.refl h0 [a0]
  have pre0 : ∀ t, Steps p.tables e below (s₁.setTop (mkF m 0 #[.val (.ref a0), .val (.int p1), .unset, .unset] [])) t → Steps p.tables e below (s₁.setTop (entryFrame m #[(.ref a0), (.int p1)] 4)) t := fun t k => castTop (ef3 m a0 p1) k
  obtain ⟨cl1, Ar1, q1, S1, M1, H1, G1⟩ := id V_a0
  obtain ⟨cl2, Ar2, q2, S2, M2, H2, G2⟩ := id V_a0
  have hin3 : ¬ ((0 : Int32) < 0 ∨ cl2.slots.size ≤ ((0 : Int32)).toNatClampNeg) := inb_of S2 ⟨by decide, by decide⟩
  obtain ⟨T4, h4, X4, e4, W4, st4⟩ := stI X0 hx hZ e0 Ar2 (j := (0 : Int32)) hin3 (g := (mkF m 13 #[.val (.ref a0), .val (.int p1), .val (.int (0 : Int32)), .val (.int (16 : Int32))] [(.int p1), (.int (0 : Int32)), (.ref a0)])) rfl rfl (hb hby d3_13)
  have V4 : Arv Z h4 a0 k_a0 .int (16 : Int32) [(.int p1), (.int u1), (.int u2), (.int u3), (.int u4), (.int u5), (.int u6), (.int u7), (.int u8), (.int u9), (.int u10), (.int u11), (.int u12), (.int u13), (.int u14), (.int u15)] (.int (0 : Int32)) := Arv.set Ar2 q2 S2 M2 H2 G2 rfl W4 0 rfl (Nat.le_of_ble_eq_true rfl)
  have K6 := K0.wr W4 (Or.inl (List.mem_of_getElem? (i := 0) rfl))
  have Z7 := Nat.le_trans Z0 (Keep.of_wr W4).1
  have N8 := Fr.snoc X4 N0 g_a0
  obtain ⟨cl9, Ar9, q9, S9, M9, H9, G9⟩ := id V4
  have hin10 : ¬ ((1 : Int32) < 0 ∨ cl9.slots.size ≤ ((1 : Int32)).toNatClampNeg) := inb_of S9 ⟨by decide, by decide⟩
  obtain ⟨T11, h11, X11, e11, W11, st11⟩ := stI X4 hx hZ e4 Ar9 (j := (1 : Int32)) hin10 (g := (mkF m 13 #[.val (.ref a0), .val (.int p1), .val (.int (1 : Int32)), .val (.int (16 : Int32))] [(.int p1), (.int (1 : Int32)), (.ref a0)])) rfl rfl (hb hby d3_13)
  have V11 : Arv Z h11 a0 k_a0 .int (16 : Int32) [(.int p1), (.int p1), (.int u2), (.int u3), (.int u4), (.int u5), (.int u6), (.int u7), (.int u8), (.int u9), (.int u10), (.int u11), (.int u12), (.int u13), (.int u14), (.int u15)] (.int (0 : Int32)) := Arv.set Ar9 q9 S9 M9 H9 G9 rfl W11 1 rfl (Nat.le_of_ble_eq_true rfl)
  have K13 := K6.wr W11 (Or.inl (List.mem_of_getElem? (i := 0) rfl))
  have Z14 := Nat.le_trans Z7 (Keep.of_wr W11).1
  have N15 := Fr.snoc X11 N8 g_a0
  obtain ⟨cl16, Ar16, q16, S16, M16, H16, G16⟩ := id V11
  have hin17 : ¬ ((2 : Int32) < 0 ∨ cl16.slots.size ≤ ((2 : Int32)).toNatClampNeg) := inb_of S16 ⟨by decide, by decide⟩
  obtain ⟨T18, h18, X18, e18, W18, st18⟩ := stI X11 hx hZ e11 Ar16 (j := (2 : Int32)) hin17 (g := (mkF m 13 #[.val (.ref a0), .val (.int p1), .val (.int (2 : Int32)), .val (.int (16 : Int32))] [(.int p1), (.int (2 : Int32)), (.ref a0)])) rfl rfl (hb hby d3_13)
  have V18 : Arv Z h18 a0 k_a0 .int (16 : Int32) [(.int p1), (.int p1), (.int p1), (.int u3), (.int u4), (.int u5), (.int u6), (.int u7), (.int u8), (.int u9), (.int u10), (.int u11), (.int u12), (.int u13), (.int u14), (.int u15)] (.int (0 : Int32)) := Arv.set Ar16 q16 S16 M16 H16 G16 rfl W18 2 rfl (Nat.le_of_ble_eq_true rfl)
  have K20 := K13.wr W18 (Or.inl (List.mem_of_getElem? (i := 0) rfl))
  have Z21 := Nat.le_trans Z14 (Keep.of_wr W18).1
  have N22 := Fr.snoc X18 N15 g_a0
  obtain ⟨cl23, Ar23, q23, S23, M23, H23, G23⟩ := id V18
  have hin24 : ¬ ((3 : Int32) < 0 ∨ cl23.slots.size ≤ ((3 : Int32)).toNatClampNeg) := inb_of S23 ⟨by decide, by decide⟩
  obtain ⟨T25, h25, X25, e25, W25, st25⟩ := stI X18 hx hZ e18 Ar23 (j := (3 : Int32)) hin24 (g := (mkF m 13 #[.val (.ref a0), .val (.int p1), .val (.int (3 : Int32)), .val (.int (16 : Int32))] [(.int p1), (.int (3 : Int32)), (.ref a0)])) rfl rfl (hb hby d3_13)
  have V25 : Arv Z h25 a0 k_a0 .int (16 : Int32) [(.int p1), (.int p1), (.int p1), (.int p1), (.int u4), (.int u5), (.int u6), (.int u7), (.int u8), (.int u9), (.int u10), (.int u11), (.int u12), (.int u13), (.int u14), (.int u15)] (.int (0 : Int32)) := Arv.set Ar23 q23 S23 M23 H23 G23 rfl W25 3 rfl (Nat.le_of_ble_eq_true rfl)
  have K27 := K20.wr W25 (Or.inl (List.mem_of_getElem? (i := 0) rfl))
  have Z28 := Nat.le_trans Z21 (Keep.of_wr W25).1
  have N29 := Fr.snoc X25 N22 g_a0
  obtain ⟨cl30, Ar30, q30, S30, M30, H30, G30⟩ := id V25
  have hin31 : ¬ ((4 : Int32) < 0 ∨ cl30.slots.size ≤ ((4 : Int32)).toNatClampNeg) := inb_of S30 ⟨by decide, by decide⟩
  obtain ⟨T32, h32, X32, e32, W32, st32⟩ := stI X25 hx hZ e25 Ar30 (j := (4 : Int32)) hin31 (g := (mkF m 13 #[.val (.ref a0), .val (.int p1), .val (.int (4 : Int32)), .val (.int (16 : Int32))] [(.int p1), (.int (4 : Int32)), (.ref a0)])) rfl rfl (hb hby d3_13)
  have V32 : Arv Z h32 a0 k_a0 .int (16 : Int32) [(.int p1), (.int p1), (.int p1), (.int p1), (.int p1), (.int u5), (.int u6), (.int u7), (.int u8), (.int u9), (.int u10), (.int u11), (.int u12), (.int u13), (.int u14), (.int u15)] (.int (0 : Int32)) := Arv.set Ar30 q30 S30 M30 H30 G30 rfl W32 4 rfl (Nat.le_of_ble_eq_true rfl)
  have K34 := K27.wr W32 (Or.inl (List.mem_of_getElem? (i := 0) rfl))
  have Z35 := Nat.le_trans Z28 (Keep.of_wr W32).1
  have N36 := Fr.snoc X32 N29 g_a0
  obtain ⟨cl37, Ar37, q37, S37, M37, H37, G37⟩ := id V32
  have hin38 : ¬ ((5 : Int32) < 0 ∨ cl37.slots.size ≤ ((5 : Int32)).toNatClampNeg) := inb_of S37 ⟨by decide, by decide⟩
  obtain ⟨T39, h39, X39, e39, W39, st39⟩ := stI X32 hx hZ e32 Ar37 (j := (5 : Int32)) hin38 (g := (mkF m 13 #[.val (.ref a0), .val (.int p1), .val (.int (5 : Int32)), .val (.int (16 : Int32))] [(.int p1), (.int (5 : Int32)), (.ref a0)])) rfl rfl (hb hby d3_13)
  have V39 : Arv Z h39 a0 k_a0 .int (16 : Int32) [(.int p1), (.int p1), (.int p1), (.int p1), (.int p1), (.int p1), (.int u6), (.int u7), (.int u8), (.int u9), (.int u10), (.int u11), (.int u12), (.int u13), (.int u14), (.int u15)] (.int (0 : Int32)) := Arv.set Ar37 q37 S37 M37 H37 G37 rfl W39 5 rfl (Nat.le_of_ble_eq_true rfl)
  have K41 := K34.wr W39 (Or.inl (List.mem_of_getElem? (i := 0) rfl))
  have Z42 := Nat.le_trans Z35 (Keep.of_wr W39).1
  have N43 := Fr.snoc X39 N36 g_a0
  obtain ⟨cl44, Ar44, q44, S44, M44, H44, G44⟩ := id V39
  have hin45 : ¬ ((6 : Int32) < 0 ∨ cl44.slots.size ≤ ((6 : Int32)).toNatClampNeg) := inb_of S44 ⟨by decide, by decide⟩
  obtain ⟨T46, h46, X46, e46, W46, st46⟩ := stI X39 hx hZ e39 Ar44 (j := (6 : Int32)) hin45 (g := (mkF m 13 #[.val (.ref a0), .val (.int p1), .val (.int (6 : Int32)), .val (.int (16 : Int32))] [(.int p1), (.int (6 : Int32)), (.ref a0)])) rfl rfl (hb hby d3_13)
  have V46 : Arv Z h46 a0 k_a0 .int (16 : Int32) [(.int p1), (.int p1), (.int p1), (.int p1), (.int p1), (.int p1), (.int p1), (.int u7), (.int u8), (.int u9), (.int u10), (.int u11), (.int u12), (.int u13), (.int u14), (.int u15)] (.int (0 : Int32)) := Arv.set Ar44 q44 S44 M44 H44 G44 rfl W46 6 rfl (Nat.le_of_ble_eq_true rfl)
  have K48 := K41.wr W46 (Or.inl (List.mem_of_getElem? (i := 0) rfl))
  have Z49 := Nat.le_trans Z42 (Keep.of_wr W46).1
  have N50 := Fr.snoc X46 N43 g_a0
  obtain ⟨cl51, Ar51, q51, S51, M51, H51, G51⟩ := id V46
  have hin52 : ¬ ((7 : Int32) < 0 ∨ cl51.slots.size ≤ ((7 : Int32)).toNatClampNeg) := inb_of S51 ⟨by decide, by decide⟩
  obtain ⟨T53, h53, X53, e53, W53, st53⟩ := stI X46 hx hZ e46 Ar51 (j := (7 : Int32)) hin52 (g := (mkF m 13 #[.val (.ref a0), .val (.int p1), .val (.int (7 : Int32)), .val (.int (16 : Int32))] [(.int p1), (.int (7 : Int32)), (.ref a0)])) rfl rfl (hb hby d3_13)
  have V53 : Arv Z h53 a0 k_a0 .int (16 : Int32) [(.int p1), (.int p1), (.int p1), (.int p1), (.int p1), (.int p1), (.int p1), (.int p1), (.int u8), (.int u9), (.int u10), (.int u11), (.int u12), (.int u13), (.int u14), (.int u15)] (.int (0 : Int32)) := Arv.set Ar51 q51 S51 M51 H51 G51 rfl W53 7 rfl (Nat.le_of_ble_eq_true rfl)
  have K55 := K48.wr W53 (Or.inl (List.mem_of_getElem? (i := 0) rfl))
  have Z56 := Nat.le_trans Z49 (Keep.of_wr W53).1
  have N57 := Fr.snoc X53 N50 g_a0
  obtain ⟨cl58, Ar58, q58, S58, M58, H58, G58⟩ := id V53
  have hin59 : ¬ ((8 : Int32) < 0 ∨ cl58.slots.size ≤ ((8 : Int32)).toNatClampNeg) := inb_of S58 ⟨by decide, by decide⟩
  obtain ⟨T60, h60, X60, e60, W60, st60⟩ := stI X53 hx hZ e53 Ar58 (j := (8 : Int32)) hin59 (g := (mkF m 13 #[.val (.ref a0), .val (.int p1), .val (.int (8 : Int32)), .val (.int (16 : Int32))] [(.int p1), (.int (8 : Int32)), (.ref a0)])) rfl rfl (hb hby d3_13)
  have V60 : Arv Z h60 a0 k_a0 .int (16 : Int32) [(.int p1), (.int p1), (.int p1), (.int p1), (.int p1), (.int p1), (.int p1), (.int p1), (.int p1), (.int u9), (.int u10), (.int u11), (.int u12), (.int u13), (.int u14), (.int u15)] (.int (0 : Int32)) := Arv.set Ar58 q58 S58 M58 H58 G58 rfl W60 8 rfl (Nat.le_of_ble_eq_true rfl)
  have K62 := K55.wr W60 (Or.inl (List.mem_of_getElem? (i := 0) rfl))
  have Z63 := Nat.le_trans Z56 (Keep.of_wr W60).1
  have N64 := Fr.snoc X60 N57 g_a0
  obtain ⟨cl65, Ar65, q65, S65, M65, H65, G65⟩ := id V60
  have hin66 : ¬ ((9 : Int32) < 0 ∨ cl65.slots.size ≤ ((9 : Int32)).toNatClampNeg) := inb_of S65 ⟨by decide, by decide⟩
  obtain ⟨T67, h67, X67, e67, W67, st67⟩ := stI X60 hx hZ e60 Ar65 (j := (9 : Int32)) hin66 (g := (mkF m 13 #[.val (.ref a0), .val (.int p1), .val (.int (9 : Int32)), .val (.int (16 : Int32))] [(.int p1), (.int (9 : Int32)), (.ref a0)])) rfl rfl (hb hby d3_13)
  have V67 : Arv Z h67 a0 k_a0 .int (16 : Int32) [(.int p1), (.int p1), (.int p1), (.int p1), (.int p1), (.int p1), (.int p1), (.int p1), (.int p1), (.int p1), (.int u10), (.int u11), (.int u12), (.int u13), (.int u14), (.int u15)] (.int (0 : Int32)) := Arv.set Ar65 q65 S65 M65 H65 G65 rfl W67 9 rfl (Nat.le_of_ble_eq_true rfl)
  have K69 := K62.wr W67 (Or.inl (List.mem_of_getElem? (i := 0) rfl))
  have Z70 := Nat.le_trans Z63 (Keep.of_wr W67).1
  have N71 := Fr.snoc X67 N64 g_a0
  obtain ⟨cl72, Ar72, q72, S72, M72, H72, G72⟩ := id V67
  have hin73 : ¬ ((10 : Int32) < 0 ∨ cl72.slots.size ≤ ((10 : Int32)).toNatClampNeg) := inb_of S72 ⟨by decide, by decide⟩
  obtain ⟨T74, h74, X74, e74, W74, st74⟩ := stI X67 hx hZ e67 Ar72 (j := (10 : Int32)) hin73 (g := (mkF m 13 #[.val (.ref a0), .val (.int p1), .val (.int (10 : Int32)), .val (.int (16 : Int32))] [(.int p1), (.int (10 : Int32)), (.ref a0)])) rfl rfl (hb hby d3_13)
  have V74 : Arv Z h74 a0 k_a0 .int (16 : Int32) [(.int p1), (.int p1), (.int p1), (.int p1), (.int p1), (.int p1), (.int p1), (.int p1), (.int p1), (.int p1), (.int p1), (.int u11), (.int u12), (.int u13), (.int u14), (.int u15)] (.int (0 : Int32)) := Arv.set Ar72 q72 S72 M72 H72 G72 rfl W74 10 rfl (Nat.le_of_ble_eq_true rfl)
  have K76 := K69.wr W74 (Or.inl (List.mem_of_getElem? (i := 0) rfl))
  have Z77 := Nat.le_trans Z70 (Keep.of_wr W74).1
  have N78 := Fr.snoc X74 N71 g_a0
  obtain ⟨cl79, Ar79, q79, S79, M79, H79, G79⟩ := id V74
  have hin80 : ¬ ((11 : Int32) < 0 ∨ cl79.slots.size ≤ ((11 : Int32)).toNatClampNeg) := inb_of S79 ⟨by decide, by decide⟩
  obtain ⟨T81, h81, X81, e81, W81, st81⟩ := stI X74 hx hZ e74 Ar79 (j := (11 : Int32)) hin80 (g := (mkF m 13 #[.val (.ref a0), .val (.int p1), .val (.int (11 : Int32)), .val (.int (16 : Int32))] [(.int p1), (.int (11 : Int32)), (.ref a0)])) rfl rfl (hb hby d3_13)
  have V81 : Arv Z h81 a0 k_a0 .int (16 : Int32) [(.int p1), (.int p1), (.int p1), (.int p1), (.int p1), (.int p1), (.int p1), (.int p1), (.int p1), (.int p1), (.int p1), (.int p1), (.int u12), (.int u13), (.int u14), (.int u15)] (.int (0 : Int32)) := Arv.set Ar79 q79 S79 M79 H79 G79 rfl W81 11 rfl (Nat.le_of_ble_eq_true rfl)
  have K83 := K76.wr W81 (Or.inl (List.mem_of_getElem? (i := 0) rfl))
  have Z84 := Nat.le_trans Z77 (Keep.of_wr W81).1
  have N85 := Fr.snoc X81 N78 g_a0
  obtain ⟨cl86, Ar86, q86, S86, M86, H86, G86⟩ := id V81
  have hin87 : ¬ ((12 : Int32) < 0 ∨ cl86.slots.size ≤ ((12 : Int32)).toNatClampNeg) := inb_of S86 ⟨by decide, by decide⟩
  obtain ⟨T88, h88, X88, e88, W88, st88⟩ := stI X81 hx hZ e81 Ar86 (j := (12 : Int32)) hin87 (g := (mkF m 13 #[.val (.ref a0), .val (.int p1), .val (.int (12 : Int32)), .val (.int (16 : Int32))] [(.int p1), (.int (12 : Int32)), (.ref a0)])) rfl rfl (hb hby d3_13)
  have V88 : Arv Z h88 a0 k_a0 .int (16 : Int32) [(.int p1), (.int p1), (.int p1), (.int p1), (.int p1), (.int p1), (.int p1), (.int p1), (.int p1), (.int p1), (.int p1), (.int p1), (.int p1), (.int u13), (.int u14), (.int u15)] (.int (0 : Int32)) := Arv.set Ar86 q86 S86 M86 H86 G86 rfl W88 12 rfl (Nat.le_of_ble_eq_true rfl)
  have K90 := K83.wr W88 (Or.inl (List.mem_of_getElem? (i := 0) rfl))
  have Z91 := Nat.le_trans Z84 (Keep.of_wr W88).1
  have N92 := Fr.snoc X88 N85 g_a0
  obtain ⟨cl93, Ar93, q93, S93, M93, H93, G93⟩ := id V88
  have hin94 : ¬ ((13 : Int32) < 0 ∨ cl93.slots.size ≤ ((13 : Int32)).toNatClampNeg) := inb_of S93 ⟨by decide, by decide⟩
  obtain ⟨T95, h95, X95, e95, W95, st95⟩ := stI X88 hx hZ e88 Ar93 (j := (13 : Int32)) hin94 (g := (mkF m 13 #[.val (.ref a0), .val (.int p1), .val (.int (13 : Int32)), .val (.int (16 : Int32))] [(.int p1), (.int (13 : Int32)), (.ref a0)])) rfl rfl (hb hby d3_13)
  have V95 : Arv Z h95 a0 k_a0 .int (16 : Int32) [(.int p1), (.int p1), (.int p1), (.int p1), (.int p1), (.int p1), (.int p1), (.int p1), (.int p1), (.int p1), (.int p1), (.int p1), (.int p1), (.int p1), (.int u14), (.int u15)] (.int (0 : Int32)) := Arv.set Ar93 q93 S93 M93 H93 G93 rfl W95 13 rfl (Nat.le_of_ble_eq_true rfl)
  have K97 := K90.wr W95 (Or.inl (List.mem_of_getElem? (i := 0) rfl))
  have Z98 := Nat.le_trans Z91 (Keep.of_wr W95).1
  have N99 := Fr.snoc X95 N92 g_a0
  obtain ⟨cl100, Ar100, q100, S100, M100, H100, G100⟩ := id V95
  have hin101 : ¬ ((14 : Int32) < 0 ∨ cl100.slots.size ≤ ((14 : Int32)).toNatClampNeg) := inb_of S100 ⟨by decide, by decide⟩
  obtain ⟨T102, h102, X102, e102, W102, st102⟩ := stI X95 hx hZ e95 Ar100 (j := (14 : Int32)) hin101 (g := (mkF m 13 #[.val (.ref a0), .val (.int p1), .val (.int (14 : Int32)), .val (.int (16 : Int32))] [(.int p1), (.int (14 : Int32)), (.ref a0)])) rfl rfl (hb hby d3_13)
  have V102 : Arv Z h102 a0 k_a0 .int (16 : Int32) [(.int p1), (.int p1), (.int p1), (.int p1), (.int p1), (.int p1), (.int p1), (.int p1), (.int p1), (.int p1), (.int p1), (.int p1), (.int p1), (.int p1), (.int p1), (.int u15)] (.int (0 : Int32)) := Arv.set Ar100 q100 S100 M100 H100 G100 rfl W102 14 rfl (Nat.le_of_ble_eq_true rfl)
  have K104 := K97.wr W102 (Or.inl (List.mem_of_getElem? (i := 0) rfl))
  have Z105 := Nat.le_trans Z98 (Keep.of_wr W102).1
  have N106 := Fr.snoc X102 N99 g_a0
  obtain ⟨cl107, Ar107, q107, S107, M107, H107, G107⟩ := id V102
  have hin108 : ¬ ((15 : Int32) < 0 ∨ cl107.slots.size ≤ ((15 : Int32)).toNatClampNeg) := inb_of S107 ⟨by decide, by decide⟩
  obtain ⟨T109, h109, X109, e109, W109, st109⟩ := stI X102 hx hZ e102 Ar107 (j := (15 : Int32)) hin108 (g := (mkF m 13 #[.val (.ref a0), .val (.int p1), .val (.int (15 : Int32)), .val (.int (16 : Int32))] [(.int p1), (.int (15 : Int32)), (.ref a0)])) rfl rfl (hb hby d3_13)
  have V109 : Arv Z h109 a0 k_a0 .int (16 : Int32) [(.int p1), (.int p1), (.int p1), (.int p1), (.int p1), (.int p1), (.int p1), (.int p1), (.int p1), (.int p1), (.int p1), (.int p1), (.int p1), (.int p1), (.int p1), (.int p1)] (.int (0 : Int32)) := Arv.set Ar107 q107 S107 M107 H107 G107 rfl W109 15 rfl (Nat.le_of_ble_eq_true rfl)
  have K111 := K104.wr W109 (Or.inl (List.mem_of_getElem? (i := 0) rfl))
  have Z112 := Nat.le_trans Z105 (Keep.of_wr W109).1
  have N113 := Fr.snoc X109 N106 g_a0
  obtain ⟨fs, hr, hrun, hended, hW, hsame⟩ := X109.leave (v := none) (fun _ => rfl) (BodyLoose.notSynchronized Bd)
  refine ⟨_, _, pre0 _ ?_, hrun, hended, _, _, rfl, ?_, ⟨_, rfl⟩, hW, hsame.mono (by decide) (by decide)⟩
  · skip
    show Steps p.tables e below (s₁.setTop (mkF m 0 #[.val (.ref a0), .val (.int p1), .unset, .unset] [])) _
    refine XS.iconst X0.here hx rfl (hb hby d3_0) ?_
    show Steps p.tables e below (s₁.setTop (mkF m 1 #[.val (.ref a0), .val (.int p1), .unset, .unset] [(.int (0 : Int32))])) _
    refine XS.istoreN X0.here hx rfl (hb hby d3_1) rfl (l' := #[.val (.ref a0), .val (.int p1), .val (.int (0 : Int32)), .unset]) rfl ?_
    show Steps p.tables e below (s₁.setTop (mkF m 2 #[.val (.ref a0), .val (.int p1), .val (.int (0 : Int32)), .unset] [])) _
    refine XS.aloadN X0.here hx rfl (hb hby d3_2) rfl rfl ?_
    show Steps p.tables e below (s₁.setTop (mkF m 3 #[.val (.ref a0), .val (.int p1), .val (.int (0 : Int32)), .unset] [(.ref a0)])) _
    refine X0.arraylength hx (by rw [e0]; exact Ar1.1) (State.isArrayOf_alike hZ.alike Ar1.2.1) (g := (mkF m 3 #[.val (.ref a0), .val (.int p1), .val (.int (0 : Int32)), .unset] [(.ref a0)])) rfl rfl (hb hby d3_3) _ ?_
    rw [len_of S1 M1]
    show Steps p.tables e below (s₁.setTop (mkF m 4 #[.val (.ref a0), .val (.int p1), .val (.int (0 : Int32)), .unset] [(.int (16 : Int32))])) _
    refine XS.istoreN X0.here hx rfl (hb hby d3_4) rfl (l' := #[.val (.ref a0), .val (.int p1), .val (.int (0 : Int32)), .val (.int (16 : Int32))]) rfl ?_
    show Steps p.tables e below (s₁.setTop (mkF m 5 #[.val (.ref a0), .val (.int p1), .val (.int (0 : Int32)), .val (.int (16 : Int32))] [])) _
    refine XS.iloadN X0.here hx rfl (hb hby d3_5) rfl ?_
    show Steps p.tables e below (s₁.setTop (mkF m 6 #[.val (.ref a0), .val (.int p1), .val (.int (0 : Int32)), .val (.int (16 : Int32))] [(.int (0 : Int32))])) _
    refine XS.iloadN X0.here hx rfl (hb hby d3_6) rfl ?_
    show Steps p.tables e below (s₁.setTop (mkF m 7 #[.val (.ref a0), .val (.int p1), .val (.int (0 : Int32)), .val (.int (16 : Int32))] [(.int (16 : Int32)), (.int (0 : Int32))])) _
    refine XS.icmpNo X0.here hx rfl (hb hby d3_7) rfl (tlt (by decide : (0 : Int32) < (16 : Int32))).2.1 ?_
    show Steps p.tables e below (s₁.setTop (mkF m 10 #[.val (.ref a0), .val (.int p1), .val (.int (0 : Int32)), .val (.int (16 : Int32))] [])) _
    refine XS.aloadN X0.here hx rfl (hb hby d3_10) rfl rfl ?_
    show Steps p.tables e below (s₁.setTop (mkF m 11 #[.val (.ref a0), .val (.int p1), .val (.int (0 : Int32)), .val (.int (16 : Int32))] [(.ref a0)])) _
    refine XS.iloadN X0.here hx rfl (hb hby d3_11) rfl ?_
    show Steps p.tables e below (s₁.setTop (mkF m 12 #[.val (.ref a0), .val (.int p1), .val (.int (0 : Int32)), .val (.int (16 : Int32))] [(.int (0 : Int32)), (.ref a0)])) _
    refine XS.iloadN X0.here hx rfl (hb hby d3_12) rfl ?_
    show Steps p.tables e below (s₁.setTop (mkF m 13 #[.val (.ref a0), .val (.int p1), .val (.int (0 : Int32)), .val (.int (16 : Int32))] [(.int p1), (.int (0 : Int32)), (.ref a0)])) _
    refine st4 _ ?_
    show Steps p.tables e below (T4.setTop (mkF m 14 #[.val (.ref a0), .val (.int p1), .val (.int (0 : Int32)), .val (.int (16 : Int32))] [])) _
    refine XS.iinc X4.here hx rfl (hb hby d3_14) rfl (l' := #[.val (.ref a0), .val (.int p1), .val (.int (1 : Int32)), .val (.int (16 : Int32))]) rfl ?_
    show Steps p.tables e below (T4.setTop (mkF m 17 #[.val (.ref a0), .val (.int p1), .val (.int (1 : Int32)), .val (.int (16 : Int32))] [])) _
    refine XS.goto X4.here hx rfl (pc0 := 17) (pc' := 5) rfl (hb hby d3_17) (by decide) (by decide) ?_
    show Steps p.tables e below (T4.setTop (mkF m 5 #[.val (.ref a0), .val (.int p1), .val (.int (1 : Int32)), .val (.int (16 : Int32))] [])) _
    refine XS.iloadN X4.here hx rfl (hb hby d3_5) rfl ?_
    show Steps p.tables e below (T4.setTop (mkF m 6 #[.val (.ref a0), .val (.int p1), .val (.int (1 : Int32)), .val (.int (16 : Int32))] [(.int (1 : Int32))])) _
    refine XS.iloadN X4.here hx rfl (hb hby d3_6) rfl ?_
    show Steps p.tables e below (T4.setTop (mkF m 7 #[.val (.ref a0), .val (.int p1), .val (.int (1 : Int32)), .val (.int (16 : Int32))] [(.int (16 : Int32)), (.int (1 : Int32))])) _
    refine XS.icmpNo X4.here hx rfl (hb hby d3_7) rfl (tlt (by decide : (1 : Int32) < (16 : Int32))).2.1 ?_
    show Steps p.tables e below (T4.setTop (mkF m 10 #[.val (.ref a0), .val (.int p1), .val (.int (1 : Int32)), .val (.int (16 : Int32))] [])) _
    refine XS.aloadN X4.here hx rfl (hb hby d3_10) rfl rfl ?_
    show Steps p.tables e below (T4.setTop (mkF m 11 #[.val (.ref a0), .val (.int p1), .val (.int (1 : Int32)), .val (.int (16 : Int32))] [(.ref a0)])) _
    refine XS.iloadN X4.here hx rfl (hb hby d3_11) rfl ?_
    show Steps p.tables e below (T4.setTop (mkF m 12 #[.val (.ref a0), .val (.int p1), .val (.int (1 : Int32)), .val (.int (16 : Int32))] [(.int (1 : Int32)), (.ref a0)])) _
    refine XS.iloadN X4.here hx rfl (hb hby d3_12) rfl ?_
    show Steps p.tables e below (T4.setTop (mkF m 13 #[.val (.ref a0), .val (.int p1), .val (.int (1 : Int32)), .val (.int (16 : Int32))] [(.int p1), (.int (1 : Int32)), (.ref a0)])) _
    refine st11 _ ?_
    show Steps p.tables e below (T11.setTop (mkF m 14 #[.val (.ref a0), .val (.int p1), .val (.int (1 : Int32)), .val (.int (16 : Int32))] [])) _
    refine XS.iinc X11.here hx rfl (hb hby d3_14) rfl (l' := #[.val (.ref a0), .val (.int p1), .val (.int (2 : Int32)), .val (.int (16 : Int32))]) rfl ?_
    show Steps p.tables e below (T11.setTop (mkF m 17 #[.val (.ref a0), .val (.int p1), .val (.int (2 : Int32)), .val (.int (16 : Int32))] [])) _
    refine XS.goto X11.here hx rfl (pc0 := 17) (pc' := 5) rfl (hb hby d3_17) (by decide) (by decide) ?_
    show Steps p.tables e below (T11.setTop (mkF m 5 #[.val (.ref a0), .val (.int p1), .val (.int (2 : Int32)), .val (.int (16 : Int32))] [])) _
    refine XS.iloadN X11.here hx rfl (hb hby d3_5) rfl ?_
    show Steps p.tables e below (T11.setTop (mkF m 6 #[.val (.ref a0), .val (.int p1), .val (.int (2 : Int32)), .val (.int (16 : Int32))] [(.int (2 : Int32))])) _
    refine XS.iloadN X11.here hx rfl (hb hby d3_6) rfl ?_
    show Steps p.tables e below (T11.setTop (mkF m 7 #[.val (.ref a0), .val (.int p1), .val (.int (2 : Int32)), .val (.int (16 : Int32))] [(.int (16 : Int32)), (.int (2 : Int32))])) _
    refine XS.icmpNo X11.here hx rfl (hb hby d3_7) rfl (tlt (by decide : (2 : Int32) < (16 : Int32))).2.1 ?_
    show Steps p.tables e below (T11.setTop (mkF m 10 #[.val (.ref a0), .val (.int p1), .val (.int (2 : Int32)), .val (.int (16 : Int32))] [])) _
    refine XS.aloadN X11.here hx rfl (hb hby d3_10) rfl rfl ?_
    show Steps p.tables e below (T11.setTop (mkF m 11 #[.val (.ref a0), .val (.int p1), .val (.int (2 : Int32)), .val (.int (16 : Int32))] [(.ref a0)])) _
    refine XS.iloadN X11.here hx rfl (hb hby d3_11) rfl ?_
    show Steps p.tables e below (T11.setTop (mkF m 12 #[.val (.ref a0), .val (.int p1), .val (.int (2 : Int32)), .val (.int (16 : Int32))] [(.int (2 : Int32)), (.ref a0)])) _
    refine XS.iloadN X11.here hx rfl (hb hby d3_12) rfl ?_
    show Steps p.tables e below (T11.setTop (mkF m 13 #[.val (.ref a0), .val (.int p1), .val (.int (2 : Int32)), .val (.int (16 : Int32))] [(.int p1), (.int (2 : Int32)), (.ref a0)])) _
    refine st18 _ ?_
    show Steps p.tables e below (T18.setTop (mkF m 14 #[.val (.ref a0), .val (.int p1), .val (.int (2 : Int32)), .val (.int (16 : Int32))] [])) _
    refine XS.iinc X18.here hx rfl (hb hby d3_14) rfl (l' := #[.val (.ref a0), .val (.int p1), .val (.int (3 : Int32)), .val (.int (16 : Int32))]) rfl ?_
    show Steps p.tables e below (T18.setTop (mkF m 17 #[.val (.ref a0), .val (.int p1), .val (.int (3 : Int32)), .val (.int (16 : Int32))] [])) _
    refine XS.goto X18.here hx rfl (pc0 := 17) (pc' := 5) rfl (hb hby d3_17) (by decide) (by decide) ?_
    show Steps p.tables e below (T18.setTop (mkF m 5 #[.val (.ref a0), .val (.int p1), .val (.int (3 : Int32)), .val (.int (16 : Int32))] [])) _
    refine XS.iloadN X18.here hx rfl (hb hby d3_5) rfl ?_
    show Steps p.tables e below (T18.setTop (mkF m 6 #[.val (.ref a0), .val (.int p1), .val (.int (3 : Int32)), .val (.int (16 : Int32))] [(.int (3 : Int32))])) _
    refine XS.iloadN X18.here hx rfl (hb hby d3_6) rfl ?_
    show Steps p.tables e below (T18.setTop (mkF m 7 #[.val (.ref a0), .val (.int p1), .val (.int (3 : Int32)), .val (.int (16 : Int32))] [(.int (16 : Int32)), (.int (3 : Int32))])) _
    refine XS.icmpNo X18.here hx rfl (hb hby d3_7) rfl (tlt (by decide : (3 : Int32) < (16 : Int32))).2.1 ?_
    show Steps p.tables e below (T18.setTop (mkF m 10 #[.val (.ref a0), .val (.int p1), .val (.int (3 : Int32)), .val (.int (16 : Int32))] [])) _
    refine XS.aloadN X18.here hx rfl (hb hby d3_10) rfl rfl ?_
    show Steps p.tables e below (T18.setTop (mkF m 11 #[.val (.ref a0), .val (.int p1), .val (.int (3 : Int32)), .val (.int (16 : Int32))] [(.ref a0)])) _
    refine XS.iloadN X18.here hx rfl (hb hby d3_11) rfl ?_
    show Steps p.tables e below (T18.setTop (mkF m 12 #[.val (.ref a0), .val (.int p1), .val (.int (3 : Int32)), .val (.int (16 : Int32))] [(.int (3 : Int32)), (.ref a0)])) _
    refine XS.iloadN X18.here hx rfl (hb hby d3_12) rfl ?_
    show Steps p.tables e below (T18.setTop (mkF m 13 #[.val (.ref a0), .val (.int p1), .val (.int (3 : Int32)), .val (.int (16 : Int32))] [(.int p1), (.int (3 : Int32)), (.ref a0)])) _
    refine st25 _ ?_
    show Steps p.tables e below (T25.setTop (mkF m 14 #[.val (.ref a0), .val (.int p1), .val (.int (3 : Int32)), .val (.int (16 : Int32))] [])) _
    refine XS.iinc X25.here hx rfl (hb hby d3_14) rfl (l' := #[.val (.ref a0), .val (.int p1), .val (.int (4 : Int32)), .val (.int (16 : Int32))]) rfl ?_
    show Steps p.tables e below (T25.setTop (mkF m 17 #[.val (.ref a0), .val (.int p1), .val (.int (4 : Int32)), .val (.int (16 : Int32))] [])) _
    refine XS.goto X25.here hx rfl (pc0 := 17) (pc' := 5) rfl (hb hby d3_17) (by decide) (by decide) ?_
    show Steps p.tables e below (T25.setTop (mkF m 5 #[.val (.ref a0), .val (.int p1), .val (.int (4 : Int32)), .val (.int (16 : Int32))] [])) _
    refine XS.iloadN X25.here hx rfl (hb hby d3_5) rfl ?_
    show Steps p.tables e below (T25.setTop (mkF m 6 #[.val (.ref a0), .val (.int p1), .val (.int (4 : Int32)), .val (.int (16 : Int32))] [(.int (4 : Int32))])) _
    refine XS.iloadN X25.here hx rfl (hb hby d3_6) rfl ?_
    show Steps p.tables e below (T25.setTop (mkF m 7 #[.val (.ref a0), .val (.int p1), .val (.int (4 : Int32)), .val (.int (16 : Int32))] [(.int (16 : Int32)), (.int (4 : Int32))])) _
    refine XS.icmpNo X25.here hx rfl (hb hby d3_7) rfl (tlt (by decide : (4 : Int32) < (16 : Int32))).2.1 ?_
    show Steps p.tables e below (T25.setTop (mkF m 10 #[.val (.ref a0), .val (.int p1), .val (.int (4 : Int32)), .val (.int (16 : Int32))] [])) _
    refine XS.aloadN X25.here hx rfl (hb hby d3_10) rfl rfl ?_
    show Steps p.tables e below (T25.setTop (mkF m 11 #[.val (.ref a0), .val (.int p1), .val (.int (4 : Int32)), .val (.int (16 : Int32))] [(.ref a0)])) _
    refine XS.iloadN X25.here hx rfl (hb hby d3_11) rfl ?_
    show Steps p.tables e below (T25.setTop (mkF m 12 #[.val (.ref a0), .val (.int p1), .val (.int (4 : Int32)), .val (.int (16 : Int32))] [(.int (4 : Int32)), (.ref a0)])) _
    refine XS.iloadN X25.here hx rfl (hb hby d3_12) rfl ?_
    show Steps p.tables e below (T25.setTop (mkF m 13 #[.val (.ref a0), .val (.int p1), .val (.int (4 : Int32)), .val (.int (16 : Int32))] [(.int p1), (.int (4 : Int32)), (.ref a0)])) _
    refine st32 _ ?_
    show Steps p.tables e below (T32.setTop (mkF m 14 #[.val (.ref a0), .val (.int p1), .val (.int (4 : Int32)), .val (.int (16 : Int32))] [])) _
    refine XS.iinc X32.here hx rfl (hb hby d3_14) rfl (l' := #[.val (.ref a0), .val (.int p1), .val (.int (5 : Int32)), .val (.int (16 : Int32))]) rfl ?_
    show Steps p.tables e below (T32.setTop (mkF m 17 #[.val (.ref a0), .val (.int p1), .val (.int (5 : Int32)), .val (.int (16 : Int32))] [])) _
    refine XS.goto X32.here hx rfl (pc0 := 17) (pc' := 5) rfl (hb hby d3_17) (by decide) (by decide) ?_
    show Steps p.tables e below (T32.setTop (mkF m 5 #[.val (.ref a0), .val (.int p1), .val (.int (5 : Int32)), .val (.int (16 : Int32))] [])) _
    refine XS.iloadN X32.here hx rfl (hb hby d3_5) rfl ?_
    show Steps p.tables e below (T32.setTop (mkF m 6 #[.val (.ref a0), .val (.int p1), .val (.int (5 : Int32)), .val (.int (16 : Int32))] [(.int (5 : Int32))])) _
    refine XS.iloadN X32.here hx rfl (hb hby d3_6) rfl ?_
    show Steps p.tables e below (T32.setTop (mkF m 7 #[.val (.ref a0), .val (.int p1), .val (.int (5 : Int32)), .val (.int (16 : Int32))] [(.int (16 : Int32)), (.int (5 : Int32))])) _
    refine XS.icmpNo X32.here hx rfl (hb hby d3_7) rfl (tlt (by decide : (5 : Int32) < (16 : Int32))).2.1 ?_
    show Steps p.tables e below (T32.setTop (mkF m 10 #[.val (.ref a0), .val (.int p1), .val (.int (5 : Int32)), .val (.int (16 : Int32))] [])) _
    refine XS.aloadN X32.here hx rfl (hb hby d3_10) rfl rfl ?_
    show Steps p.tables e below (T32.setTop (mkF m 11 #[.val (.ref a0), .val (.int p1), .val (.int (5 : Int32)), .val (.int (16 : Int32))] [(.ref a0)])) _
    refine XS.iloadN X32.here hx rfl (hb hby d3_11) rfl ?_
    show Steps p.tables e below (T32.setTop (mkF m 12 #[.val (.ref a0), .val (.int p1), .val (.int (5 : Int32)), .val (.int (16 : Int32))] [(.int (5 : Int32)), (.ref a0)])) _
    refine XS.iloadN X32.here hx rfl (hb hby d3_12) rfl ?_
    show Steps p.tables e below (T32.setTop (mkF m 13 #[.val (.ref a0), .val (.int p1), .val (.int (5 : Int32)), .val (.int (16 : Int32))] [(.int p1), (.int (5 : Int32)), (.ref a0)])) _
    refine st39 _ ?_
    show Steps p.tables e below (T39.setTop (mkF m 14 #[.val (.ref a0), .val (.int p1), .val (.int (5 : Int32)), .val (.int (16 : Int32))] [])) _
    refine XS.iinc X39.here hx rfl (hb hby d3_14) rfl (l' := #[.val (.ref a0), .val (.int p1), .val (.int (6 : Int32)), .val (.int (16 : Int32))]) rfl ?_
    show Steps p.tables e below (T39.setTop (mkF m 17 #[.val (.ref a0), .val (.int p1), .val (.int (6 : Int32)), .val (.int (16 : Int32))] [])) _
    refine XS.goto X39.here hx rfl (pc0 := 17) (pc' := 5) rfl (hb hby d3_17) (by decide) (by decide) ?_
    show Steps p.tables e below (T39.setTop (mkF m 5 #[.val (.ref a0), .val (.int p1), .val (.int (6 : Int32)), .val (.int (16 : Int32))] [])) _
    refine XS.iloadN X39.here hx rfl (hb hby d3_5) rfl ?_
    show Steps p.tables e below (T39.setTop (mkF m 6 #[.val (.ref a0), .val (.int p1), .val (.int (6 : Int32)), .val (.int (16 : Int32))] [(.int (6 : Int32))])) _
    refine XS.iloadN X39.here hx rfl (hb hby d3_6) rfl ?_
    show Steps p.tables e below (T39.setTop (mkF m 7 #[.val (.ref a0), .val (.int p1), .val (.int (6 : Int32)), .val (.int (16 : Int32))] [(.int (16 : Int32)), (.int (6 : Int32))])) _
    refine XS.icmpNo X39.here hx rfl (hb hby d3_7) rfl (tlt (by decide : (6 : Int32) < (16 : Int32))).2.1 ?_
    show Steps p.tables e below (T39.setTop (mkF m 10 #[.val (.ref a0), .val (.int p1), .val (.int (6 : Int32)), .val (.int (16 : Int32))] [])) _
    refine XS.aloadN X39.here hx rfl (hb hby d3_10) rfl rfl ?_
    show Steps p.tables e below (T39.setTop (mkF m 11 #[.val (.ref a0), .val (.int p1), .val (.int (6 : Int32)), .val (.int (16 : Int32))] [(.ref a0)])) _
    refine XS.iloadN X39.here hx rfl (hb hby d3_11) rfl ?_
    show Steps p.tables e below (T39.setTop (mkF m 12 #[.val (.ref a0), .val (.int p1), .val (.int (6 : Int32)), .val (.int (16 : Int32))] [(.int (6 : Int32)), (.ref a0)])) _
    refine XS.iloadN X39.here hx rfl (hb hby d3_12) rfl ?_
    show Steps p.tables e below (T39.setTop (mkF m 13 #[.val (.ref a0), .val (.int p1), .val (.int (6 : Int32)), .val (.int (16 : Int32))] [(.int p1), (.int (6 : Int32)), (.ref a0)])) _
    refine st46 _ ?_
    show Steps p.tables e below (T46.setTop (mkF m 14 #[.val (.ref a0), .val (.int p1), .val (.int (6 : Int32)), .val (.int (16 : Int32))] [])) _
    refine XS.iinc X46.here hx rfl (hb hby d3_14) rfl (l' := #[.val (.ref a0), .val (.int p1), .val (.int (7 : Int32)), .val (.int (16 : Int32))]) rfl ?_
    show Steps p.tables e below (T46.setTop (mkF m 17 #[.val (.ref a0), .val (.int p1), .val (.int (7 : Int32)), .val (.int (16 : Int32))] [])) _
    refine XS.goto X46.here hx rfl (pc0 := 17) (pc' := 5) rfl (hb hby d3_17) (by decide) (by decide) ?_
    show Steps p.tables e below (T46.setTop (mkF m 5 #[.val (.ref a0), .val (.int p1), .val (.int (7 : Int32)), .val (.int (16 : Int32))] [])) _
    refine XS.iloadN X46.here hx rfl (hb hby d3_5) rfl ?_
    show Steps p.tables e below (T46.setTop (mkF m 6 #[.val (.ref a0), .val (.int p1), .val (.int (7 : Int32)), .val (.int (16 : Int32))] [(.int (7 : Int32))])) _
    refine XS.iloadN X46.here hx rfl (hb hby d3_6) rfl ?_
    show Steps p.tables e below (T46.setTop (mkF m 7 #[.val (.ref a0), .val (.int p1), .val (.int (7 : Int32)), .val (.int (16 : Int32))] [(.int (16 : Int32)), (.int (7 : Int32))])) _
    refine XS.icmpNo X46.here hx rfl (hb hby d3_7) rfl (tlt (by decide : (7 : Int32) < (16 : Int32))).2.1 ?_
    show Steps p.tables e below (T46.setTop (mkF m 10 #[.val (.ref a0), .val (.int p1), .val (.int (7 : Int32)), .val (.int (16 : Int32))] [])) _
    refine XS.aloadN X46.here hx rfl (hb hby d3_10) rfl rfl ?_
    show Steps p.tables e below (T46.setTop (mkF m 11 #[.val (.ref a0), .val (.int p1), .val (.int (7 : Int32)), .val (.int (16 : Int32))] [(.ref a0)])) _
    refine XS.iloadN X46.here hx rfl (hb hby d3_11) rfl ?_
    show Steps p.tables e below (T46.setTop (mkF m 12 #[.val (.ref a0), .val (.int p1), .val (.int (7 : Int32)), .val (.int (16 : Int32))] [(.int (7 : Int32)), (.ref a0)])) _
    refine XS.iloadN X46.here hx rfl (hb hby d3_12) rfl ?_
    show Steps p.tables e below (T46.setTop (mkF m 13 #[.val (.ref a0), .val (.int p1), .val (.int (7 : Int32)), .val (.int (16 : Int32))] [(.int p1), (.int (7 : Int32)), (.ref a0)])) _
    refine st53 _ ?_
    show Steps p.tables e below (T53.setTop (mkF m 14 #[.val (.ref a0), .val (.int p1), .val (.int (7 : Int32)), .val (.int (16 : Int32))] [])) _
    refine XS.iinc X53.here hx rfl (hb hby d3_14) rfl (l' := #[.val (.ref a0), .val (.int p1), .val (.int (8 : Int32)), .val (.int (16 : Int32))]) rfl ?_
    show Steps p.tables e below (T53.setTop (mkF m 17 #[.val (.ref a0), .val (.int p1), .val (.int (8 : Int32)), .val (.int (16 : Int32))] [])) _
    refine XS.goto X53.here hx rfl (pc0 := 17) (pc' := 5) rfl (hb hby d3_17) (by decide) (by decide) ?_
    show Steps p.tables e below (T53.setTop (mkF m 5 #[.val (.ref a0), .val (.int p1), .val (.int (8 : Int32)), .val (.int (16 : Int32))] [])) _
    refine XS.iloadN X53.here hx rfl (hb hby d3_5) rfl ?_
    show Steps p.tables e below (T53.setTop (mkF m 6 #[.val (.ref a0), .val (.int p1), .val (.int (8 : Int32)), .val (.int (16 : Int32))] [(.int (8 : Int32))])) _
    refine XS.iloadN X53.here hx rfl (hb hby d3_6) rfl ?_
    show Steps p.tables e below (T53.setTop (mkF m 7 #[.val (.ref a0), .val (.int p1), .val (.int (8 : Int32)), .val (.int (16 : Int32))] [(.int (16 : Int32)), (.int (8 : Int32))])) _
    refine XS.icmpNo X53.here hx rfl (hb hby d3_7) rfl (tlt (by decide : (8 : Int32) < (16 : Int32))).2.1 ?_
    show Steps p.tables e below (T53.setTop (mkF m 10 #[.val (.ref a0), .val (.int p1), .val (.int (8 : Int32)), .val (.int (16 : Int32))] [])) _
    refine XS.aloadN X53.here hx rfl (hb hby d3_10) rfl rfl ?_
    show Steps p.tables e below (T53.setTop (mkF m 11 #[.val (.ref a0), .val (.int p1), .val (.int (8 : Int32)), .val (.int (16 : Int32))] [(.ref a0)])) _
    refine XS.iloadN X53.here hx rfl (hb hby d3_11) rfl ?_
    show Steps p.tables e below (T53.setTop (mkF m 12 #[.val (.ref a0), .val (.int p1), .val (.int (8 : Int32)), .val (.int (16 : Int32))] [(.int (8 : Int32)), (.ref a0)])) _
    refine XS.iloadN X53.here hx rfl (hb hby d3_12) rfl ?_
    show Steps p.tables e below (T53.setTop (mkF m 13 #[.val (.ref a0), .val (.int p1), .val (.int (8 : Int32)), .val (.int (16 : Int32))] [(.int p1), (.int (8 : Int32)), (.ref a0)])) _
    refine st60 _ ?_
    show Steps p.tables e below (T60.setTop (mkF m 14 #[.val (.ref a0), .val (.int p1), .val (.int (8 : Int32)), .val (.int (16 : Int32))] [])) _
    refine XS.iinc X60.here hx rfl (hb hby d3_14) rfl (l' := #[.val (.ref a0), .val (.int p1), .val (.int (9 : Int32)), .val (.int (16 : Int32))]) rfl ?_
    show Steps p.tables e below (T60.setTop (mkF m 17 #[.val (.ref a0), .val (.int p1), .val (.int (9 : Int32)), .val (.int (16 : Int32))] [])) _
    refine XS.goto X60.here hx rfl (pc0 := 17) (pc' := 5) rfl (hb hby d3_17) (by decide) (by decide) ?_
    show Steps p.tables e below (T60.setTop (mkF m 5 #[.val (.ref a0), .val (.int p1), .val (.int (9 : Int32)), .val (.int (16 : Int32))] [])) _
    refine XS.iloadN X60.here hx rfl (hb hby d3_5) rfl ?_
    show Steps p.tables e below (T60.setTop (mkF m 6 #[.val (.ref a0), .val (.int p1), .val (.int (9 : Int32)), .val (.int (16 : Int32))] [(.int (9 : Int32))])) _
    refine XS.iloadN X60.here hx rfl (hb hby d3_6) rfl ?_
    show Steps p.tables e below (T60.setTop (mkF m 7 #[.val (.ref a0), .val (.int p1), .val (.int (9 : Int32)), .val (.int (16 : Int32))] [(.int (16 : Int32)), (.int (9 : Int32))])) _
    refine XS.icmpNo X60.here hx rfl (hb hby d3_7) rfl (tlt (by decide : (9 : Int32) < (16 : Int32))).2.1 ?_
    show Steps p.tables e below (T60.setTop (mkF m 10 #[.val (.ref a0), .val (.int p1), .val (.int (9 : Int32)), .val (.int (16 : Int32))] [])) _
    refine XS.aloadN X60.here hx rfl (hb hby d3_10) rfl rfl ?_
    show Steps p.tables e below (T60.setTop (mkF m 11 #[.val (.ref a0), .val (.int p1), .val (.int (9 : Int32)), .val (.int (16 : Int32))] [(.ref a0)])) _
    refine XS.iloadN X60.here hx rfl (hb hby d3_11) rfl ?_
    show Steps p.tables e below (T60.setTop (mkF m 12 #[.val (.ref a0), .val (.int p1), .val (.int (9 : Int32)), .val (.int (16 : Int32))] [(.int (9 : Int32)), (.ref a0)])) _
    refine XS.iloadN X60.here hx rfl (hb hby d3_12) rfl ?_
    show Steps p.tables e below (T60.setTop (mkF m 13 #[.val (.ref a0), .val (.int p1), .val (.int (9 : Int32)), .val (.int (16 : Int32))] [(.int p1), (.int (9 : Int32)), (.ref a0)])) _
    refine st67 _ ?_
    show Steps p.tables e below (T67.setTop (mkF m 14 #[.val (.ref a0), .val (.int p1), .val (.int (9 : Int32)), .val (.int (16 : Int32))] [])) _
    refine XS.iinc X67.here hx rfl (hb hby d3_14) rfl (l' := #[.val (.ref a0), .val (.int p1), .val (.int (10 : Int32)), .val (.int (16 : Int32))]) rfl ?_
    show Steps p.tables e below (T67.setTop (mkF m 17 #[.val (.ref a0), .val (.int p1), .val (.int (10 : Int32)), .val (.int (16 : Int32))] [])) _
    refine XS.goto X67.here hx rfl (pc0 := 17) (pc' := 5) rfl (hb hby d3_17) (by decide) (by decide) ?_
    show Steps p.tables e below (T67.setTop (mkF m 5 #[.val (.ref a0), .val (.int p1), .val (.int (10 : Int32)), .val (.int (16 : Int32))] [])) _
    refine XS.iloadN X67.here hx rfl (hb hby d3_5) rfl ?_
    show Steps p.tables e below (T67.setTop (mkF m 6 #[.val (.ref a0), .val (.int p1), .val (.int (10 : Int32)), .val (.int (16 : Int32))] [(.int (10 : Int32))])) _
    refine XS.iloadN X67.here hx rfl (hb hby d3_6) rfl ?_
    show Steps p.tables e below (T67.setTop (mkF m 7 #[.val (.ref a0), .val (.int p1), .val (.int (10 : Int32)), .val (.int (16 : Int32))] [(.int (16 : Int32)), (.int (10 : Int32))])) _
    refine XS.icmpNo X67.here hx rfl (hb hby d3_7) rfl (tlt (by decide : (10 : Int32) < (16 : Int32))).2.1 ?_
    show Steps p.tables e below (T67.setTop (mkF m 10 #[.val (.ref a0), .val (.int p1), .val (.int (10 : Int32)), .val (.int (16 : Int32))] [])) _
    refine XS.aloadN X67.here hx rfl (hb hby d3_10) rfl rfl ?_
    show Steps p.tables e below (T67.setTop (mkF m 11 #[.val (.ref a0), .val (.int p1), .val (.int (10 : Int32)), .val (.int (16 : Int32))] [(.ref a0)])) _
    refine XS.iloadN X67.here hx rfl (hb hby d3_11) rfl ?_
    show Steps p.tables e below (T67.setTop (mkF m 12 #[.val (.ref a0), .val (.int p1), .val (.int (10 : Int32)), .val (.int (16 : Int32))] [(.int (10 : Int32)), (.ref a0)])) _
    refine XS.iloadN X67.here hx rfl (hb hby d3_12) rfl ?_
    show Steps p.tables e below (T67.setTop (mkF m 13 #[.val (.ref a0), .val (.int p1), .val (.int (10 : Int32)), .val (.int (16 : Int32))] [(.int p1), (.int (10 : Int32)), (.ref a0)])) _
    refine st74 _ ?_
    show Steps p.tables e below (T74.setTop (mkF m 14 #[.val (.ref a0), .val (.int p1), .val (.int (10 : Int32)), .val (.int (16 : Int32))] [])) _
    refine XS.iinc X74.here hx rfl (hb hby d3_14) rfl (l' := #[.val (.ref a0), .val (.int p1), .val (.int (11 : Int32)), .val (.int (16 : Int32))]) rfl ?_
    show Steps p.tables e below (T74.setTop (mkF m 17 #[.val (.ref a0), .val (.int p1), .val (.int (11 : Int32)), .val (.int (16 : Int32))] [])) _
    refine XS.goto X74.here hx rfl (pc0 := 17) (pc' := 5) rfl (hb hby d3_17) (by decide) (by decide) ?_
    show Steps p.tables e below (T74.setTop (mkF m 5 #[.val (.ref a0), .val (.int p1), .val (.int (11 : Int32)), .val (.int (16 : Int32))] [])) _
    refine XS.iloadN X74.here hx rfl (hb hby d3_5) rfl ?_
    show Steps p.tables e below (T74.setTop (mkF m 6 #[.val (.ref a0), .val (.int p1), .val (.int (11 : Int32)), .val (.int (16 : Int32))] [(.int (11 : Int32))])) _
    refine XS.iloadN X74.here hx rfl (hb hby d3_6) rfl ?_
    show Steps p.tables e below (T74.setTop (mkF m 7 #[.val (.ref a0), .val (.int p1), .val (.int (11 : Int32)), .val (.int (16 : Int32))] [(.int (16 : Int32)), (.int (11 : Int32))])) _
    refine XS.icmpNo X74.here hx rfl (hb hby d3_7) rfl (tlt (by decide : (11 : Int32) < (16 : Int32))).2.1 ?_
    show Steps p.tables e below (T74.setTop (mkF m 10 #[.val (.ref a0), .val (.int p1), .val (.int (11 : Int32)), .val (.int (16 : Int32))] [])) _
    refine XS.aloadN X74.here hx rfl (hb hby d3_10) rfl rfl ?_
    show Steps p.tables e below (T74.setTop (mkF m 11 #[.val (.ref a0), .val (.int p1), .val (.int (11 : Int32)), .val (.int (16 : Int32))] [(.ref a0)])) _
    refine XS.iloadN X74.here hx rfl (hb hby d3_11) rfl ?_
    show Steps p.tables e below (T74.setTop (mkF m 12 #[.val (.ref a0), .val (.int p1), .val (.int (11 : Int32)), .val (.int (16 : Int32))] [(.int (11 : Int32)), (.ref a0)])) _
    refine XS.iloadN X74.here hx rfl (hb hby d3_12) rfl ?_
    show Steps p.tables e below (T74.setTop (mkF m 13 #[.val (.ref a0), .val (.int p1), .val (.int (11 : Int32)), .val (.int (16 : Int32))] [(.int p1), (.int (11 : Int32)), (.ref a0)])) _
    refine st81 _ ?_
    show Steps p.tables e below (T81.setTop (mkF m 14 #[.val (.ref a0), .val (.int p1), .val (.int (11 : Int32)), .val (.int (16 : Int32))] [])) _
    refine XS.iinc X81.here hx rfl (hb hby d3_14) rfl (l' := #[.val (.ref a0), .val (.int p1), .val (.int (12 : Int32)), .val (.int (16 : Int32))]) rfl ?_
    show Steps p.tables e below (T81.setTop (mkF m 17 #[.val (.ref a0), .val (.int p1), .val (.int (12 : Int32)), .val (.int (16 : Int32))] [])) _
    refine XS.goto X81.here hx rfl (pc0 := 17) (pc' := 5) rfl (hb hby d3_17) (by decide) (by decide) ?_
    show Steps p.tables e below (T81.setTop (mkF m 5 #[.val (.ref a0), .val (.int p1), .val (.int (12 : Int32)), .val (.int (16 : Int32))] [])) _
    refine XS.iloadN X81.here hx rfl (hb hby d3_5) rfl ?_
    show Steps p.tables e below (T81.setTop (mkF m 6 #[.val (.ref a0), .val (.int p1), .val (.int (12 : Int32)), .val (.int (16 : Int32))] [(.int (12 : Int32))])) _
    refine XS.iloadN X81.here hx rfl (hb hby d3_6) rfl ?_
    show Steps p.tables e below (T81.setTop (mkF m 7 #[.val (.ref a0), .val (.int p1), .val (.int (12 : Int32)), .val (.int (16 : Int32))] [(.int (16 : Int32)), (.int (12 : Int32))])) _
    refine XS.icmpNo X81.here hx rfl (hb hby d3_7) rfl (tlt (by decide : (12 : Int32) < (16 : Int32))).2.1 ?_
    show Steps p.tables e below (T81.setTop (mkF m 10 #[.val (.ref a0), .val (.int p1), .val (.int (12 : Int32)), .val (.int (16 : Int32))] [])) _
    refine XS.aloadN X81.here hx rfl (hb hby d3_10) rfl rfl ?_
    show Steps p.tables e below (T81.setTop (mkF m 11 #[.val (.ref a0), .val (.int p1), .val (.int (12 : Int32)), .val (.int (16 : Int32))] [(.ref a0)])) _
    refine XS.iloadN X81.here hx rfl (hb hby d3_11) rfl ?_
    show Steps p.tables e below (T81.setTop (mkF m 12 #[.val (.ref a0), .val (.int p1), .val (.int (12 : Int32)), .val (.int (16 : Int32))] [(.int (12 : Int32)), (.ref a0)])) _
    refine XS.iloadN X81.here hx rfl (hb hby d3_12) rfl ?_
    show Steps p.tables e below (T81.setTop (mkF m 13 #[.val (.ref a0), .val (.int p1), .val (.int (12 : Int32)), .val (.int (16 : Int32))] [(.int p1), (.int (12 : Int32)), (.ref a0)])) _
    refine st88 _ ?_
    show Steps p.tables e below (T88.setTop (mkF m 14 #[.val (.ref a0), .val (.int p1), .val (.int (12 : Int32)), .val (.int (16 : Int32))] [])) _
    refine XS.iinc X88.here hx rfl (hb hby d3_14) rfl (l' := #[.val (.ref a0), .val (.int p1), .val (.int (13 : Int32)), .val (.int (16 : Int32))]) rfl ?_
    show Steps p.tables e below (T88.setTop (mkF m 17 #[.val (.ref a0), .val (.int p1), .val (.int (13 : Int32)), .val (.int (16 : Int32))] [])) _
    refine XS.goto X88.here hx rfl (pc0 := 17) (pc' := 5) rfl (hb hby d3_17) (by decide) (by decide) ?_
    show Steps p.tables e below (T88.setTop (mkF m 5 #[.val (.ref a0), .val (.int p1), .val (.int (13 : Int32)), .val (.int (16 : Int32))] [])) _
    refine XS.iloadN X88.here hx rfl (hb hby d3_5) rfl ?_
    show Steps p.tables e below (T88.setTop (mkF m 6 #[.val (.ref a0), .val (.int p1), .val (.int (13 : Int32)), .val (.int (16 : Int32))] [(.int (13 : Int32))])) _
    refine XS.iloadN X88.here hx rfl (hb hby d3_6) rfl ?_
    show Steps p.tables e below (T88.setTop (mkF m 7 #[.val (.ref a0), .val (.int p1), .val (.int (13 : Int32)), .val (.int (16 : Int32))] [(.int (16 : Int32)), (.int (13 : Int32))])) _
    refine XS.icmpNo X88.here hx rfl (hb hby d3_7) rfl (tlt (by decide : (13 : Int32) < (16 : Int32))).2.1 ?_
    show Steps p.tables e below (T88.setTop (mkF m 10 #[.val (.ref a0), .val (.int p1), .val (.int (13 : Int32)), .val (.int (16 : Int32))] [])) _
    refine XS.aloadN X88.here hx rfl (hb hby d3_10) rfl rfl ?_
    show Steps p.tables e below (T88.setTop (mkF m 11 #[.val (.ref a0), .val (.int p1), .val (.int (13 : Int32)), .val (.int (16 : Int32))] [(.ref a0)])) _
    refine XS.iloadN X88.here hx rfl (hb hby d3_11) rfl ?_
    show Steps p.tables e below (T88.setTop (mkF m 12 #[.val (.ref a0), .val (.int p1), .val (.int (13 : Int32)), .val (.int (16 : Int32))] [(.int (13 : Int32)), (.ref a0)])) _
    refine XS.iloadN X88.here hx rfl (hb hby d3_12) rfl ?_
    show Steps p.tables e below (T88.setTop (mkF m 13 #[.val (.ref a0), .val (.int p1), .val (.int (13 : Int32)), .val (.int (16 : Int32))] [(.int p1), (.int (13 : Int32)), (.ref a0)])) _
    refine st95 _ ?_
    show Steps p.tables e below (T95.setTop (mkF m 14 #[.val (.ref a0), .val (.int p1), .val (.int (13 : Int32)), .val (.int (16 : Int32))] [])) _
    refine XS.iinc X95.here hx rfl (hb hby d3_14) rfl (l' := #[.val (.ref a0), .val (.int p1), .val (.int (14 : Int32)), .val (.int (16 : Int32))]) rfl ?_
    show Steps p.tables e below (T95.setTop (mkF m 17 #[.val (.ref a0), .val (.int p1), .val (.int (14 : Int32)), .val (.int (16 : Int32))] [])) _
    refine XS.goto X95.here hx rfl (pc0 := 17) (pc' := 5) rfl (hb hby d3_17) (by decide) (by decide) ?_
    show Steps p.tables e below (T95.setTop (mkF m 5 #[.val (.ref a0), .val (.int p1), .val (.int (14 : Int32)), .val (.int (16 : Int32))] [])) _
    refine XS.iloadN X95.here hx rfl (hb hby d3_5) rfl ?_
    show Steps p.tables e below (T95.setTop (mkF m 6 #[.val (.ref a0), .val (.int p1), .val (.int (14 : Int32)), .val (.int (16 : Int32))] [(.int (14 : Int32))])) _
    refine XS.iloadN X95.here hx rfl (hb hby d3_6) rfl ?_
    show Steps p.tables e below (T95.setTop (mkF m 7 #[.val (.ref a0), .val (.int p1), .val (.int (14 : Int32)), .val (.int (16 : Int32))] [(.int (16 : Int32)), (.int (14 : Int32))])) _
    refine XS.icmpNo X95.here hx rfl (hb hby d3_7) rfl (tlt (by decide : (14 : Int32) < (16 : Int32))).2.1 ?_
    show Steps p.tables e below (T95.setTop (mkF m 10 #[.val (.ref a0), .val (.int p1), .val (.int (14 : Int32)), .val (.int (16 : Int32))] [])) _
    refine XS.aloadN X95.here hx rfl (hb hby d3_10) rfl rfl ?_
    show Steps p.tables e below (T95.setTop (mkF m 11 #[.val (.ref a0), .val (.int p1), .val (.int (14 : Int32)), .val (.int (16 : Int32))] [(.ref a0)])) _
    refine XS.iloadN X95.here hx rfl (hb hby d3_11) rfl ?_
    show Steps p.tables e below (T95.setTop (mkF m 12 #[.val (.ref a0), .val (.int p1), .val (.int (14 : Int32)), .val (.int (16 : Int32))] [(.int (14 : Int32)), (.ref a0)])) _
    refine XS.iloadN X95.here hx rfl (hb hby d3_12) rfl ?_
    show Steps p.tables e below (T95.setTop (mkF m 13 #[.val (.ref a0), .val (.int p1), .val (.int (14 : Int32)), .val (.int (16 : Int32))] [(.int p1), (.int (14 : Int32)), (.ref a0)])) _
    refine st102 _ ?_
    show Steps p.tables e below (T102.setTop (mkF m 14 #[.val (.ref a0), .val (.int p1), .val (.int (14 : Int32)), .val (.int (16 : Int32))] [])) _
    refine XS.iinc X102.here hx rfl (hb hby d3_14) rfl (l' := #[.val (.ref a0), .val (.int p1), .val (.int (15 : Int32)), .val (.int (16 : Int32))]) rfl ?_
    show Steps p.tables e below (T102.setTop (mkF m 17 #[.val (.ref a0), .val (.int p1), .val (.int (15 : Int32)), .val (.int (16 : Int32))] [])) _
    refine XS.goto X102.here hx rfl (pc0 := 17) (pc' := 5) rfl (hb hby d3_17) (by decide) (by decide) ?_
    show Steps p.tables e below (T102.setTop (mkF m 5 #[.val (.ref a0), .val (.int p1), .val (.int (15 : Int32)), .val (.int (16 : Int32))] [])) _
    refine XS.iloadN X102.here hx rfl (hb hby d3_5) rfl ?_
    show Steps p.tables e below (T102.setTop (mkF m 6 #[.val (.ref a0), .val (.int p1), .val (.int (15 : Int32)), .val (.int (16 : Int32))] [(.int (15 : Int32))])) _
    refine XS.iloadN X102.here hx rfl (hb hby d3_6) rfl ?_
    show Steps p.tables e below (T102.setTop (mkF m 7 #[.val (.ref a0), .val (.int p1), .val (.int (15 : Int32)), .val (.int (16 : Int32))] [(.int (16 : Int32)), (.int (15 : Int32))])) _
    refine XS.icmpNo X102.here hx rfl (hb hby d3_7) rfl (tlt (by decide : (15 : Int32) < (16 : Int32))).2.1 ?_
    show Steps p.tables e below (T102.setTop (mkF m 10 #[.val (.ref a0), .val (.int p1), .val (.int (15 : Int32)), .val (.int (16 : Int32))] [])) _
    refine XS.aloadN X102.here hx rfl (hb hby d3_10) rfl rfl ?_
    show Steps p.tables e below (T102.setTop (mkF m 11 #[.val (.ref a0), .val (.int p1), .val (.int (15 : Int32)), .val (.int (16 : Int32))] [(.ref a0)])) _
    refine XS.iloadN X102.here hx rfl (hb hby d3_11) rfl ?_
    show Steps p.tables e below (T102.setTop (mkF m 12 #[.val (.ref a0), .val (.int p1), .val (.int (15 : Int32)), .val (.int (16 : Int32))] [(.int (15 : Int32)), (.ref a0)])) _
    refine XS.iloadN X102.here hx rfl (hb hby d3_12) rfl ?_
    show Steps p.tables e below (T102.setTop (mkF m 13 #[.val (.ref a0), .val (.int p1), .val (.int (15 : Int32)), .val (.int (16 : Int32))] [(.int p1), (.int (15 : Int32)), (.ref a0)])) _
    refine st109 _ ?_
    show Steps p.tables e below (T109.setTop (mkF m 14 #[.val (.ref a0), .val (.int p1), .val (.int (15 : Int32)), .val (.int (16 : Int32))] [])) _
    refine XS.iinc X109.here hx rfl (hb hby d3_14) rfl (l' := #[.val (.ref a0), .val (.int p1), .val (.int (16 : Int32)), .val (.int (16 : Int32))]) rfl ?_
    show Steps p.tables e below (T109.setTop (mkF m 17 #[.val (.ref a0), .val (.int p1), .val (.int (16 : Int32)), .val (.int (16 : Int32))] [])) _
    refine XS.goto X109.here hx rfl (pc0 := 17) (pc' := 5) rfl (hb hby d3_17) (by decide) (by decide) ?_
    show Steps p.tables e below (T109.setTop (mkF m 5 #[.val (.ref a0), .val (.int p1), .val (.int (16 : Int32)), .val (.int (16 : Int32))] [])) _
    refine XS.iloadN X109.here hx rfl (hb hby d3_5) rfl ?_
    show Steps p.tables e below (T109.setTop (mkF m 6 #[.val (.ref a0), .val (.int p1), .val (.int (16 : Int32)), .val (.int (16 : Int32))] [(.int (16 : Int32))])) _
    refine XS.iloadN X109.here hx rfl (hb hby d3_6) rfl ?_
    show Steps p.tables e below (T109.setTop (mkF m 7 #[.val (.ref a0), .val (.int p1), .val (.int (16 : Int32)), .val (.int (16 : Int32))] [(.int (16 : Int32)), (.int (16 : Int32))])) _
    refine XS.icmpYes X109.here hx rfl (pc0 := 7) (pc' := 20) rfl (hb hby d3_7) rfl (flt (by decide : ¬ ((16 : Int32) < (16 : Int32)))).2.1 (by decide) (by decide) ?_
    show Steps p.tables e below (T109.setTop (mkF m 20 #[.val (.ref a0), .val (.int p1), .val (.int (16 : Int32)), .val (.int (16 : Int32))] [])) _
    exact X109.returnOut hx Bd.returns (hb hby d3_20) hr
  · show Q3 Z a0 p1 u0 u1 u2 u3 u4 u5 u6 u7 u8 u9 u10 u11 u12 u13 u14 u15 k_a0 h0 n0 _ T109.heap _
    rw [e109]
    exact ⟨rfl, N113, K111, V109⟩
theorem d1_0 : decode prog_31_method_1_code 0 = .ok (.aload_n 0, 1) := by decide +kernel
theorem d1_1 : decode prog_31_method_1_code 1 = .ok (.invokespecial 1, 3) := by decide +kernel
theorem d1_4 : decode prog_31_method_1_code 4 = .ok (.aload_n 0, 1) := by decide +kernel
theorem d1_5 : decode prog_31_method_1_code 5 = .ok (.bipush 16, 2) := by decide +kernel
theorem d1_7 : decode prog_31_method_1_code 7 = .ok (.newarray .long, 2) := by decide +kernel
theorem d1_9 : decode prog_31_method_1_code 9 = .ok (.putfield 7, 3) := by decide +kernel
theorem d1_12 : decode prog_31_method_1_code 12 = .ok (.aload_n 0, 1) := by decide +kernel
theorem d1_13 : decode prog_31_method_1_code 13 = .ok (.bipush 16, 2) := by decide +kernel
theorem d1_15 : decode prog_31_method_1_code 15 = .ok (.newarray .int, 2) := by decide +kernel
theorem d1_17 : decode prog_31_method_1_code 17 = .ok (.putfield 13, 3) := by decide +kernel
theorem d1_20 : decode prog_31_method_1_code 20 = .ok (.aload_n 0, 1) := by decide +kernel
theorem d1_21 : decode prog_31_method_1_code 21 = .ok (.getfield 13, 3) := by decide +kernel
theorem d1_24 : decode prog_31_method_1_code 24 = .ok (.iconst (-1), 1) := by decide +kernel
theorem pd_1 : parseMethodDescriptor "([II)V" = some ⟨[(.array .int), .int], none⟩ := by decide +kernel
theorem d1_25 : decode prog_31_method_1_code 25 = .ok (.invokestatic 17, 3) := by decide +kernel
theorem d1_28 : decode prog_31_method_1_code 28 = .ok (.return_, 1) := by decide +kernel
theorem pn_2 : plainName "com/example/pathfield/pathfield/query/LongIntMap" = true := by first | (simp [plainName, overriddenIn]; done) | decide +kernel
theorem ef1 (m : MethodId) (x0 : Addr) : entryFrame m #[(.ref x0)] 1 = mkF m 0 #[.val (.ref x0)] [] := by first | (simp [entryFrame, mkF, argsToLocals, Value.category]; done) | rfl
abbrev rr1 : Room := { frames := 1, cells := 2, slots := 32, locals := 15 }
def Q1 (Z : State) (a0 : Addr) (h0 : Heap) (n0 : Nat) (v : Option Value) (h : Heap) (L : List Loc) : Prop := ∃ (x0 : Addr) (x1 : Addr) (y0 : ClassId) (y1 : ClassId), v = none ∧ Fr n0 L ∧ Keep h0 h [a0] ∧ n0 ≤ x0 ∧ h0.size ≤ x0 ∧ n0 ≤ x1 ∧ h0.size ≤ x1 ∧ x0 ≠ x1 ∧ Exa Z h a0 "com/example/pathfield/pathfield/query/LongIntMap" ∧ Fld Z h a0 "com/example/pathfield/pathfield/query/LongIntMap" "keys" "[J" (.ref x0) ∧ Fld Z h a0 "com/example/pathfield/pathfield/query/LongIntMap" "values" "[I" (.ref x1) ∧ Fld Z h a0 "com/example/pathfield/pathfield/query/LongIntMap" "size" "I" (.int (0 : Int32)) ∧ Arv Z h x0 y0 .long (16 : Int32) [(.long (0 : Int64)), (.long (0 : Int64)), (.long (0 : Int64)), (.long (0 : Int64)), (.long (0 : Int64)), (.long (0 : Int64)), (.long (0 : Int64)), (.long (0 : Int64)), (.long (0 : Int64)), (.long (0 : Int64)), (.long (0 : Int64)), (.long (0 : Int64)), (.long (0 : Int64)), (.long (0 : Int64)), (.long (0 : Int64)), (.long (0 : Int64))] (.long (0 : Int64)) ∧ Arv Z h x1 y1 .int (16 : Int32) [(.int (-1 : Int32)), (.int (-1 : Int32)), (.int (-1 : Int32)), (.int (-1 : Int32)), (.int (-1 : Int32)), (.int (-1 : Int32)), (.int (-1 : Int32)), (.int (-1 : Int32)), (.int (-1 : Int32)), (.int (-1 : Int32)), (.int (-1 : Int32)), (.int (-1 : Int32)), (.int (-1 : Int32)), (.int (-1 : Int32)), (.int (-1 : Int32)), (.int (-1 : Int32))] (.int (0 : Int32))
set_option maxRecDepth 65536 in
set_option maxHeartbeats 40000000 in
theorem rm1 (l : Launch) (Z : State) (aw : Array Value) (hw : ∀ d ∈ tables_1, d.before aw Z = true) (ws : List Jvm.Cond) (a0 : Addr) (h0 : Heap) (n0 : Nat) (Z0 : n0 ≤ h0.size) (E_a0 : Exa Z h0 a0 "com/example/pathfield/pathfield/query/LongIntMap") (F_keys_a0 : Fld Z h0 a0 "com/example/pathfield/pathfield/query/LongIntMap" "keys" "[J" .null) (F_values_a0 : Fld Z h0 a0 "com/example/pathfield/pathfield/query/LongIntMap" "values" "[I" .null) (F_size_a0 : Fld Z h0 a0 "com/example/pathfield/pathfield/query/LongIntMap" "size" "I" (.int (0 : Int32))) (g_a0 : n0 ≤ a0) :
    MetFree l (⟨"com/example/pathfield/pathfield/query/LongIntMap", "<init>", "()V"⟩ : MethodName) (head1 (Jvm.Cond.code (⟨"com/example/pathfield/pathfield/query/LongIntMap", "<init>", "()V"⟩ : MethodName) prog_31_method_1_code 1 none :: ws) rr1) (fun a U => a = #[(.ref a0)] ∧ Z.Warmed39 U.vm ∧ U.heap = h0) (fun _ _ _ _ _ => True) (fun _ U o U' => ∃ v L, o = .returned v ∧ Q1 Z a0 h0 n0 v U'.heap L ∧ FrameEnd U o U' L rr1.cells rr1.slots) := by
  refine MetFree.of_bodySF (plainFor_of_name pn_2) hisR ?_
  intro p e s m args below meth c s₁ Bd hml0 hP hK
  obtain ⟨rfl, hZ, hh⟩ := hP
  have hx := Bd.exec
  have hby := Bd.bytes
  have hml : c.maxLocals = 1 := hml0
  have hown : s.vm.findClass "com/example/pathfield/pathfield/query/LongIntMap" = some m.cls := findClass_of_methodNamed Bd.named
  have hnm := (name_of_methodNamed Bd.named Bd.method).1
  have X0 : Stand p l e rr1 s m #[(.ref a0)] below meth c s₁ [] 0 0 := Stand.of_body Bd
  have e0 : s₁.heap = h0 := by rw [← hh, Bd.state]; rfl
  have N0 := Fr.nil n0
  have K0 := Keep.refl h0 [a0]
  have pre0 : ∀ t, Steps p.tables e below (s₁.setTop (mkF m 0 #[.val (.ref a0)] [])) t → Steps p.tables e below (s₁.setTop (entryFrame m #[(.ref a0)] 1)) t := fun t k => castTop (ef1 m a0) k
  obtain ⟨T114, X114, e114, st114⟩ := initO X0 hx hZ hown (hw _ (List.mem_of_getElem? (i := 8) rfl)) (hw _ (List.mem_of_getElem? (i := 9) rfl)) (hw _ (List.mem_of_getElem? (i := 10) rfl)) e0 (g := (mkF m 1 #[.val (.ref a0)] [(.ref a0)])) rfl (by rw [hml]; rfl) rfl (hb hby d1_1) (by decide) (W := 0) (by show 2 * 0 + _ ≤ _; exact Nat.le_of_eq rfl) (by decide)
  obtain ⟨T115, h115, k115, X115, e115, E115, A115, st115⟩ := newP X114 hx hZ (hw _ (List.mem_of_getElem? (i := 1) rfl)) e114 (g := (mkF m 7 #[.val (.ref a0)] [(.int (16 : Int32)), (.ref a0)])) rfl (hb hby d1_7) rfl (by decide) (cap := 16) (by decide) (by decide) (by decide) (by decide)
  obtain ⟨b115, gg115⟩ : ∃ z, z = h0.size := ⟨_, rfl⟩
  rw [← gg115] at A115 st115
  have f116 := E_a0.ext E115
  have f117 := F_keys_a0.ext E115
  have f118 := F_values_a0.ext E115
  have f119 := F_size_a0.ext E115
  have ne120 : a0 ≠ b115 := Nat.ne_of_lt (Nat.lt_of_lt_of_le E_a0.lt (Nat.le_of_eq gg115.symm))
  have g_b115 : n0 ≤ b115 := Nat.le_trans Z0 (Nat.le_of_eq gg115.symm)
  have sz_b115 : h0.size ≤ b115 := Nat.le_trans K0.1 (Nat.le_of_eq gg115.symm)
  have K121 := K0.ext E115
  have Z122 := Nat.le_trans Z0 E115.1
  have V115 : Arv Z h115 b115 k115 .long (16 : Int32) [(.long (0 : Int64)), (.long (0 : Int64)), (.long (0 : Int64)), (.long (0 : Int64)), (.long (0 : Int64)), (.long (0 : Int64)), (.long (0 : Int64)), (.long (0 : Int64)), (.long (0 : Int64)), (.long (0 : Int64)), (.long (0 : Int64)), (.long (0 : Int64)), (.long (0 : Int64)), (.long (0 : Int64)), (.long (0 : Int64)), (.long (0 : Int64))] (.long (0 : Int64)) := (Arv.new A115 (by decide)).pad (pad_rep [] (.long (0 : Int64)) 16)
  obtain ⟨T123, h123, X123, e123, W123, st123⟩ := putF X115 hx hZ hown (host := "") (Or.inl (hw _ (List.mem_of_getElem? (i := 11) rfl))) Via.refl e115 f117 f116 (Or.inl (hw _ (List.mem_of_getElem? (i := 12) rfl))) (hw _ (List.mem_of_getElem? (i := 3) rfl)) (ty := (.array .long)) (by decide) rfl rfl (g := (mkF m 9 #[.val (.ref a0)] [(.ref b115), (.ref a0)])) rfl rfl (hb hby d1_9)
  have f123w : Fld Z h123 a0 "com/example/pathfield/pathfield/query/LongIntMap" "keys" "[J" (.ref b115) := f117.same W123
  have f124 := f116.wr W123
  have f126 := f118.other W123 (Or.inr (slot_ne (Or.inl (hw _ (List.mem_of_getElem? (i := 15) rfl))) (Or.inl (hw _ (List.mem_of_getElem? (i := 12) rfl))) (by decide) (t := (.array .int)) (t' := (.array .long)) (by decide) (by decide)))
  have f127 := f119.other W123 (Or.inr (slot_ne (Or.inl (hw _ (List.mem_of_getElem? (i := 26) rfl))) (Or.inl (hw _ (List.mem_of_getElem? (i := 12) rfl))) (by decide) (t := .int) (t' := (.array .long)) (by decide) (by decide)))
  have f128 := V115.other W123 (Ne.symm ne120)
  have K129 := K121.wr W123 (Or.inl (List.mem_of_getElem? (i := 0) rfl))
  have Z130 := Nat.le_trans Z122 (Keep.of_wr W123).1
  have N131 := Fr.snoc X123 N0 g_a0
  obtain ⟨T132, h132, k132, X132, e132, E132, A132, st132⟩ := newP X123 hx hZ (hw _ (List.mem_of_getElem? (i := 13) rfl)) e123 (g := (mkF m 15 #[.val (.ref a0)] [(.int (16 : Int32)), (.ref a0)])) rfl (hb hby d1_15) rfl (by decide) (cap := 16) (by decide) (by decide) (by decide) (by decide)
  obtain ⟨b132, gg132⟩ : ∃ z, z = h123.size := ⟨_, rfl⟩
  rw [← gg132] at A132 st132
  have f133 := f124.ext E132
  have f134 := f123w.ext E132
  have f135 := f126.ext E132
  have f136 := f127.ext E132
  have f137 := f128.ext E132
  have ne138 : a0 ≠ b132 := Nat.ne_of_lt (Nat.lt_of_lt_of_le f124.lt (Nat.le_of_eq gg132.symm))
  have ne139 : b115 ≠ b132 := Nat.ne_of_lt (Nat.lt_of_lt_of_le f128.lt (Nat.le_of_eq gg132.symm))
  have g_b132 : n0 ≤ b132 := Nat.le_trans Z130 (Nat.le_of_eq gg132.symm)
  have sz_b132 : h0.size ≤ b132 := Nat.le_trans K129.1 (Nat.le_of_eq gg132.symm)
  have K140 := K129.ext E132
  have Z141 := Nat.le_trans Z130 E132.1
  have V132 : Arv Z h132 b132 k132 .int (16 : Int32) [(.int (0 : Int32)), (.int (0 : Int32)), (.int (0 : Int32)), (.int (0 : Int32)), (.int (0 : Int32)), (.int (0 : Int32)), (.int (0 : Int32)), (.int (0 : Int32)), (.int (0 : Int32)), (.int (0 : Int32)), (.int (0 : Int32)), (.int (0 : Int32)), (.int (0 : Int32)), (.int (0 : Int32)), (.int (0 : Int32)), (.int (0 : Int32))] (.int (0 : Int32)) := (Arv.new A132 (by decide)).pad (pad_rep [] (.int (0 : Int32)) 16)
  obtain ⟨T142, h142, X142, e142, W142, st142⟩ := putF X132 hx hZ hown (host := "") (Or.inl (hw _ (List.mem_of_getElem? (i := 14) rfl))) Via.refl e132 f135 f133 (Or.inl (hw _ (List.mem_of_getElem? (i := 15) rfl))) (hw _ (List.mem_of_getElem? (i := 3) rfl)) (ty := (.array .int)) (by decide) rfl rfl (g := (mkF m 17 #[.val (.ref a0)] [(.ref b132), (.ref a0)])) rfl rfl (hb hby d1_17)
  have f142w : Fld Z h142 a0 "com/example/pathfield/pathfield/query/LongIntMap" "values" "[I" (.ref b132) := f135.same W142
  have f143 := f133.wr W142
  have f144 := f134.other W142 (Or.inr (slot_ne (Or.inl (hw _ (List.mem_of_getElem? (i := 12) rfl))) (Or.inl (hw _ (List.mem_of_getElem? (i := 15) rfl))) (by decide) (t := (.array .long)) (t' := (.array .int)) (by decide) (by decide)))
  have f146 := f136.other W142 (Or.inr (slot_ne (Or.inl (hw _ (List.mem_of_getElem? (i := 26) rfl))) (Or.inl (hw _ (List.mem_of_getElem? (i := 15) rfl))) (by decide) (t := .int) (t' := (.array .int)) (by decide) (by decide)))
  have f147 := f137.other W142 (Ne.symm ne120)
  have f148 := V132.other W142 (Ne.symm ne138)
  have K149 := K140.wr W142 (Or.inl (List.mem_of_getElem? (i := 0) rfl))
  have Z150 := Nat.le_trans Z141 (Keep.of_wr W142).1
  have N151 := Fr.snoc X142 N131 g_a0
  obtain ⟨T152, X152, e152, st152⟩ := getF X142 hx hZ hown (host := "") (Or.inl (hw _ (List.mem_of_getElem? (i := 14) rfl))) Via.refl e142 f142w (g := (mkF m 21 #[.val (.ref a0)] [(.ref a0)])) rfl rfl (hb hby d1_21)
  obtain ⟨_, _, ⟨T153, L153, k153, n153⟩, -, X153, ⟨Lc153, hQ153, l153, y153, z153⟩, st153⟩ := Jvm.LawKit.callS X152 hx (y := (⟨"java/util/Arrays", "fill", "([II)V"⟩ : MethodName)) hown (mvT hZ (hw _ (List.mem_of_getElem? (i := 16) rfl))) (mvT hZ (hw _ (List.mem_of_getElem? (i := 17) rfl))) (mvT hZ (hw _ (List.mem_of_getElem? (i := 18) rfl))) (mvT hZ (hw _ (List.mem_of_getElem? (i := 19) rfl))) (by decide) (backOf (W := 0) (rm3 l Z aw hw [] b132 ((-1 : Int32)) ((0 : Int32)) ((0 : Int32)) ((0 : Int32)) ((0 : Int32)) ((0 : Int32)) ((0 : Int32)) ((0 : Int32)) ((0 : Int32)) ((0 : Int32)) ((0 : Int32)) ((0 : Int32)) ((0 : Int32)) ((0 : Int32)) ((0 : Int32)) ((0 : Int32)) ((0 : Int32)) k132 h142 n0 Z150 f148 g_b132) hZ (hw _ (List.mem_of_getElem? (i := 19) rfl)) (hw _ (List.mem_of_getElem? (i := 18) rfl)) (by decide) (by decide)) (g := (mkF m 25 #[.val (.ref a0)] [(.int (-1 : Int32)), (.ref b132)])) rfl (by rw [hml]; rfl) (argsL := [(.ref b132), (.int (-1 : Int32))]) (rest := []) (lenOf pd_1 rfl) rfl (by show 2 * 0 + _ ≤ _; exact Nat.le_of_eq rfl) (hb hby d1_25) (fun _ _ => ⟨rfl, e152, (by decide : 2 + 0 ≤ _), (by decide : 32 + 0 ≤ _)⟩)
  dsimp only [Pt.U, Pt.locs, Pt.cells, Pt.slots] at X153 l153 y153 z153 st153 hQ153
  replace l153 := l153.symm
  subst l153 y153 z153
  obtain ⟨h153, e153⟩ : ∃ z, T153.heap = z := ⟨_, rfl⟩
  rw [e153] at hQ153
  obtain ⟨rfl, N153q, K153q, f154⟩ := hQ153
  have f155 := f143.keep K153q
  have f156 := f144.keep K153q (ninS ne138 nin0)
  have f157 := f142w.keep K153q (ninS ne138 nin0)
  have f158 := f146.keep K153q (ninS ne138 nin0)
  have f159 := f147.keep K153q (ninS ne139 nin0)
  have K153 := K149.trans K153q (allS (Or.inr sz_b132) all0)
  have Z153 := Nat.le_trans Z150 K153q.1
  have N153 := Fr.app N151 N153q
  obtain ⟨fs, hr, hrun, hended, hW, hsame⟩ := X153.leave (v := none) (fun _ => rfl) (BodyLoose.notSynchronized Bd)
  refine ⟨_, _, pre0 _ ?_, hrun, hended, _, _, rfl, ?_, ⟨_, rfl⟩, hW, hsame.mono (by decide) (by decide)⟩
  · skip
    show Steps p.tables e below (s₁.setTop (mkF m 0 #[.val (.ref a0)] [])) _
    refine XS.aloadN X0.here hx rfl (hb hby d1_0) rfl rfl ?_
    show Steps p.tables e below (s₁.setTop (mkF m 1 #[.val (.ref a0)] [(.ref a0)])) _
    refine st114 _ ?_
    show Steps p.tables e below (T114.setTop (mkF m 4 #[.val (.ref a0)] [])) _
    refine XS.aloadN X114.here hx rfl (hb hby d1_4) rfl rfl ?_
    show Steps p.tables e below (T114.setTop (mkF m 5 #[.val (.ref a0)] [(.ref a0)])) _
    refine XS.bipush X114.here hx rfl (hb hby d1_5) ?_
    show Steps p.tables e below (T114.setTop (mkF m 7 #[.val (.ref a0)] [(.int (16 : Int32)), (.ref a0)])) _
    refine st115 _ ?_
    show Steps p.tables e below (T115.setTop (mkF m 9 #[.val (.ref a0)] [(.ref b115), (.ref a0)])) _
    refine st123 _ ?_
    show Steps p.tables e below (T123.setTop (mkF m 12 #[.val (.ref a0)] [])) _
    refine XS.aloadN X123.here hx rfl (hb hby d1_12) rfl rfl ?_
    show Steps p.tables e below (T123.setTop (mkF m 13 #[.val (.ref a0)] [(.ref a0)])) _
    refine XS.bipush X123.here hx rfl (hb hby d1_13) ?_
    show Steps p.tables e below (T123.setTop (mkF m 15 #[.val (.ref a0)] [(.int (16 : Int32)), (.ref a0)])) _
    refine st132 _ ?_
    show Steps p.tables e below (T132.setTop (mkF m 17 #[.val (.ref a0)] [(.ref b132), (.ref a0)])) _
    refine st142 _ ?_
    show Steps p.tables e below (T142.setTop (mkF m 20 #[.val (.ref a0)] [])) _
    refine XS.aloadN X142.here hx rfl (hb hby d1_20) rfl rfl ?_
    show Steps p.tables e below (T142.setTop (mkF m 21 #[.val (.ref a0)] [(.ref a0)])) _
    refine st152 _ ?_
    show Steps p.tables e below (T152.setTop (mkF m 24 #[.val (.ref a0)] [(.ref b132)])) _
    refine XS.iconst X152.here hx rfl (hb hby d1_24) ?_
    show Steps p.tables e below (T152.setTop (mkF m 25 #[.val (.ref a0)] [(.int (-1 : Int32)), (.ref b132)])) _
    refine st153 _ ?_
    show Steps p.tables e below (T153.setTop (mkF m 28 #[.val (.ref a0)] [])) _
    exact X153.returnOut hx Bd.returns (hb hby d1_28) hr
  · show Q1 Z a0 h0 n0 _ T153.heap _
    rw [e153]
    exact ⟨b115, b132, k115, k132, rfl, N153, K153, g_b115, sz_b115, g_b132, sz_b132, ne139, f155, f156, f157, f158, f159, f154⟩
theorem d5_0 : decode prog_31_method_7_code 0 = .ok (.lload_n 0, 1) := by decide +kernel
theorem d5_1 : decode prog_31_method_7_code 1 = .ok (.ldc2_w 38, 3) := by decide +kernel
theorem d5_4 : decode prog_31_method_7_code 4 = .ok (.lmul, 1) := by decide +kernel
theorem d5_5 : decode prog_31_method_7_code 5 = .ok (.lstore_n 3, 1) := by decide +kernel
theorem d5_6 : decode prog_31_method_7_code 6 = .ok (.lload_n 3, 1) := by decide +kernel
theorem d5_7 : decode prog_31_method_7_code 7 = .ok (.lload_n 3, 1) := by decide +kernel
theorem d5_8 : decode prog_31_method_7_code 8 = .ok (.bipush 32, 2) := by decide +kernel
theorem d5_10 : decode prog_31_method_7_code 10 = .ok (.lushr, 1) := by decide +kernel
theorem d5_11 : decode prog_31_method_7_code 11 = .ok (.lxor, 1) := by decide +kernel
theorem d5_12 : decode prog_31_method_7_code 12 = .ok (.l2i, 1) := by decide +kernel
theorem d5_13 : decode prog_31_method_7_code 13 = .ok (.iload_n 2, 1) := by decide +kernel
theorem d5_14 : decode prog_31_method_7_code 14 = .ok (.iand, 1) := by decide +kernel
theorem d5_15 : decode prog_31_method_7_code 15 = .ok (.ireturn, 1) := by decide +kernel
theorem ef5 (m : MethodId) (x0 : Int64) (x1 : Int32) : entryFrame m #[(.long x0), (.int x1)] 5 = mkF m 0 #[.val (.long x0), .second, .val (.int x1), .unset, .unset] [] := by first | (simp [entryFrame, mkF, argsToLocals, Value.category]; done) | rfl
abbrev rr5 : Room := { frames := 0, cells := 0, slots := 0, locals := 0 }
def Q5 (Z : State) (q0 : Int64) (p1 : Int32) (h0 : Heap) (n0 : Nat) (v : Option Value) (h : Heap) (L : List Loc) : Prop := v = some (.int ((((q0 * (-7046029254386353131 : Int64)) ^^^ (((q0 * (-7046029254386353131 : Int64)).toUInt64 >>> ((32 : Int32) &&& 0x3f).toInt64.toUInt64).toInt64)).toInt32) &&& p1)) ∧ Fr n0 L ∧ h = h0
set_option maxRecDepth 65536 in
set_option maxHeartbeats 40000000 in
theorem rm5 (l : Launch) (Z : State) (aw : Array Value) (hw : ∀ d ∈ tables_1, d.before aw Z = true) (ws : List Jvm.Cond) (q0 : Int64) (p1 : Int32) (h0 : Heap) (n0 : Nat) (Z0 : n0 ≤ h0.size)  :
    MetFree l (⟨"com/example/pathfield/pathfield/query/LongIntMap", "slot", "(JI)I"⟩ : MethodName) (head1 (Jvm.Cond.code (⟨"com/example/pathfield/pathfield/query/LongIntMap", "slot", "(JI)I"⟩ : MethodName) prog_31_method_7_code 5 (some .int) :: ws) rr5) (fun a U => a = #[(.long q0), (.int p1)] ∧ Z.Warmed39 U.vm ∧ U.heap = h0) (fun _ _ _ _ _ => True) (fun _ U o U' => ∃ v L, o = .returned v ∧ Q5 Z q0 p1 h0 n0 v U'.heap L ∧ FrameEnd U o U' L rr5.cells rr5.slots) := by
  refine MetFree.of_bodySF (plainFor_of_name pn_2) hisR ?_
  intro p e s m args below meth c s₁ Bd hml0 hP hK
  obtain ⟨rfl, hZ, hh⟩ := hP
  have hx := Bd.exec
  have hby := Bd.bytes
  have hml : c.maxLocals = 5 := hml0
  have hown : s.vm.findClass "com/example/pathfield/pathfield/query/LongIntMap" = some m.cls := findClass_of_methodNamed Bd.named
  have hnm := (name_of_methodNamed Bd.named Bd.method).1
  have X0 : Stand p l e rr5 s m #[(.long q0), (.int p1)] below meth c s₁ [] 0 0 := Stand.of_body Bd
  have e0 : s₁.heap = h0 := by rw [← hh, Bd.state]; rfl
  have N0 := Fr.nil n0
  have pre0 : ∀ t, Steps p.tables e below (s₁.setTop (mkF m 0 #[.val (.long q0), .second, .val (.int p1), .unset, .unset] [])) t → Steps p.tables e below (s₁.setTop (entryFrame m #[(.long q0), (.int p1)] 5)) t := fun t k => castTop (ef5 m q0 p1) k
  obtain ⟨fs, hr, hrun, hended, hW, hsame⟩ := X0.leave (v := some (.int ((((q0 * (-7046029254386353131 : Int64)) ^^^ (((q0 * (-7046029254386353131 : Int64)).toUInt64 >>> ((32 : Int32) &&& 0x3f).toInt64.toUInt64).toInt64)).toInt32) &&& p1))) (fun h => by rw [Bd.returns] at h; cases h) (BodyLoose.notSynchronized Bd)
  refine ⟨_, _, pre0 _ ?_, hrun, hended, _, _, rfl, ?_, ⟨_, rfl⟩, hW, hsame.mono (by decide) (by decide)⟩
  · skip
    show Steps p.tables e below (s₁.setTop (mkF m 0 #[.val (.long q0), .second, .val (.int p1), .unset, .unset] [])) _
    refine XS.lloadN X0.here hx rfl (hb hby d5_0) rfl ?_
    show Steps p.tables e below (s₁.setTop (mkF m 1 #[.val (.long q0), .second, .val (.int p1), .unset, .unset] [(.long q0)])) _
    refine X0.ldc2Long hx hown (mvT hZ (hw _ (List.mem_of_getElem? (i := 30) rfl))) (g := (mkF m 1 #[.val (.long q0), .second, .val (.int p1), .unset, .unset] [(.long q0)])) rfl (hb hby d5_1) _ ?_
    show Steps p.tables e below (s₁.setTop (mkF m 4 #[.val (.long q0), .second, .val (.int p1), .unset, .unset] [(.long (-7046029254386353131 : Int64)), (.long q0)])) _
    refine XS.lmul X0.here hx rfl (hb hby d5_4) rfl ?_
    show Steps p.tables e below (s₁.setTop (mkF m 5 #[.val (.long q0), .second, .val (.int p1), .unset, .unset] [(.long (q0 * (-7046029254386353131 : Int64)))])) _
    refine XS.lstoreN X0.here hx rfl (hb hby d5_5) rfl (l' := #[.val (.long q0), .second, .val (.int p1), .val (.long (q0 * (-7046029254386353131 : Int64))), .second]) rfl ?_
    show Steps p.tables e below (s₁.setTop (mkF m 6 #[.val (.long q0), .second, .val (.int p1), .val (.long (q0 * (-7046029254386353131 : Int64))), .second] [])) _
    refine XS.lloadN X0.here hx rfl (hb hby d5_6) rfl ?_
    show Steps p.tables e below (s₁.setTop (mkF m 7 #[.val (.long q0), .second, .val (.int p1), .val (.long (q0 * (-7046029254386353131 : Int64))), .second] [(.long (q0 * (-7046029254386353131 : Int64)))])) _
    refine XS.lloadN X0.here hx rfl (hb hby d5_7) rfl ?_
    show Steps p.tables e below (s₁.setTop (mkF m 8 #[.val (.long q0), .second, .val (.int p1), .val (.long (q0 * (-7046029254386353131 : Int64))), .second] [(.long (q0 * (-7046029254386353131 : Int64))), (.long (q0 * (-7046029254386353131 : Int64)))])) _
    refine XS.bipush X0.here hx rfl (hb hby d5_8) ?_
    show Steps p.tables e below (s₁.setTop (mkF m 10 #[.val (.long q0), .second, .val (.int p1), .val (.long (q0 * (-7046029254386353131 : Int64))), .second] [(.int (32 : Int32)), (.long (q0 * (-7046029254386353131 : Int64))), (.long (q0 * (-7046029254386353131 : Int64)))])) _
    refine XS.lushr X0.here hx rfl (hb hby d5_10) rfl ?_
    show Steps p.tables e below (s₁.setTop (mkF m 11 #[.val (.long q0), .second, .val (.int p1), .val (.long (q0 * (-7046029254386353131 : Int64))), .second] [(.long (((q0 * (-7046029254386353131 : Int64)).toUInt64 >>> ((32 : Int32) &&& 0x3f).toInt64.toUInt64).toInt64)), (.long (q0 * (-7046029254386353131 : Int64)))])) _
    refine XS.lxor X0.here hx rfl (hb hby d5_11) rfl ?_
    show Steps p.tables e below (s₁.setTop (mkF m 12 #[.val (.long q0), .second, .val (.int p1), .val (.long (q0 * (-7046029254386353131 : Int64))), .second] [(.long ((q0 * (-7046029254386353131 : Int64)) ^^^ (((q0 * (-7046029254386353131 : Int64)).toUInt64 >>> ((32 : Int32) &&& 0x3f).toInt64.toUInt64).toInt64)))])) _
    refine XS.l2i X0.here hx rfl (hb hby d5_12) rfl ?_
    show Steps p.tables e below (s₁.setTop (mkF m 13 #[.val (.long q0), .second, .val (.int p1), .val (.long (q0 * (-7046029254386353131 : Int64))), .second] [(.int (((q0 * (-7046029254386353131 : Int64)) ^^^ (((q0 * (-7046029254386353131 : Int64)).toUInt64 >>> ((32 : Int32) &&& 0x3f).toInt64.toUInt64).toInt64)).toInt32))])) _
    refine XS.iloadN X0.here hx rfl (hb hby d5_13) rfl ?_
    show Steps p.tables e below (s₁.setTop (mkF m 14 #[.val (.long q0), .second, .val (.int p1), .val (.long (q0 * (-7046029254386353131 : Int64))), .second] [(.int p1), (.int (((q0 * (-7046029254386353131 : Int64)) ^^^ (((q0 * (-7046029254386353131 : Int64)).toUInt64 >>> ((32 : Int32) &&& 0x3f).toInt64.toUInt64).toInt64)).toInt32))])) _
    refine XS.iand X0.here hx rfl (hb hby d5_14) rfl ?_
    show Steps p.tables e below (s₁.setTop (mkF m 15 #[.val (.long q0), .second, .val (.int p1), .val (.long (q0 * (-7046029254386353131 : Int64))), .second] [(.int ((((q0 * (-7046029254386353131 : Int64)) ^^^ (((q0 * (-7046029254386353131 : Int64)).toUInt64 >>> ((32 : Int32) &&& 0x3f).toInt64.toUInt64).toInt64)).toInt32) &&& p1))])) _
    exact retOut X0 hx Bd.returns rfl (Or.inl ⟨rfl, Or.inl rfl, _, rfl⟩) (hb hby d5_15) hr
  · show Q5 Z q0 p1 h0 n0 _ s₁.heap _
    rw [e0]
    exact ⟨rfl, N0, rfl⟩
def own_slot (q0 : Int64) (p1 : Int32) : Int32 := ((((q0 * (-7046029254386353131 : Int64)) ^^^ (((q0 * (-7046029254386353131 : Int64)).toUInt64 >>> ((32 : Int32) &&& 0x3f).toInt64.toUInt64).toInt64)).toInt32) &&& p1)
theorem d4_0 : decode prog_31_method_4_code 0 = .ok (.iconst 2, 1) := by decide +kernel
theorem d4_1 : decode prog_31_method_4_code 1 = .ok (.aload_n 0, 1) := by decide +kernel
theorem d4_2 : decode prog_31_method_4_code 2 = .ok (.getfield 23, 3) := by decide +kernel
theorem d4_5 : decode prog_31_method_4_code 5 = .ok (.iconst 1, 1) := by decide +kernel
theorem d4_6 : decode prog_31_method_4_code 6 = .ok (.iadd, 1) := by decide +kernel
theorem d4_7 : decode prog_31_method_4_code 7 = .ok (.imul, 1) := by decide +kernel
theorem d4_8 : decode prog_31_method_4_code 8 = .ok (.aload_n 0, 1) := by decide +kernel
theorem d4_9 : decode prog_31_method_4_code 9 = .ok (.getfield 7, 3) := by decide +kernel
theorem d4_12 : decode prog_31_method_4_code 12 = .ok (.arraylength, 1) := by decide +kernel
theorem d4_13 : decode prog_31_method_4_code 13 = .ok (.if_icmp .le 7, 3) := by decide +kernel
theorem d4_20 : decode prog_31_method_4_code 20 = .ok (.aload_n 0, 1) := by decide +kernel
theorem d4_21 : decode prog_31_method_4_code 21 = .ok (.getfield 7, 3) := by decide +kernel
theorem d4_24 : decode prog_31_method_4_code 24 = .ok (.arraylength, 1) := by decide +kernel
theorem d4_25 : decode prog_31_method_4_code 25 = .ok (.iconst 1, 1) := by decide +kernel
theorem d4_26 : decode prog_31_method_4_code 26 = .ok (.isub, 1) := by decide +kernel
theorem d4_27 : decode prog_31_method_4_code 27 = .ok (.istore 4, 2) := by decide +kernel
theorem d4_29 : decode prog_31_method_4_code 29 = .ok (.lload_n 1, 1) := by decide +kernel
theorem d4_30 : decode prog_31_method_4_code 30 = .ok (.iload 4, 2) := by decide +kernel
theorem pd_3 : parseMethodDescriptor "(JI)I" = some ⟨[.long, .int], some .int⟩ := by decide +kernel
theorem d4_32 : decode prog_31_method_4_code 32 = .ok (.invokestatic 27, 3) := by decide +kernel
theorem d4_35 : decode prog_31_method_4_code 35 = .ok (.istore 5, 2) := by decide +kernel
theorem d4_37 : decode prog_31_method_4_code 37 = .ok (.aload_n 0, 1) := by decide +kernel
theorem d4_38 : decode prog_31_method_4_code 38 = .ok (.getfield 13, 3) := by decide +kernel
theorem d4_41 : decode prog_31_method_4_code 41 = .ok (.iload 5, 2) := by decide +kernel
theorem d4_43 : decode prog_31_method_4_code 43 = .ok (.iaload, 1) := by decide +kernel
theorem d4_44 : decode prog_31_method_4_code 44 = .ok (.iconst (-1), 1) := by decide +kernel
theorem d4_45 : decode prog_31_method_4_code 45 = .ok (.if_icmp .ne 30, 3) := by decide +kernel
theorem d4_48 : decode prog_31_method_4_code 48 = .ok (.aload_n 0, 1) := by decide +kernel
theorem d4_49 : decode prog_31_method_4_code 49 = .ok (.getfield 7, 3) := by decide +kernel
theorem d4_52 : decode prog_31_method_4_code 52 = .ok (.iload 5, 2) := by decide +kernel
theorem d4_54 : decode prog_31_method_4_code 54 = .ok (.lload_n 1, 1) := by decide +kernel
theorem d4_55 : decode prog_31_method_4_code 55 = .ok (.lastore, 1) := by decide +kernel
theorem d4_56 : decode prog_31_method_4_code 56 = .ok (.aload_n 0, 1) := by decide +kernel
theorem d4_57 : decode prog_31_method_4_code 57 = .ok (.getfield 13, 3) := by decide +kernel
theorem d4_60 : decode prog_31_method_4_code 60 = .ok (.iload 5, 2) := by decide +kernel
theorem d4_62 : decode prog_31_method_4_code 62 = .ok (.iload_n 3, 1) := by decide +kernel
theorem d4_63 : decode prog_31_method_4_code 63 = .ok (.iastore, 1) := by decide +kernel
theorem d4_64 : decode prog_31_method_4_code 64 = .ok (.aload_n 0, 1) := by decide +kernel
theorem d4_65 : decode prog_31_method_4_code 65 = .ok (.dup, 1) := by decide +kernel
theorem d4_66 : decode prog_31_method_4_code 66 = .ok (.getfield 23, 3) := by decide +kernel
theorem d4_69 : decode prog_31_method_4_code 69 = .ok (.iconst 1, 1) := by decide +kernel
theorem d4_70 : decode prog_31_method_4_code 70 = .ok (.iadd, 1) := by decide +kernel
theorem d4_71 : decode prog_31_method_4_code 71 = .ok (.putfield 23, 3) := by decide +kernel
theorem d4_74 : decode prog_31_method_4_code 74 = .ok (.return_, 1) := by decide +kernel
theorem d4_75 : decode prog_31_method_4_code 75 = .ok (.aload_n 0, 1) := by decide +kernel
theorem d4_76 : decode prog_31_method_4_code 76 = .ok (.getfield 7, 3) := by decide +kernel
theorem d4_79 : decode prog_31_method_4_code 79 = .ok (.iload 5, 2) := by decide +kernel
theorem d4_81 : decode prog_31_method_4_code 81 = .ok (.laload, 1) := by decide +kernel
theorem d4_82 : decode prog_31_method_4_code 82 = .ok (.lload_n 1, 1) := by decide +kernel
theorem d4_83 : decode prog_31_method_4_code 83 = .ok (.lcmp, 1) := by decide +kernel
theorem d4_84 : decode prog_31_method_4_code 84 = .ok (.ifCond .ne 12, 3) := by decide +kernel
theorem d4_87 : decode prog_31_method_4_code 87 = .ok (.aload_n 0, 1) := by decide +kernel
theorem d4_88 : decode prog_31_method_4_code 88 = .ok (.getfield 13, 3) := by decide +kernel
theorem d4_91 : decode prog_31_method_4_code 91 = .ok (.iload 5, 2) := by decide +kernel
theorem d4_93 : decode prog_31_method_4_code 93 = .ok (.iload_n 3, 1) := by decide +kernel
theorem d4_94 : decode prog_31_method_4_code 94 = .ok (.iastore, 1) := by decide +kernel
theorem d4_95 : decode prog_31_method_4_code 95 = .ok (.return_, 1) := by decide +kernel
theorem d4_96 : decode prog_31_method_4_code 96 = .ok (.iload 5, 2) := by decide +kernel
theorem d4_98 : decode prog_31_method_4_code 98 = .ok (.iconst 1, 1) := by decide +kernel
theorem d4_99 : decode prog_31_method_4_code 99 = .ok (.iadd, 1) := by decide +kernel
theorem d4_100 : decode prog_31_method_4_code 100 = .ok (.iload 4, 2) := by decide +kernel
theorem d4_102 : decode prog_31_method_4_code 102 = .ok (.iand, 1) := by decide +kernel
theorem d4_103 : decode prog_31_method_4_code 103 = .ok (.istore 5, 2) := by decide +kernel
theorem d4_105 : decode prog_31_method_4_code 105 = .ok (.goto (-68), 3) := by decide +kernel
def j4_0 (q1 : Int64) (sz : Int32) (ks : List Int64) (vs : List Int32) : Int32 := (if (own_gi vs (own_slot q1 (15 : Int32))) = (-1 : Int32) then (sz + (1 : Int32)) else (if (own_gj ks (own_slot q1 (15 : Int32))) = q1 then sz else (if (own_gi vs (((own_slot q1 (15 : Int32)) + (1 : Int32)) &&& (15 : Int32))) = (-1 : Int32) then (sz + (1 : Int32)) else (if (own_gj ks (((own_slot q1 (15 : Int32)) + (1 : Int32)) &&& (15 : Int32))) = q1 then sz else (sz + (1 : Int32))))))
def j4_1 (q1 : Int64) (ks : List Int64) (vs : List Int32) : List Int64 := (if (own_gi vs (own_slot q1 (15 : Int32))) = (-1 : Int32) then (own_sj ks (own_slot q1 (15 : Int32)) q1) else (if (own_gj ks (own_slot q1 (15 : Int32))) = q1 then ks else (if (own_gi vs (((own_slot q1 (15 : Int32)) + (1 : Int32)) &&& (15 : Int32))) = (-1 : Int32) then (own_sj ks (((own_slot q1 (15 : Int32)) + (1 : Int32)) &&& (15 : Int32)) q1) else (if (own_gj ks (((own_slot q1 (15 : Int32)) + (1 : Int32)) &&& (15 : Int32))) = q1 then ks else (own_sj ks (((((own_slot q1 (15 : Int32)) + (1 : Int32)) &&& (15 : Int32)) + (1 : Int32)) &&& (15 : Int32)) q1)))))
def j4_2 (q1 : Int64) (p2 : Int32) (ks : List Int64) (vs : List Int32) : List Int32 := (if (own_gi vs (own_slot q1 (15 : Int32))) = (-1 : Int32) then (own_si vs (own_slot q1 (15 : Int32)) p2) else (if (own_gj ks (own_slot q1 (15 : Int32))) = q1 then (own_si vs (own_slot q1 (15 : Int32)) p2) else (if (own_gi vs (((own_slot q1 (15 : Int32)) + (1 : Int32)) &&& (15 : Int32))) = (-1 : Int32) then (own_si vs (((own_slot q1 (15 : Int32)) + (1 : Int32)) &&& (15 : Int32)) p2) else (if (own_gj ks (((own_slot q1 (15 : Int32)) + (1 : Int32)) &&& (15 : Int32))) = q1 then (own_si vs (((own_slot q1 (15 : Int32)) + (1 : Int32)) &&& (15 : Int32)) p2) else (own_si vs (((((own_slot q1 (15 : Int32)) + (1 : Int32)) &&& (15 : Int32)) + (1 : Int32)) &&& (15 : Int32)) p2)))))
theorem ef4 (m : MethodId) (x0 : Addr) (x1 : Int64) (x2 : Int32) : entryFrame m #[(.ref x0), (.long x1), (.int x2)] 6 = mkF m 0 #[.val (.ref x0), .val (.long x1), .second, .val (.int x2), .unset, .unset] [] := by first | (simp [entryFrame, mkF, argsToLocals, Value.category]; done) | rfl
abbrev rr4 : Room := { frames := 1, cells := 0, slots := 0, locals := 16 }
def Q4 (Z : State) (a0 : Addr) (q1 : Int64) (p2 : Int32) (bk : Addr) (bv : Addr) (sz : Int32) (ks : List Int64) (vs : List Int32) (k_bk : ClassId) (k_bv : ClassId) (h0 : Heap) (n0 : Nat) (v : Option Value) (h : Heap) (L : List Loc) : Prop := v = none ∧ Fr n0 L ∧ Keep h0 h [a0, bk, bv] ∧ Exa Z h a0 "com/example/pathfield/pathfield/query/LongIntMap" ∧ Fld Z h a0 "com/example/pathfield/pathfield/query/LongIntMap" "keys" "[J" (.ref bk) ∧ Fld Z h a0 "com/example/pathfield/pathfield/query/LongIntMap" "values" "[I" (.ref bv) ∧ Fld Z h a0 "com/example/pathfield/pathfield/query/LongIntMap" "size" "I" (.int (j4_0 q1 sz ks vs)) ∧ Arv Z h bk k_bk .long (16 : Int32) ((j4_1 q1 ks vs).map Value.long) (.long (0 : Int64)) ∧ Arv Z h bv k_bv .int (16 : Int32) ((j4_2 q1 p2 ks vs).map Value.int) (.int (0 : Int32))
set_option maxRecDepth 65536 in
set_option maxHeartbeats 40000000 in
theorem rm4 (l : Launch) (Z : State) (aw : Array Value) (hw : ∀ d ∈ tables_1, d.before aw Z = true) (ws : List Jvm.Cond) (a0 : Addr) (q1 : Int64) (p2 : Int32) (bk : Addr) (bv : Addr) (sz : Int32) (ks : List Int64) (vs : List Int32) (k_bk : ClassId) (k_bv : ClassId) (h0 : Heap) (n0 : Nat) (Z0 : n0 ≤ h0.size) (E_a0 : Exa Z h0 a0 "com/example/pathfield/pathfield/query/LongIntMap") (F_keys_a0 : Fld Z h0 a0 "com/example/pathfield/pathfield/query/LongIntMap" "keys" "[J" (.ref bk)) (F_values_a0 : Fld Z h0 a0 "com/example/pathfield/pathfield/query/LongIntMap" "values" "[I" (.ref bv)) (F_size_a0 : Fld Z h0 a0 "com/example/pathfield/pathfield/query/LongIntMap" "size" "I" (.int sz)) (V_bk : Arv Z h0 bk k_bk .long (16 : Int32) (ks.map Value.long) (.long (0 : Int64))) (V_bv : Arv Z h0 bv k_bv .int (16 : Int32) (vs.map Value.int) (.int (0 : Int32))) (g_a0 : n0 ≤ a0) (g_bk : n0 ≤ bk) (g_bv : n0 ≤ bv) (ne_a0_bk : a0 ≠ bk) (ne_a0_bv : a0 ≠ bv) (ne_bk_bv : bk ≠ bv) (hlk : ks.length = 16) (hlv : vs.length = 16) (hsz : ¬ (16 : Int32) < ((2 : Int32) * (sz + (1 : Int32)))) (hfree : ¬ (own_gi vs (own_slot q1 (15 : Int32))) = (-1 : Int32) → ¬ (own_gj ks (own_slot q1 (15 : Int32))) = q1 → ¬ (own_gi vs (((own_slot q1 (15 : Int32)) + (1 : Int32)) &&& (15 : Int32))) = (-1 : Int32) → ¬ (own_gj ks (((own_slot q1 (15 : Int32)) + (1 : Int32)) &&& (15 : Int32))) = q1 → (own_gi vs (((((own_slot q1 (15 : Int32)) + (1 : Int32)) &&& (15 : Int32)) + (1 : Int32)) &&& (15 : Int32))) = (-1 : Int32)) :
    MetFree l (⟨"com/example/pathfield/pathfield/query/LongIntMap", "put", "(JI)V"⟩ : MethodName) (head1 (Jvm.Cond.code (⟨"com/example/pathfield/pathfield/query/LongIntMap", "put", "(JI)V"⟩ : MethodName) prog_31_method_4_code 6 none :: ws) rr4) (fun a U => a = #[(.ref a0), (.long q1), (.int p2)] ∧ Z.Warmed39 U.vm ∧ U.heap = h0) (fun _ _ _ _ _ => True) (fun _ U o U' => ∃ v L, o = .returned v ∧ Q4 Z a0 q1 p2 bk bv sz ks vs k_bk k_bv h0 n0 v U'.heap L ∧ FrameEnd U o U' L rr4.cells rr4.slots) := by
  refine MetFree.of_bodySF (plainFor_of_name pn_2) hisR ?_
  intro p e s m args below meth c s₁ Bd hml0 hP hK
  obtain ⟨rfl, hZ, hh⟩ := hP
  have hx := Bd.exec
  have hby := Bd.bytes
  have hml : c.maxLocals = 6 := hml0
  have hown : s.vm.findClass "com/example/pathfield/pathfield/query/LongIntMap" = some m.cls := findClass_of_methodNamed Bd.named
  have hnm := (name_of_methodNamed Bd.named Bd.method).1
  have X0 : Stand p l e rr4 s m #[(.ref a0), (.long q1), (.int p2)] below meth c s₁ [] 0 0 := Stand.of_body Bd
  have e0 : s₁.heap = h0 := by rw [← hh, Bd.state]; rfl
  have N0 := Fr.nil n0
  have K0 := Keep.refl h0 [a0, bk, bv]
  have pre0 : ∀ t, Steps p.tables e below (s₁.setTop (mkF m 0 #[.val (.ref a0), .val (.long q1), .second, .val (.int p2), .unset, .unset] [])) t → Steps p.tables e below (s₁.setTop (entryFrame m #[(.ref a0), (.long q1), (.int p2)] 6)) t := fun t k => castTop (ef4 m a0 q1 p2) k
  obtain ⟨T161, X161, e161, st161⟩ := getF X0 hx hZ hown (host := "") (Or.inl (hw _ (List.mem_of_getElem? (i := 25) rfl))) Via.refl e0 F_size_a0 (g := (mkF m 2 #[.val (.ref a0), .val (.long q1), .second, .val (.int p2), .unset, .unset] [(.ref a0), (.int (2 : Int32))])) rfl rfl (hb hby d4_2)
  obtain ⟨T162, X162, e162, st162⟩ := getF X161 hx hZ hown (host := "") (Or.inl (hw _ (List.mem_of_getElem? (i := 11) rfl))) Via.refl e161 F_keys_a0 (g := (mkF m 9 #[.val (.ref a0), .val (.long q1), .second, .val (.int p2), .unset, .unset] [(.ref a0), (.int ((2 : Int32) * (sz + (1 : Int32))))])) rfl rfl (hb hby d4_9)
  obtain ⟨cl163, Ar163, q163, S163, M163, H163, G163⟩ := id V_bk
  obtain ⟨T164, X164, e164, st164⟩ := getF X162 hx hZ hown (host := "") (Or.inl (hw _ (List.mem_of_getElem? (i := 11) rfl))) Via.refl e162 F_keys_a0 (g := (mkF m 21 #[.val (.ref a0), .val (.long q1), .second, .val (.int p2), .unset, .unset] [(.ref a0)])) rfl rfl (hb hby d4_21)
  obtain ⟨cl165, Ar165, q165, S165, M165, H165, G165⟩ := id V_bk
  obtain ⟨_, _, ⟨T166, L166, k166, n166⟩, -, X166, ⟨Lc166, hQ166, l166, y166, z166⟩, st166⟩ := Jvm.LawKit.callS X164 hx (y := (⟨"com/example/pathfield/pathfield/query/LongIntMap", "slot", "(JI)I"⟩ : MethodName)) hown (mvT hZ (hw _ (List.mem_of_getElem? (i := 27) rfl))) (mvT hZ (hw _ (List.mem_of_getElem? (i := 28) rfl))) (mvT hZ (hw _ (List.mem_of_getElem? (i := 4) rfl))) (mvT hZ (hw _ (List.mem_of_getElem? (i := 29) rfl))) (by decide) (backOf (W := 0) (rm5 l Z aw hw [] q1 ((15 : Int32)) h0 n0 Z0 ) hZ (hw _ (List.mem_of_getElem? (i := 29) rfl)) (hw _ (List.mem_of_getElem? (i := 4) rfl)) (by decide) (by decide)) (g := (mkF m 32 #[.val (.ref a0), .val (.long q1), .second, .val (.int p2), .val (.int (15 : Int32)), .unset] [(.int (15 : Int32)), (.long q1)])) rfl (by rw [hml]; rfl) (argsL := [(.long q1), (.int (15 : Int32))]) (rest := []) (lenOf pd_3 rfl) rfl (by show 2 * 0 + _ ≤ _; exact Nat.le_of_eq rfl) (hb hby d4_32) (fun _ _ => ⟨rfl, e164, (by decide : 0 + 0 ≤ _), (by decide : 0 + 0 ≤ _)⟩)
  dsimp only [Pt.U, Pt.locs, Pt.cells, Pt.slots] at X166 l166 y166 z166 st166 hQ166
  replace l166 := l166.symm
  subst l166 y166 z166
  obtain ⟨rfl, N166q, e166⟩ := hQ166
  have N166 := Fr.app N0 N166q
  obtain ⟨T167, X167, e167, st167⟩ := getF X166 hx hZ hown (host := "") (Or.inl (hw _ (List.mem_of_getElem? (i := 14) rfl))) Via.refl e166 F_values_a0 (g := (mkF m 38 #[.val (.ref a0), .val (.long q1), .second, .val (.int p2), .val (.int (15 : Int32)), .val (.int (own_slot q1 (15 : Int32)))] [(.ref a0)])) rfl rfl (hb hby d4_38)
  obtain ⟨cl168, Ar168, q168, S168, M168, H168, G168⟩ := id V_bv
  have hin169 : ¬ ((own_slot q1 (15 : Int32)) < 0 ∨ cl168.slots.size ≤ ((own_slot q1 (15 : Int32))).toNatClampNeg) := inb_of S168 (own_a15 _)
  have hat170 : cl168.slots[((own_slot q1 (15 : Int32))).toNatClampNeg]? = some (.int (own_gi vs (own_slot q1 (15 : Int32)))) := H168.at hin169 (own_gmi _ _)
  have pre172 := fun (t : State) (k : Steps p.tables e below (T167.setTop (mkF m 45 #[.val (.ref a0), .val (.long q1), .second, .val (.int p2), .val (.int (15 : Int32)), .val (.int (own_slot q1 (15 : Int32)))] [(.int (-1 : Int32)), (.int (own_gi vs (own_slot q1 (15 : Int32))))])) t) => pre0 t (by
    show Steps p.tables e below (s₁.setTop (mkF m 0 #[.val (.ref a0), .val (.long q1), .second, .val (.int p2), .unset, .unset] [])) _
    refine XS.iconst X0.here hx rfl (hb hby d4_0) ?_
    show Steps p.tables e below (s₁.setTop (mkF m 1 #[.val (.ref a0), .val (.long q1), .second, .val (.int p2), .unset, .unset] [(.int (2 : Int32))])) _
    refine XS.aloadN X0.here hx rfl (hb hby d4_1) rfl rfl ?_
    show Steps p.tables e below (s₁.setTop (mkF m 2 #[.val (.ref a0), .val (.long q1), .second, .val (.int p2), .unset, .unset] [(.ref a0), (.int (2 : Int32))])) _
    refine st161 _ ?_
    show Steps p.tables e below (T161.setTop (mkF m 5 #[.val (.ref a0), .val (.long q1), .second, .val (.int p2), .unset, .unset] [(.int sz), (.int (2 : Int32))])) _
    refine XS.iconst X161.here hx rfl (hb hby d4_5) ?_
    show Steps p.tables e below (T161.setTop (mkF m 6 #[.val (.ref a0), .val (.long q1), .second, .val (.int p2), .unset, .unset] [(.int (1 : Int32)), (.int sz), (.int (2 : Int32))])) _
    refine XS.iadd X161.here hx rfl (hb hby d4_6) rfl ?_
    show Steps p.tables e below (T161.setTop (mkF m 7 #[.val (.ref a0), .val (.long q1), .second, .val (.int p2), .unset, .unset] [(.int (sz + (1 : Int32))), (.int (2 : Int32))])) _
    refine XS.imul X161.here hx rfl (hb hby d4_7) rfl ?_
    show Steps p.tables e below (T161.setTop (mkF m 8 #[.val (.ref a0), .val (.long q1), .second, .val (.int p2), .unset, .unset] [(.int ((2 : Int32) * (sz + (1 : Int32))))])) _
    refine XS.aloadN X161.here hx rfl (hb hby d4_8) rfl rfl ?_
    show Steps p.tables e below (T161.setTop (mkF m 9 #[.val (.ref a0), .val (.long q1), .second, .val (.int p2), .unset, .unset] [(.ref a0), (.int ((2 : Int32) * (sz + (1 : Int32))))])) _
    refine st162 _ ?_
    show Steps p.tables e below (T162.setTop (mkF m 12 #[.val (.ref a0), .val (.long q1), .second, .val (.int p2), .unset, .unset] [(.ref bk), (.int ((2 : Int32) * (sz + (1 : Int32))))])) _
    refine X162.arraylength hx (by rw [e162]; exact Ar163.1) (State.isArrayOf_alike hZ.alike Ar163.2.1) (g := (mkF m 12 #[.val (.ref a0), .val (.long q1), .second, .val (.int p2), .unset, .unset] [(.ref bk), (.int ((2 : Int32) * (sz + (1 : Int32))))])) rfl rfl (hb hby d4_12) _ ?_
    rw [len_of S163 M163]
    show Steps p.tables e below (T162.setTop (mkF m 13 #[.val (.ref a0), .val (.long q1), .second, .val (.int p2), .unset, .unset] [(.int (16 : Int32)), (.int ((2 : Int32) * (sz + (1 : Int32))))])) _
    refine XS.icmpYes X162.here hx rfl (pc0 := 13) (pc' := 20) rfl (hb hby d4_13) rfl (flt hsz).2.2.2 (by decide) (by decide) ?_
    show Steps p.tables e below (T162.setTop (mkF m 20 #[.val (.ref a0), .val (.long q1), .second, .val (.int p2), .unset, .unset] [])) _
    refine XS.aloadN X162.here hx rfl (hb hby d4_20) rfl rfl ?_
    show Steps p.tables e below (T162.setTop (mkF m 21 #[.val (.ref a0), .val (.long q1), .second, .val (.int p2), .unset, .unset] [(.ref a0)])) _
    refine st164 _ ?_
    show Steps p.tables e below (T164.setTop (mkF m 24 #[.val (.ref a0), .val (.long q1), .second, .val (.int p2), .unset, .unset] [(.ref bk)])) _
    refine X164.arraylength hx (by rw [e164]; exact Ar165.1) (State.isArrayOf_alike hZ.alike Ar165.2.1) (g := (mkF m 24 #[.val (.ref a0), .val (.long q1), .second, .val (.int p2), .unset, .unset] [(.ref bk)])) rfl rfl (hb hby d4_24) _ ?_
    rw [len_of S165 M165]
    show Steps p.tables e below (T164.setTop (mkF m 25 #[.val (.ref a0), .val (.long q1), .second, .val (.int p2), .unset, .unset] [(.int (16 : Int32))])) _
    refine XS.iconst X164.here hx rfl (hb hby d4_25) ?_
    show Steps p.tables e below (T164.setTop (mkF m 26 #[.val (.ref a0), .val (.long q1), .second, .val (.int p2), .unset, .unset] [(.int (1 : Int32)), (.int (16 : Int32))])) _
    refine XS.isub X164.here hx rfl (hb hby d4_26) rfl ?_
    show Steps p.tables e below (T164.setTop (mkF m 27 #[.val (.ref a0), .val (.long q1), .second, .val (.int p2), .unset, .unset] [(.int (15 : Int32))])) _
    refine XS.istore X164.here hx rfl (hb hby d4_27) rfl (l' := #[.val (.ref a0), .val (.long q1), .second, .val (.int p2), .val (.int (15 : Int32)), .unset]) rfl ?_
    show Steps p.tables e below (T164.setTop (mkF m 29 #[.val (.ref a0), .val (.long q1), .second, .val (.int p2), .val (.int (15 : Int32)), .unset] [])) _
    refine XS.lloadN X164.here hx rfl (hb hby d4_29) rfl ?_
    show Steps p.tables e below (T164.setTop (mkF m 30 #[.val (.ref a0), .val (.long q1), .second, .val (.int p2), .val (.int (15 : Int32)), .unset] [(.long q1)])) _
    refine XS.iload X164.here hx rfl (hb hby d4_30) rfl ?_
    show Steps p.tables e below (T164.setTop (mkF m 32 #[.val (.ref a0), .val (.long q1), .second, .val (.int p2), .val (.int (15 : Int32)), .unset] [(.int (15 : Int32)), (.long q1)])) _
    refine st166 _ ?_
    show Steps p.tables e below (T166.setTop (mkF m 35 #[.val (.ref a0), .val (.long q1), .second, .val (.int p2), .val (.int (15 : Int32)), .unset] [(.int (own_slot q1 (15 : Int32)))])) _
    refine XS.istore X166.here hx rfl (hb hby d4_35) rfl (l' := #[.val (.ref a0), .val (.long q1), .second, .val (.int p2), .val (.int (15 : Int32)), .val (.int (own_slot q1 (15 : Int32)))]) rfl ?_
    show Steps p.tables e below (T166.setTop (mkF m 37 #[.val (.ref a0), .val (.long q1), .second, .val (.int p2), .val (.int (15 : Int32)), .val (.int (own_slot q1 (15 : Int32)))] [])) _
    refine XS.aloadN X166.here hx rfl (hb hby d4_37) rfl rfl ?_
    show Steps p.tables e below (T166.setTop (mkF m 38 #[.val (.ref a0), .val (.long q1), .second, .val (.int p2), .val (.int (15 : Int32)), .val (.int (own_slot q1 (15 : Int32)))] [(.ref a0)])) _
    refine st167 _ ?_
    show Steps p.tables e below (T167.setTop (mkF m 41 #[.val (.ref a0), .val (.long q1), .second, .val (.int p2), .val (.int (15 : Int32)), .val (.int (own_slot q1 (15 : Int32)))] [(.ref bv)])) _
    refine XS.iload X167.here hx rfl (hb hby d4_41) rfl ?_
    show Steps p.tables e below (T167.setTop (mkF m 43 #[.val (.ref a0), .val (.long q1), .second, .val (.int p2), .val (.int (15 : Int32)), .val (.int (own_slot q1 (15 : Int32)))] [(.int (own_slot q1 (15 : Int32))), (.ref bv)])) _
    refine X167.iaload hx (j := (own_slot q1 (15 : Int32))) (v := (.int (own_gi vs (own_slot q1 (15 : Int32))))) (by rw [e167]; exact Ar168.1) (State.isArrayOf_alike hZ.alike Ar168.2.1) Ar168.2.2 hin169 hat170 (g := (mkF m 43 #[.val (.ref a0), .val (.long q1), .second, .val (.int p2), .val (.int (15 : Int32)), .val (.int (own_slot q1 (15 : Int32)))] [(.int (own_slot q1 (15 : Int32))), (.ref bv)])) rfl rfl (hb hby d4_43) _ ?_
    show Steps p.tables e below (T167.setTop (mkF m 44 #[.val (.ref a0), .val (.long q1), .second, .val (.int p2), .val (.int (15 : Int32)), .val (.int (own_slot q1 (15 : Int32)))] [(.int (own_gi vs (own_slot q1 (15 : Int32))))])) _
    refine XS.iconst X167.here hx rfl (hb hby d4_44) ?_
    exact k)
  by_cases hc171 : (own_gi vs (own_slot q1 (15 : Int32))) = (-1 : Int32)
  · skip
    obtain ⟨T173, X173, e173, st173⟩ := getF X167 hx hZ hown (host := "") (Or.inl (hw _ (List.mem_of_getElem? (i := 11) rfl))) Via.refl e167 F_keys_a0 (g := (mkF m 49 #[.val (.ref a0), .val (.long q1), .second, .val (.int p2), .val (.int (15 : Int32)), .val (.int (own_slot q1 (15 : Int32)))] [(.ref a0)])) rfl rfl (hb hby d4_49)
    obtain ⟨cl174, Ar174, q174, S174, M174, H174, G174⟩ := id V_bk
    have hin175 : ¬ ((own_slot q1 (15 : Int32)) < 0 ∨ cl174.slots.size ≤ ((own_slot q1 (15 : Int32))).toNatClampNeg) := inb_of S174 (own_a15 _)
    obtain ⟨T176, h176, X176, e176, W176, st176⟩ := stJ X173 hx hZ e173 Ar174 (j := (own_slot q1 (15 : Int32))) hin175 (g := (mkF m 55 #[.val (.ref a0), .val (.long q1), .second, .val (.int p2), .val (.int (15 : Int32)), .val (.int (own_slot q1 (15 : Int32)))] [(.long q1), (.int (own_slot q1 (15 : Int32))), (.ref bk)])) rfl rfl (hb hby d4_55)
    have V176 : Arv Z h176 bk k_bk .long (16 : Int32) ((own_sj ks (own_slot q1 (15 : Int32)) q1).map Value.long) (.long (0 : Int64)) := by unfold own_sj; rw [List.map_set]; exact Arv.set Ar174 q174 S174 M174 H174 G174 rfl W176 _ rfl (by rw [List.length_map, hlk]; exact own_n15 _)
    have f177 := E_a0.wr W176
    have f178 := F_keys_a0.other W176 (Or.inl ne_a0_bk)
    have f179 := F_values_a0.other W176 (Or.inl ne_a0_bk)
    have f180 := F_size_a0.other W176 (Or.inl ne_a0_bk)
    have f182 := V_bv.other W176 (Ne.symm ne_bk_bv)
    have K183 := K0.wr W176 (Or.inl (List.mem_of_getElem? (i := 1) rfl))
    have Z184 := Nat.le_trans Z0 (Keep.of_wr W176).1
    have N185 := Fr.snoc X176 N166 g_bk
    obtain ⟨T186, X186, e186, st186⟩ := getF X176 hx hZ hown (host := "") (Or.inl (hw _ (List.mem_of_getElem? (i := 14) rfl))) Via.refl e176 f179 (g := (mkF m 57 #[.val (.ref a0), .val (.long q1), .second, .val (.int p2), .val (.int (15 : Int32)), .val (.int (own_slot q1 (15 : Int32)))] [(.ref a0)])) rfl rfl (hb hby d4_57)
    obtain ⟨cl187, Ar187, q187, S187, M187, H187, G187⟩ := id f182
    have hin188 : ¬ ((own_slot q1 (15 : Int32)) < 0 ∨ cl187.slots.size ≤ ((own_slot q1 (15 : Int32))).toNatClampNeg) := inb_of S187 (own_a15 _)
    obtain ⟨T189, h189, X189, e189, W189, st189⟩ := stI X186 hx hZ e186 Ar187 (j := (own_slot q1 (15 : Int32))) hin188 (g := (mkF m 63 #[.val (.ref a0), .val (.long q1), .second, .val (.int p2), .val (.int (15 : Int32)), .val (.int (own_slot q1 (15 : Int32)))] [(.int p2), (.int (own_slot q1 (15 : Int32))), (.ref bv)])) rfl rfl (hb hby d4_63)
    have V189 : Arv Z h189 bv k_bv .int (16 : Int32) ((own_si vs (own_slot q1 (15 : Int32)) p2).map Value.int) (.int (0 : Int32)) := by unfold own_si; rw [List.map_set]; exact Arv.set Ar187 q187 S187 M187 H187 G187 rfl W189 _ rfl (by rw [List.length_map, hlv]; exact own_n15 _)
    have f190 := f177.wr W189
    have f191 := f178.other W189 (Or.inl ne_a0_bv)
    have f192 := f179.other W189 (Or.inl ne_a0_bv)
    have f193 := f180.other W189 (Or.inl ne_a0_bv)
    have f194 := V176.other W189 ne_bk_bv
    have K196 := K183.wr W189 (Or.inl (List.mem_of_getElem? (i := 2) rfl))
    have Z197 := Nat.le_trans Z184 (Keep.of_wr W189).1
    have N198 := Fr.snoc X189 N185 g_bv
    obtain ⟨T199, X199, e199, st199⟩ := getF X189 hx hZ hown (host := "") (Or.inl (hw _ (List.mem_of_getElem? (i := 25) rfl))) Via.refl e189 f193 (g := (mkF m 66 #[.val (.ref a0), .val (.long q1), .second, .val (.int p2), .val (.int (15 : Int32)), .val (.int (own_slot q1 (15 : Int32)))] [(.ref a0), (.ref a0)])) rfl rfl (hb hby d4_66)
    obtain ⟨T200, h200, X200, e200, W200, st200⟩ := putF X199 hx hZ hown (host := "") (Or.inl (hw _ (List.mem_of_getElem? (i := 25) rfl))) Via.refl e199 f193 f190 (Or.inl (hw _ (List.mem_of_getElem? (i := 26) rfl))) (hw _ (List.mem_of_getElem? (i := 3) rfl)) (ty := .int) (by decide) rfl rfl (g := (mkF m 71 #[.val (.ref a0), .val (.long q1), .second, .val (.int p2), .val (.int (15 : Int32)), .val (.int (own_slot q1 (15 : Int32)))] [(.int (sz + (1 : Int32))), (.ref a0)])) rfl rfl (hb hby d4_71)
    have f200w : Fld Z h200 a0 "com/example/pathfield/pathfield/query/LongIntMap" "size" "I" (.int (sz + (1 : Int32))) := f193.same W200
    have f201 := f190.wr W200
    have f202 := f191.other W200 (Or.inr (slot_ne (Or.inl (hw _ (List.mem_of_getElem? (i := 12) rfl))) (Or.inl (hw _ (List.mem_of_getElem? (i := 26) rfl))) (by decide) (t := (.array .long)) (t' := .int) (by decide) (by decide)))
    have f203 := f192.other W200 (Or.inr (slot_ne (Or.inl (hw _ (List.mem_of_getElem? (i := 15) rfl))) (Or.inl (hw _ (List.mem_of_getElem? (i := 26) rfl))) (by decide) (t := (.array .int)) (t' := .int) (by decide) (by decide)))
    have f205 := f194.other W200 (Ne.symm ne_a0_bk)
    have f206 := V189.other W200 (Ne.symm ne_a0_bv)
    have K207 := K196.wr W200 (Or.inl (List.mem_of_getElem? (i := 0) rfl))
    have Z208 := Nat.le_trans Z197 (Keep.of_wr W200).1
    have N209 := Fr.snoc X200 N198 g_a0
    obtain ⟨fs, hr, hrun, hended, hW, hsame⟩ := X200.leave (v := none) (fun _ => rfl) (BodyLoose.notSynchronized Bd)
    refine ⟨_, _, pre172 _ ?_, hrun, hended, _, _, rfl, ?_, ⟨_, rfl⟩, hW, hsame.mono (by decide) (by decide)⟩
    · skip
      show Steps p.tables e below (T167.setTop (mkF m 45 #[.val (.ref a0), .val (.long q1), .second, .val (.int p2), .val (.int (15 : Int32)), .val (.int (own_slot q1 (15 : Int32)))] [(.int (-1 : Int32)), (.int (own_gi vs (own_slot q1 (15 : Int32))))])) _
      refine XS.icmpNo X167.here hx rfl (hb hby d4_45) rfl (teq hc171).2 ?_
      show Steps p.tables e below (T167.setTop (mkF m 48 #[.val (.ref a0), .val (.long q1), .second, .val (.int p2), .val (.int (15 : Int32)), .val (.int (own_slot q1 (15 : Int32)))] [])) _
      refine XS.aloadN X167.here hx rfl (hb hby d4_48) rfl rfl ?_
      show Steps p.tables e below (T167.setTop (mkF m 49 #[.val (.ref a0), .val (.long q1), .second, .val (.int p2), .val (.int (15 : Int32)), .val (.int (own_slot q1 (15 : Int32)))] [(.ref a0)])) _
      refine st173 _ ?_
      show Steps p.tables e below (T173.setTop (mkF m 52 #[.val (.ref a0), .val (.long q1), .second, .val (.int p2), .val (.int (15 : Int32)), .val (.int (own_slot q1 (15 : Int32)))] [(.ref bk)])) _
      refine XS.iload X173.here hx rfl (hb hby d4_52) rfl ?_
      show Steps p.tables e below (T173.setTop (mkF m 54 #[.val (.ref a0), .val (.long q1), .second, .val (.int p2), .val (.int (15 : Int32)), .val (.int (own_slot q1 (15 : Int32)))] [(.int (own_slot q1 (15 : Int32))), (.ref bk)])) _
      refine XS.lloadN X173.here hx rfl (hb hby d4_54) rfl ?_
      show Steps p.tables e below (T173.setTop (mkF m 55 #[.val (.ref a0), .val (.long q1), .second, .val (.int p2), .val (.int (15 : Int32)), .val (.int (own_slot q1 (15 : Int32)))] [(.long q1), (.int (own_slot q1 (15 : Int32))), (.ref bk)])) _
      refine st176 _ ?_
      show Steps p.tables e below (T176.setTop (mkF m 56 #[.val (.ref a0), .val (.long q1), .second, .val (.int p2), .val (.int (15 : Int32)), .val (.int (own_slot q1 (15 : Int32)))] [])) _
      refine XS.aloadN X176.here hx rfl (hb hby d4_56) rfl rfl ?_
      show Steps p.tables e below (T176.setTop (mkF m 57 #[.val (.ref a0), .val (.long q1), .second, .val (.int p2), .val (.int (15 : Int32)), .val (.int (own_slot q1 (15 : Int32)))] [(.ref a0)])) _
      refine st186 _ ?_
      show Steps p.tables e below (T186.setTop (mkF m 60 #[.val (.ref a0), .val (.long q1), .second, .val (.int p2), .val (.int (15 : Int32)), .val (.int (own_slot q1 (15 : Int32)))] [(.ref bv)])) _
      refine XS.iload X186.here hx rfl (hb hby d4_60) rfl ?_
      show Steps p.tables e below (T186.setTop (mkF m 62 #[.val (.ref a0), .val (.long q1), .second, .val (.int p2), .val (.int (15 : Int32)), .val (.int (own_slot q1 (15 : Int32)))] [(.int (own_slot q1 (15 : Int32))), (.ref bv)])) _
      refine XS.iloadN X186.here hx rfl (hb hby d4_62) rfl ?_
      show Steps p.tables e below (T186.setTop (mkF m 63 #[.val (.ref a0), .val (.long q1), .second, .val (.int p2), .val (.int (15 : Int32)), .val (.int (own_slot q1 (15 : Int32)))] [(.int p2), (.int (own_slot q1 (15 : Int32))), (.ref bv)])) _
      refine st189 _ ?_
      show Steps p.tables e below (T189.setTop (mkF m 64 #[.val (.ref a0), .val (.long q1), .second, .val (.int p2), .val (.int (15 : Int32)), .val (.int (own_slot q1 (15 : Int32)))] [])) _
      refine XS.aloadN X189.here hx rfl (hb hby d4_64) rfl rfl ?_
      show Steps p.tables e below (T189.setTop (mkF m 65 #[.val (.ref a0), .val (.long q1), .second, .val (.int p2), .val (.int (15 : Int32)), .val (.int (own_slot q1 (15 : Int32)))] [(.ref a0)])) _
      refine XS.dup X189.here hx rfl (hb hby d4_65) rfl rfl ?_
      show Steps p.tables e below (T189.setTop (mkF m 66 #[.val (.ref a0), .val (.long q1), .second, .val (.int p2), .val (.int (15 : Int32)), .val (.int (own_slot q1 (15 : Int32)))] [(.ref a0), (.ref a0)])) _
      refine st199 _ ?_
      show Steps p.tables e below (T199.setTop (mkF m 69 #[.val (.ref a0), .val (.long q1), .second, .val (.int p2), .val (.int (15 : Int32)), .val (.int (own_slot q1 (15 : Int32)))] [(.int sz), (.ref a0)])) _
      refine XS.iconst X199.here hx rfl (hb hby d4_69) ?_
      show Steps p.tables e below (T199.setTop (mkF m 70 #[.val (.ref a0), .val (.long q1), .second, .val (.int p2), .val (.int (15 : Int32)), .val (.int (own_slot q1 (15 : Int32)))] [(.int (1 : Int32)), (.int sz), (.ref a0)])) _
      refine XS.iadd X199.here hx rfl (hb hby d4_70) rfl ?_
      show Steps p.tables e below (T199.setTop (mkF m 71 #[.val (.ref a0), .val (.long q1), .second, .val (.int p2), .val (.int (15 : Int32)), .val (.int (own_slot q1 (15 : Int32)))] [(.int (sz + (1 : Int32))), (.ref a0)])) _
      refine st200 _ ?_
      show Steps p.tables e below (T200.setTop (mkF m 74 #[.val (.ref a0), .val (.long q1), .second, .val (.int p2), .val (.int (15 : Int32)), .val (.int (own_slot q1 (15 : Int32)))] [])) _
      exact X200.returnOut hx Bd.returns (hb hby d4_74) hr
    · show Q4 Z a0 q1 p2 bk bv sz ks vs k_bk k_bv h0 n0 _ T200.heap _
      rw [e200]
      have hp210 : (j4_0 q1 sz ks vs) = (sz + (1 : Int32)) := by unfold j4_0; first | (rw [if_pos hc171]) | (simp only [if_pos hc171])
      have hp211 : (j4_1 q1 ks vs) = (own_sj ks (own_slot q1 (15 : Int32)) q1) := by unfold j4_1; first | (rw [if_pos hc171]) | (simp only [if_pos hc171])
      have hp212 : (j4_2 q1 p2 ks vs) = (own_si vs (own_slot q1 (15 : Int32)) p2) := by unfold j4_2; first | (rw [if_pos hc171]) | (simp only [if_pos hc171])
      exact ⟨rfl, N209, K207, f201, f202, f203, (by rw [hp210]; exact f200w), (by rw [hp211]; exact f205), (by rw [hp212]; exact f206)⟩
  · skip
    obtain ⟨T213, X213, e213, st213⟩ := getF X167 hx hZ hown (host := "") (Or.inl (hw _ (List.mem_of_getElem? (i := 11) rfl))) Via.refl e167 F_keys_a0 (g := (mkF m 76 #[.val (.ref a0), .val (.long q1), .second, .val (.int p2), .val (.int (15 : Int32)), .val (.int (own_slot q1 (15 : Int32)))] [(.ref a0)])) rfl rfl (hb hby d4_76)
    obtain ⟨cl214, Ar214, q214, S214, M214, H214, G214⟩ := id V_bk
    have hin215 : ¬ ((own_slot q1 (15 : Int32)) < 0 ∨ cl214.slots.size ≤ ((own_slot q1 (15 : Int32))).toNatClampNeg) := inb_of S214 (own_a15 _)
    have hat216 : cl214.slots[((own_slot q1 (15 : Int32))).toNatClampNeg]? = some (.long (own_gj ks (own_slot q1 (15 : Int32)))) := H214.at hin215 (own_gmj _ _)
    have pre218 := fun (t : State) (k : Steps p.tables e below (T213.setTop (mkF m 84 #[.val (.ref a0), .val (.long q1), .second, .val (.int p2), .val (.int (15 : Int32)), .val (.int (own_slot q1 (15 : Int32)))] [(.int (lcmpW (own_gj ks (own_slot q1 (15 : Int32))) q1))])) t) => pre172 t (by
      show Steps p.tables e below (T167.setTop (mkF m 45 #[.val (.ref a0), .val (.long q1), .second, .val (.int p2), .val (.int (15 : Int32)), .val (.int (own_slot q1 (15 : Int32)))] [(.int (-1 : Int32)), (.int (own_gi vs (own_slot q1 (15 : Int32))))])) _
      refine XS.icmpYes X167.here hx rfl (pc0 := 45) (pc' := 75) rfl (hb hby d4_45) rfl (feq hc171).2 (by decide) (by decide) ?_
      show Steps p.tables e below (T167.setTop (mkF m 75 #[.val (.ref a0), .val (.long q1), .second, .val (.int p2), .val (.int (15 : Int32)), .val (.int (own_slot q1 (15 : Int32)))] [])) _
      refine XS.aloadN X167.here hx rfl (hb hby d4_75) rfl rfl ?_
      show Steps p.tables e below (T167.setTop (mkF m 76 #[.val (.ref a0), .val (.long q1), .second, .val (.int p2), .val (.int (15 : Int32)), .val (.int (own_slot q1 (15 : Int32)))] [(.ref a0)])) _
      refine st213 _ ?_
      show Steps p.tables e below (T213.setTop (mkF m 79 #[.val (.ref a0), .val (.long q1), .second, .val (.int p2), .val (.int (15 : Int32)), .val (.int (own_slot q1 (15 : Int32)))] [(.ref bk)])) _
      refine XS.iload X213.here hx rfl (hb hby d4_79) rfl ?_
      show Steps p.tables e below (T213.setTop (mkF m 81 #[.val (.ref a0), .val (.long q1), .second, .val (.int p2), .val (.int (15 : Int32)), .val (.int (own_slot q1 (15 : Int32)))] [(.int (own_slot q1 (15 : Int32))), (.ref bk)])) _
      refine X213.laload hx (j := (own_slot q1 (15 : Int32))) (v := (.long (own_gj ks (own_slot q1 (15 : Int32))))) (by rw [e213]; exact Ar214.1) (State.isArrayOf_alike hZ.alike Ar214.2.1) Ar214.2.2 hin215 hat216 (g := (mkF m 81 #[.val (.ref a0), .val (.long q1), .second, .val (.int p2), .val (.int (15 : Int32)), .val (.int (own_slot q1 (15 : Int32)))] [(.int (own_slot q1 (15 : Int32))), (.ref bk)])) rfl rfl (hb hby d4_81) _ ?_
      show Steps p.tables e below (T213.setTop (mkF m 82 #[.val (.ref a0), .val (.long q1), .second, .val (.int p2), .val (.int (15 : Int32)), .val (.int (own_slot q1 (15 : Int32)))] [(.long (own_gj ks (own_slot q1 (15 : Int32))))])) _
      refine XS.lloadN X213.here hx rfl (hb hby d4_82) rfl ?_
      show Steps p.tables e below (T213.setTop (mkF m 83 #[.val (.ref a0), .val (.long q1), .second, .val (.int p2), .val (.int (15 : Int32)), .val (.int (own_slot q1 (15 : Int32)))] [(.long q1), (.long (own_gj ks (own_slot q1 (15 : Int32))))])) _
      refine XS.lcmp X213.here hx rfl (hb hby d4_83) rfl ?_
      exact k)
    by_cases hc217 : (own_gj ks (own_slot q1 (15 : Int32))) = q1
    · skip
      obtain ⟨T219, X219, e219, st219⟩ := getF X213 hx hZ hown (host := "") (Or.inl (hw _ (List.mem_of_getElem? (i := 14) rfl))) Via.refl e213 F_values_a0 (g := (mkF m 88 #[.val (.ref a0), .val (.long q1), .second, .val (.int p2), .val (.int (15 : Int32)), .val (.int (own_slot q1 (15 : Int32)))] [(.ref a0)])) rfl rfl (hb hby d4_88)
      obtain ⟨cl220, Ar220, q220, S220, M220, H220, G220⟩ := id V_bv
      have hin221 : ¬ ((own_slot q1 (15 : Int32)) < 0 ∨ cl220.slots.size ≤ ((own_slot q1 (15 : Int32))).toNatClampNeg) := inb_of S220 (own_a15 _)
      obtain ⟨T222, h222, X222, e222, W222, st222⟩ := stI X219 hx hZ e219 Ar220 (j := (own_slot q1 (15 : Int32))) hin221 (g := (mkF m 94 #[.val (.ref a0), .val (.long q1), .second, .val (.int p2), .val (.int (15 : Int32)), .val (.int (own_slot q1 (15 : Int32)))] [(.int p2), (.int (own_slot q1 (15 : Int32))), (.ref bv)])) rfl rfl (hb hby d4_94)
      have V222 : Arv Z h222 bv k_bv .int (16 : Int32) ((own_si vs (own_slot q1 (15 : Int32)) p2).map Value.int) (.int (0 : Int32)) := by unfold own_si; rw [List.map_set]; exact Arv.set Ar220 q220 S220 M220 H220 G220 rfl W222 _ rfl (by rw [List.length_map, hlv]; exact own_n15 _)
      have f223 := E_a0.wr W222
      have f224 := F_keys_a0.other W222 (Or.inl ne_a0_bv)
      have f225 := F_values_a0.other W222 (Or.inl ne_a0_bv)
      have f226 := F_size_a0.other W222 (Or.inl ne_a0_bv)
      have f227 := V_bk.other W222 ne_bk_bv
      have K229 := K0.wr W222 (Or.inl (List.mem_of_getElem? (i := 2) rfl))
      have Z230 := Nat.le_trans Z0 (Keep.of_wr W222).1
      have N231 := Fr.snoc X222 N166 g_bv
      obtain ⟨fs, hr, hrun, hended, hW, hsame⟩ := X222.leave (v := none) (fun _ => rfl) (BodyLoose.notSynchronized Bd)
      refine ⟨_, _, pre218 _ ?_, hrun, hended, _, _, rfl, ?_, ⟨_, rfl⟩, hW, hsame.mono (by decide) (by decide)⟩
      · skip
        show Steps p.tables e below (T213.setTop (mkF m 84 #[.val (.ref a0), .val (.long q1), .second, .val (.int p2), .val (.int (15 : Int32)), .val (.int (own_slot q1 (15 : Int32)))] [(.int (lcmpW (own_gj ks (own_slot q1 (15 : Int32))) q1))])) _
        refine XS.ifNo X213.here hx rfl (hb hby d4_84) rfl ((if0 _ _).trans (teq ((own_eq (own_gj ks (own_slot q1 (15 : Int32))) q1).mpr hc217)).2) ?_
        show Steps p.tables e below (T213.setTop (mkF m 87 #[.val (.ref a0), .val (.long q1), .second, .val (.int p2), .val (.int (15 : Int32)), .val (.int (own_slot q1 (15 : Int32)))] [])) _
        refine XS.aloadN X213.here hx rfl (hb hby d4_87) rfl rfl ?_
        show Steps p.tables e below (T213.setTop (mkF m 88 #[.val (.ref a0), .val (.long q1), .second, .val (.int p2), .val (.int (15 : Int32)), .val (.int (own_slot q1 (15 : Int32)))] [(.ref a0)])) _
        refine st219 _ ?_
        show Steps p.tables e below (T219.setTop (mkF m 91 #[.val (.ref a0), .val (.long q1), .second, .val (.int p2), .val (.int (15 : Int32)), .val (.int (own_slot q1 (15 : Int32)))] [(.ref bv)])) _
        refine XS.iload X219.here hx rfl (hb hby d4_91) rfl ?_
        show Steps p.tables e below (T219.setTop (mkF m 93 #[.val (.ref a0), .val (.long q1), .second, .val (.int p2), .val (.int (15 : Int32)), .val (.int (own_slot q1 (15 : Int32)))] [(.int (own_slot q1 (15 : Int32))), (.ref bv)])) _
        refine XS.iloadN X219.here hx rfl (hb hby d4_93) rfl ?_
        show Steps p.tables e below (T219.setTop (mkF m 94 #[.val (.ref a0), .val (.long q1), .second, .val (.int p2), .val (.int (15 : Int32)), .val (.int (own_slot q1 (15 : Int32)))] [(.int p2), (.int (own_slot q1 (15 : Int32))), (.ref bv)])) _
        refine st222 _ ?_
        show Steps p.tables e below (T222.setTop (mkF m 95 #[.val (.ref a0), .val (.long q1), .second, .val (.int p2), .val (.int (15 : Int32)), .val (.int (own_slot q1 (15 : Int32)))] [])) _
        exact X222.returnOut hx Bd.returns (hb hby d4_95) hr
      · show Q4 Z a0 q1 p2 bk bv sz ks vs k_bk k_bv h0 n0 _ T222.heap _
        rw [e222]
        have hp232 : (j4_0 q1 sz ks vs) = sz := by unfold j4_0; first | (rw [if_neg hc171, if_pos hc217]) | (simp only [if_neg hc171, if_pos hc217])
        have hp233 : (j4_1 q1 ks vs) = ks := by unfold j4_1; first | (rw [if_neg hc171, if_pos hc217]) | (simp only [if_neg hc171, if_pos hc217])
        have hp234 : (j4_2 q1 p2 ks vs) = (own_si vs (own_slot q1 (15 : Int32)) p2) := by unfold j4_2; first | (rw [if_neg hc171, if_pos hc217]) | (simp only [if_neg hc171, if_pos hc217])
        exact ⟨rfl, N231, K229, f223, f224, f225, (by rw [hp232]; exact f226), (by rw [hp233]; exact f227), (by rw [hp234]; exact V222)⟩
    · skip
      obtain ⟨T235, X235, e235, st235⟩ := getF X213 hx hZ hown (host := "") (Or.inl (hw _ (List.mem_of_getElem? (i := 14) rfl))) Via.refl e213 F_values_a0 (g := (mkF m 38 #[.val (.ref a0), .val (.long q1), .second, .val (.int p2), .val (.int (15 : Int32)), .val (.int (((own_slot q1 (15 : Int32)) + (1 : Int32)) &&& (15 : Int32)))] [(.ref a0)])) rfl rfl (hb hby d4_38)
      obtain ⟨cl236, Ar236, q236, S236, M236, H236, G236⟩ := id V_bv
      have hin237 : ¬ ((((own_slot q1 (15 : Int32)) + (1 : Int32)) &&& (15 : Int32)) < 0 ∨ cl236.slots.size ≤ ((((own_slot q1 (15 : Int32)) + (1 : Int32)) &&& (15 : Int32))).toNatClampNeg) := inb_of S236 (own_a15 _)
      have hat238 : cl236.slots[((((own_slot q1 (15 : Int32)) + (1 : Int32)) &&& (15 : Int32))).toNatClampNeg]? = some (.int (own_gi vs (((own_slot q1 (15 : Int32)) + (1 : Int32)) &&& (15 : Int32)))) := H236.at hin237 (own_gmi _ _)
      have pre240 := fun (t : State) (k : Steps p.tables e below (T235.setTop (mkF m 45 #[.val (.ref a0), .val (.long q1), .second, .val (.int p2), .val (.int (15 : Int32)), .val (.int (((own_slot q1 (15 : Int32)) + (1 : Int32)) &&& (15 : Int32)))] [(.int (-1 : Int32)), (.int (own_gi vs (((own_slot q1 (15 : Int32)) + (1 : Int32)) &&& (15 : Int32))))])) t) => pre218 t (by
        show Steps p.tables e below (T213.setTop (mkF m 84 #[.val (.ref a0), .val (.long q1), .second, .val (.int p2), .val (.int (15 : Int32)), .val (.int (own_slot q1 (15 : Int32)))] [(.int (lcmpW (own_gj ks (own_slot q1 (15 : Int32))) q1))])) _
        refine XS.ifYes X213.here hx rfl (pc0 := 84) (pc' := 96) rfl (hb hby d4_84) rfl ((if0 _ _).trans (feq (mt (own_eq (own_gj ks (own_slot q1 (15 : Int32))) q1).mp hc217)).2) (by decide) (by decide) ?_
        show Steps p.tables e below (T213.setTop (mkF m 96 #[.val (.ref a0), .val (.long q1), .second, .val (.int p2), .val (.int (15 : Int32)), .val (.int (own_slot q1 (15 : Int32)))] [])) _
        refine XS.iload X213.here hx rfl (hb hby d4_96) rfl ?_
        show Steps p.tables e below (T213.setTop (mkF m 98 #[.val (.ref a0), .val (.long q1), .second, .val (.int p2), .val (.int (15 : Int32)), .val (.int (own_slot q1 (15 : Int32)))] [(.int (own_slot q1 (15 : Int32)))])) _
        refine XS.iconst X213.here hx rfl (hb hby d4_98) ?_
        show Steps p.tables e below (T213.setTop (mkF m 99 #[.val (.ref a0), .val (.long q1), .second, .val (.int p2), .val (.int (15 : Int32)), .val (.int (own_slot q1 (15 : Int32)))] [(.int (1 : Int32)), (.int (own_slot q1 (15 : Int32)))])) _
        refine XS.iadd X213.here hx rfl (hb hby d4_99) rfl ?_
        show Steps p.tables e below (T213.setTop (mkF m 100 #[.val (.ref a0), .val (.long q1), .second, .val (.int p2), .val (.int (15 : Int32)), .val (.int (own_slot q1 (15 : Int32)))] [(.int ((own_slot q1 (15 : Int32)) + (1 : Int32)))])) _
        refine XS.iload X213.here hx rfl (hb hby d4_100) rfl ?_
        show Steps p.tables e below (T213.setTop (mkF m 102 #[.val (.ref a0), .val (.long q1), .second, .val (.int p2), .val (.int (15 : Int32)), .val (.int (own_slot q1 (15 : Int32)))] [(.int (15 : Int32)), (.int ((own_slot q1 (15 : Int32)) + (1 : Int32)))])) _
        refine XS.iand X213.here hx rfl (hb hby d4_102) rfl ?_
        show Steps p.tables e below (T213.setTop (mkF m 103 #[.val (.ref a0), .val (.long q1), .second, .val (.int p2), .val (.int (15 : Int32)), .val (.int (own_slot q1 (15 : Int32)))] [(.int (((own_slot q1 (15 : Int32)) + (1 : Int32)) &&& (15 : Int32)))])) _
        refine XS.istore X213.here hx rfl (hb hby d4_103) rfl (l' := #[.val (.ref a0), .val (.long q1), .second, .val (.int p2), .val (.int (15 : Int32)), .val (.int (((own_slot q1 (15 : Int32)) + (1 : Int32)) &&& (15 : Int32)))]) rfl ?_
        show Steps p.tables e below (T213.setTop (mkF m 105 #[.val (.ref a0), .val (.long q1), .second, .val (.int p2), .val (.int (15 : Int32)), .val (.int (((own_slot q1 (15 : Int32)) + (1 : Int32)) &&& (15 : Int32)))] [])) _
        refine XS.goto X213.here hx rfl (pc0 := 105) (pc' := 37) rfl (hb hby d4_105) (by decide) (by decide) ?_
        show Steps p.tables e below (T213.setTop (mkF m 37 #[.val (.ref a0), .val (.long q1), .second, .val (.int p2), .val (.int (15 : Int32)), .val (.int (((own_slot q1 (15 : Int32)) + (1 : Int32)) &&& (15 : Int32)))] [])) _
        refine XS.aloadN X213.here hx rfl (hb hby d4_37) rfl rfl ?_
        show Steps p.tables e below (T213.setTop (mkF m 38 #[.val (.ref a0), .val (.long q1), .second, .val (.int p2), .val (.int (15 : Int32)), .val (.int (((own_slot q1 (15 : Int32)) + (1 : Int32)) &&& (15 : Int32)))] [(.ref a0)])) _
        refine st235 _ ?_
        show Steps p.tables e below (T235.setTop (mkF m 41 #[.val (.ref a0), .val (.long q1), .second, .val (.int p2), .val (.int (15 : Int32)), .val (.int (((own_slot q1 (15 : Int32)) + (1 : Int32)) &&& (15 : Int32)))] [(.ref bv)])) _
        refine XS.iload X235.here hx rfl (hb hby d4_41) rfl ?_
        show Steps p.tables e below (T235.setTop (mkF m 43 #[.val (.ref a0), .val (.long q1), .second, .val (.int p2), .val (.int (15 : Int32)), .val (.int (((own_slot q1 (15 : Int32)) + (1 : Int32)) &&& (15 : Int32)))] [(.int (((own_slot q1 (15 : Int32)) + (1 : Int32)) &&& (15 : Int32))), (.ref bv)])) _
        refine X235.iaload hx (j := (((own_slot q1 (15 : Int32)) + (1 : Int32)) &&& (15 : Int32))) (v := (.int (own_gi vs (((own_slot q1 (15 : Int32)) + (1 : Int32)) &&& (15 : Int32))))) (by rw [e235]; exact Ar236.1) (State.isArrayOf_alike hZ.alike Ar236.2.1) Ar236.2.2 hin237 hat238 (g := (mkF m 43 #[.val (.ref a0), .val (.long q1), .second, .val (.int p2), .val (.int (15 : Int32)), .val (.int (((own_slot q1 (15 : Int32)) + (1 : Int32)) &&& (15 : Int32)))] [(.int (((own_slot q1 (15 : Int32)) + (1 : Int32)) &&& (15 : Int32))), (.ref bv)])) rfl rfl (hb hby d4_43) _ ?_
        show Steps p.tables e below (T235.setTop (mkF m 44 #[.val (.ref a0), .val (.long q1), .second, .val (.int p2), .val (.int (15 : Int32)), .val (.int (((own_slot q1 (15 : Int32)) + (1 : Int32)) &&& (15 : Int32)))] [(.int (own_gi vs (((own_slot q1 (15 : Int32)) + (1 : Int32)) &&& (15 : Int32))))])) _
        refine XS.iconst X235.here hx rfl (hb hby d4_44) ?_
        exact k)
      by_cases hc239 : (own_gi vs (((own_slot q1 (15 : Int32)) + (1 : Int32)) &&& (15 : Int32))) = (-1 : Int32)
      · skip
        obtain ⟨T241, X241, e241, st241⟩ := getF X235 hx hZ hown (host := "") (Or.inl (hw _ (List.mem_of_getElem? (i := 11) rfl))) Via.refl e235 F_keys_a0 (g := (mkF m 49 #[.val (.ref a0), .val (.long q1), .second, .val (.int p2), .val (.int (15 : Int32)), .val (.int (((own_slot q1 (15 : Int32)) + (1 : Int32)) &&& (15 : Int32)))] [(.ref a0)])) rfl rfl (hb hby d4_49)
        obtain ⟨cl242, Ar242, q242, S242, M242, H242, G242⟩ := id V_bk
        have hin243 : ¬ ((((own_slot q1 (15 : Int32)) + (1 : Int32)) &&& (15 : Int32)) < 0 ∨ cl242.slots.size ≤ ((((own_slot q1 (15 : Int32)) + (1 : Int32)) &&& (15 : Int32))).toNatClampNeg) := inb_of S242 (own_a15 _)
        obtain ⟨T244, h244, X244, e244, W244, st244⟩ := stJ X241 hx hZ e241 Ar242 (j := (((own_slot q1 (15 : Int32)) + (1 : Int32)) &&& (15 : Int32))) hin243 (g := (mkF m 55 #[.val (.ref a0), .val (.long q1), .second, .val (.int p2), .val (.int (15 : Int32)), .val (.int (((own_slot q1 (15 : Int32)) + (1 : Int32)) &&& (15 : Int32)))] [(.long q1), (.int (((own_slot q1 (15 : Int32)) + (1 : Int32)) &&& (15 : Int32))), (.ref bk)])) rfl rfl (hb hby d4_55)
        have V244 : Arv Z h244 bk k_bk .long (16 : Int32) ((own_sj ks (((own_slot q1 (15 : Int32)) + (1 : Int32)) &&& (15 : Int32)) q1).map Value.long) (.long (0 : Int64)) := by unfold own_sj; rw [List.map_set]; exact Arv.set Ar242 q242 S242 M242 H242 G242 rfl W244 _ rfl (by rw [List.length_map, hlk]; exact own_n15 _)
        have f245 := E_a0.wr W244
        have f246 := F_keys_a0.other W244 (Or.inl ne_a0_bk)
        have f247 := F_values_a0.other W244 (Or.inl ne_a0_bk)
        have f248 := F_size_a0.other W244 (Or.inl ne_a0_bk)
        have f250 := V_bv.other W244 (Ne.symm ne_bk_bv)
        have K251 := K0.wr W244 (Or.inl (List.mem_of_getElem? (i := 1) rfl))
        have Z252 := Nat.le_trans Z0 (Keep.of_wr W244).1
        have N253 := Fr.snoc X244 N166 g_bk
        obtain ⟨T254, X254, e254, st254⟩ := getF X244 hx hZ hown (host := "") (Or.inl (hw _ (List.mem_of_getElem? (i := 14) rfl))) Via.refl e244 f247 (g := (mkF m 57 #[.val (.ref a0), .val (.long q1), .second, .val (.int p2), .val (.int (15 : Int32)), .val (.int (((own_slot q1 (15 : Int32)) + (1 : Int32)) &&& (15 : Int32)))] [(.ref a0)])) rfl rfl (hb hby d4_57)
        obtain ⟨cl255, Ar255, q255, S255, M255, H255, G255⟩ := id f250
        have hin256 : ¬ ((((own_slot q1 (15 : Int32)) + (1 : Int32)) &&& (15 : Int32)) < 0 ∨ cl255.slots.size ≤ ((((own_slot q1 (15 : Int32)) + (1 : Int32)) &&& (15 : Int32))).toNatClampNeg) := inb_of S255 (own_a15 _)
        obtain ⟨T257, h257, X257, e257, W257, st257⟩ := stI X254 hx hZ e254 Ar255 (j := (((own_slot q1 (15 : Int32)) + (1 : Int32)) &&& (15 : Int32))) hin256 (g := (mkF m 63 #[.val (.ref a0), .val (.long q1), .second, .val (.int p2), .val (.int (15 : Int32)), .val (.int (((own_slot q1 (15 : Int32)) + (1 : Int32)) &&& (15 : Int32)))] [(.int p2), (.int (((own_slot q1 (15 : Int32)) + (1 : Int32)) &&& (15 : Int32))), (.ref bv)])) rfl rfl (hb hby d4_63)
        have V257 : Arv Z h257 bv k_bv .int (16 : Int32) ((own_si vs (((own_slot q1 (15 : Int32)) + (1 : Int32)) &&& (15 : Int32)) p2).map Value.int) (.int (0 : Int32)) := by unfold own_si; rw [List.map_set]; exact Arv.set Ar255 q255 S255 M255 H255 G255 rfl W257 _ rfl (by rw [List.length_map, hlv]; exact own_n15 _)
        have f258 := f245.wr W257
        have f259 := f246.other W257 (Or.inl ne_a0_bv)
        have f260 := f247.other W257 (Or.inl ne_a0_bv)
        have f261 := f248.other W257 (Or.inl ne_a0_bv)
        have f262 := V244.other W257 ne_bk_bv
        have K264 := K251.wr W257 (Or.inl (List.mem_of_getElem? (i := 2) rfl))
        have Z265 := Nat.le_trans Z252 (Keep.of_wr W257).1
        have N266 := Fr.snoc X257 N253 g_bv
        obtain ⟨T267, X267, e267, st267⟩ := getF X257 hx hZ hown (host := "") (Or.inl (hw _ (List.mem_of_getElem? (i := 25) rfl))) Via.refl e257 f261 (g := (mkF m 66 #[.val (.ref a0), .val (.long q1), .second, .val (.int p2), .val (.int (15 : Int32)), .val (.int (((own_slot q1 (15 : Int32)) + (1 : Int32)) &&& (15 : Int32)))] [(.ref a0), (.ref a0)])) rfl rfl (hb hby d4_66)
        obtain ⟨T268, h268, X268, e268, W268, st268⟩ := putF X267 hx hZ hown (host := "") (Or.inl (hw _ (List.mem_of_getElem? (i := 25) rfl))) Via.refl e267 f261 f258 (Or.inl (hw _ (List.mem_of_getElem? (i := 26) rfl))) (hw _ (List.mem_of_getElem? (i := 3) rfl)) (ty := .int) (by decide) rfl rfl (g := (mkF m 71 #[.val (.ref a0), .val (.long q1), .second, .val (.int p2), .val (.int (15 : Int32)), .val (.int (((own_slot q1 (15 : Int32)) + (1 : Int32)) &&& (15 : Int32)))] [(.int (sz + (1 : Int32))), (.ref a0)])) rfl rfl (hb hby d4_71)
        have f268w : Fld Z h268 a0 "com/example/pathfield/pathfield/query/LongIntMap" "size" "I" (.int (sz + (1 : Int32))) := f261.same W268
        have f269 := f258.wr W268
        have f270 := f259.other W268 (Or.inr (slot_ne (Or.inl (hw _ (List.mem_of_getElem? (i := 12) rfl))) (Or.inl (hw _ (List.mem_of_getElem? (i := 26) rfl))) (by decide) (t := (.array .long)) (t' := .int) (by decide) (by decide)))
        have f271 := f260.other W268 (Or.inr (slot_ne (Or.inl (hw _ (List.mem_of_getElem? (i := 15) rfl))) (Or.inl (hw _ (List.mem_of_getElem? (i := 26) rfl))) (by decide) (t := (.array .int)) (t' := .int) (by decide) (by decide)))
        have f273 := f262.other W268 (Ne.symm ne_a0_bk)
        have f274 := V257.other W268 (Ne.symm ne_a0_bv)
        have K275 := K264.wr W268 (Or.inl (List.mem_of_getElem? (i := 0) rfl))
        have Z276 := Nat.le_trans Z265 (Keep.of_wr W268).1
        have N277 := Fr.snoc X268 N266 g_a0
        obtain ⟨fs, hr, hrun, hended, hW, hsame⟩ := X268.leave (v := none) (fun _ => rfl) (BodyLoose.notSynchronized Bd)
        refine ⟨_, _, pre240 _ ?_, hrun, hended, _, _, rfl, ?_, ⟨_, rfl⟩, hW, hsame.mono (by decide) (by decide)⟩
        · skip
          show Steps p.tables e below (T235.setTop (mkF m 45 #[.val (.ref a0), .val (.long q1), .second, .val (.int p2), .val (.int (15 : Int32)), .val (.int (((own_slot q1 (15 : Int32)) + (1 : Int32)) &&& (15 : Int32)))] [(.int (-1 : Int32)), (.int (own_gi vs (((own_slot q1 (15 : Int32)) + (1 : Int32)) &&& (15 : Int32))))])) _
          refine XS.icmpNo X235.here hx rfl (hb hby d4_45) rfl (teq hc239).2 ?_
          show Steps p.tables e below (T235.setTop (mkF m 48 #[.val (.ref a0), .val (.long q1), .second, .val (.int p2), .val (.int (15 : Int32)), .val (.int (((own_slot q1 (15 : Int32)) + (1 : Int32)) &&& (15 : Int32)))] [])) _
          refine XS.aloadN X235.here hx rfl (hb hby d4_48) rfl rfl ?_
          show Steps p.tables e below (T235.setTop (mkF m 49 #[.val (.ref a0), .val (.long q1), .second, .val (.int p2), .val (.int (15 : Int32)), .val (.int (((own_slot q1 (15 : Int32)) + (1 : Int32)) &&& (15 : Int32)))] [(.ref a0)])) _
          refine st241 _ ?_
          show Steps p.tables e below (T241.setTop (mkF m 52 #[.val (.ref a0), .val (.long q1), .second, .val (.int p2), .val (.int (15 : Int32)), .val (.int (((own_slot q1 (15 : Int32)) + (1 : Int32)) &&& (15 : Int32)))] [(.ref bk)])) _
          refine XS.iload X241.here hx rfl (hb hby d4_52) rfl ?_
          show Steps p.tables e below (T241.setTop (mkF m 54 #[.val (.ref a0), .val (.long q1), .second, .val (.int p2), .val (.int (15 : Int32)), .val (.int (((own_slot q1 (15 : Int32)) + (1 : Int32)) &&& (15 : Int32)))] [(.int (((own_slot q1 (15 : Int32)) + (1 : Int32)) &&& (15 : Int32))), (.ref bk)])) _
          refine XS.lloadN X241.here hx rfl (hb hby d4_54) rfl ?_
          show Steps p.tables e below (T241.setTop (mkF m 55 #[.val (.ref a0), .val (.long q1), .second, .val (.int p2), .val (.int (15 : Int32)), .val (.int (((own_slot q1 (15 : Int32)) + (1 : Int32)) &&& (15 : Int32)))] [(.long q1), (.int (((own_slot q1 (15 : Int32)) + (1 : Int32)) &&& (15 : Int32))), (.ref bk)])) _
          refine st244 _ ?_
          show Steps p.tables e below (T244.setTop (mkF m 56 #[.val (.ref a0), .val (.long q1), .second, .val (.int p2), .val (.int (15 : Int32)), .val (.int (((own_slot q1 (15 : Int32)) + (1 : Int32)) &&& (15 : Int32)))] [])) _
          refine XS.aloadN X244.here hx rfl (hb hby d4_56) rfl rfl ?_
          show Steps p.tables e below (T244.setTop (mkF m 57 #[.val (.ref a0), .val (.long q1), .second, .val (.int p2), .val (.int (15 : Int32)), .val (.int (((own_slot q1 (15 : Int32)) + (1 : Int32)) &&& (15 : Int32)))] [(.ref a0)])) _
          refine st254 _ ?_
          show Steps p.tables e below (T254.setTop (mkF m 60 #[.val (.ref a0), .val (.long q1), .second, .val (.int p2), .val (.int (15 : Int32)), .val (.int (((own_slot q1 (15 : Int32)) + (1 : Int32)) &&& (15 : Int32)))] [(.ref bv)])) _
          refine XS.iload X254.here hx rfl (hb hby d4_60) rfl ?_
          show Steps p.tables e below (T254.setTop (mkF m 62 #[.val (.ref a0), .val (.long q1), .second, .val (.int p2), .val (.int (15 : Int32)), .val (.int (((own_slot q1 (15 : Int32)) + (1 : Int32)) &&& (15 : Int32)))] [(.int (((own_slot q1 (15 : Int32)) + (1 : Int32)) &&& (15 : Int32))), (.ref bv)])) _
          refine XS.iloadN X254.here hx rfl (hb hby d4_62) rfl ?_
          show Steps p.tables e below (T254.setTop (mkF m 63 #[.val (.ref a0), .val (.long q1), .second, .val (.int p2), .val (.int (15 : Int32)), .val (.int (((own_slot q1 (15 : Int32)) + (1 : Int32)) &&& (15 : Int32)))] [(.int p2), (.int (((own_slot q1 (15 : Int32)) + (1 : Int32)) &&& (15 : Int32))), (.ref bv)])) _
          refine st257 _ ?_
          show Steps p.tables e below (T257.setTop (mkF m 64 #[.val (.ref a0), .val (.long q1), .second, .val (.int p2), .val (.int (15 : Int32)), .val (.int (((own_slot q1 (15 : Int32)) + (1 : Int32)) &&& (15 : Int32)))] [])) _
          refine XS.aloadN X257.here hx rfl (hb hby d4_64) rfl rfl ?_
          show Steps p.tables e below (T257.setTop (mkF m 65 #[.val (.ref a0), .val (.long q1), .second, .val (.int p2), .val (.int (15 : Int32)), .val (.int (((own_slot q1 (15 : Int32)) + (1 : Int32)) &&& (15 : Int32)))] [(.ref a0)])) _
          refine XS.dup X257.here hx rfl (hb hby d4_65) rfl rfl ?_
          show Steps p.tables e below (T257.setTop (mkF m 66 #[.val (.ref a0), .val (.long q1), .second, .val (.int p2), .val (.int (15 : Int32)), .val (.int (((own_slot q1 (15 : Int32)) + (1 : Int32)) &&& (15 : Int32)))] [(.ref a0), (.ref a0)])) _
          refine st267 _ ?_
          show Steps p.tables e below (T267.setTop (mkF m 69 #[.val (.ref a0), .val (.long q1), .second, .val (.int p2), .val (.int (15 : Int32)), .val (.int (((own_slot q1 (15 : Int32)) + (1 : Int32)) &&& (15 : Int32)))] [(.int sz), (.ref a0)])) _
          refine XS.iconst X267.here hx rfl (hb hby d4_69) ?_
          show Steps p.tables e below (T267.setTop (mkF m 70 #[.val (.ref a0), .val (.long q1), .second, .val (.int p2), .val (.int (15 : Int32)), .val (.int (((own_slot q1 (15 : Int32)) + (1 : Int32)) &&& (15 : Int32)))] [(.int (1 : Int32)), (.int sz), (.ref a0)])) _
          refine XS.iadd X267.here hx rfl (hb hby d4_70) rfl ?_
          show Steps p.tables e below (T267.setTop (mkF m 71 #[.val (.ref a0), .val (.long q1), .second, .val (.int p2), .val (.int (15 : Int32)), .val (.int (((own_slot q1 (15 : Int32)) + (1 : Int32)) &&& (15 : Int32)))] [(.int (sz + (1 : Int32))), (.ref a0)])) _
          refine st268 _ ?_
          show Steps p.tables e below (T268.setTop (mkF m 74 #[.val (.ref a0), .val (.long q1), .second, .val (.int p2), .val (.int (15 : Int32)), .val (.int (((own_slot q1 (15 : Int32)) + (1 : Int32)) &&& (15 : Int32)))] [])) _
          exact X268.returnOut hx Bd.returns (hb hby d4_74) hr
        · show Q4 Z a0 q1 p2 bk bv sz ks vs k_bk k_bv h0 n0 _ T268.heap _
          rw [e268]
          have hp278 : (j4_0 q1 sz ks vs) = (sz + (1 : Int32)) := by unfold j4_0; first | (rw [if_neg hc171, if_neg hc217, if_pos hc239]) | (simp only [if_neg hc171, if_neg hc217, if_pos hc239])
          have hp279 : (j4_1 q1 ks vs) = (own_sj ks (((own_slot q1 (15 : Int32)) + (1 : Int32)) &&& (15 : Int32)) q1) := by unfold j4_1; first | (rw [if_neg hc171, if_neg hc217, if_pos hc239]) | (simp only [if_neg hc171, if_neg hc217, if_pos hc239])
          have hp280 : (j4_2 q1 p2 ks vs) = (own_si vs (((own_slot q1 (15 : Int32)) + (1 : Int32)) &&& (15 : Int32)) p2) := by unfold j4_2; first | (rw [if_neg hc171, if_neg hc217, if_pos hc239]) | (simp only [if_neg hc171, if_neg hc217, if_pos hc239])
          exact ⟨rfl, N277, K275, f269, f270, f271, (by rw [hp278]; exact f268w), (by rw [hp279]; exact f273), (by rw [hp280]; exact f274)⟩
      · skip
        obtain ⟨T281, X281, e281, st281⟩ := getF X235 hx hZ hown (host := "") (Or.inl (hw _ (List.mem_of_getElem? (i := 11) rfl))) Via.refl e235 F_keys_a0 (g := (mkF m 76 #[.val (.ref a0), .val (.long q1), .second, .val (.int p2), .val (.int (15 : Int32)), .val (.int (((own_slot q1 (15 : Int32)) + (1 : Int32)) &&& (15 : Int32)))] [(.ref a0)])) rfl rfl (hb hby d4_76)
        obtain ⟨cl282, Ar282, q282, S282, M282, H282, G282⟩ := id V_bk
        have hin283 : ¬ ((((own_slot q1 (15 : Int32)) + (1 : Int32)) &&& (15 : Int32)) < 0 ∨ cl282.slots.size ≤ ((((own_slot q1 (15 : Int32)) + (1 : Int32)) &&& (15 : Int32))).toNatClampNeg) := inb_of S282 (own_a15 _)
        have hat284 : cl282.slots[((((own_slot q1 (15 : Int32)) + (1 : Int32)) &&& (15 : Int32))).toNatClampNeg]? = some (.long (own_gj ks (((own_slot q1 (15 : Int32)) + (1 : Int32)) &&& (15 : Int32)))) := H282.at hin283 (own_gmj _ _)
        have pre286 := fun (t : State) (k : Steps p.tables e below (T281.setTop (mkF m 84 #[.val (.ref a0), .val (.long q1), .second, .val (.int p2), .val (.int (15 : Int32)), .val (.int (((own_slot q1 (15 : Int32)) + (1 : Int32)) &&& (15 : Int32)))] [(.int (lcmpW (own_gj ks (((own_slot q1 (15 : Int32)) + (1 : Int32)) &&& (15 : Int32))) q1))])) t) => pre240 t (by
          show Steps p.tables e below (T235.setTop (mkF m 45 #[.val (.ref a0), .val (.long q1), .second, .val (.int p2), .val (.int (15 : Int32)), .val (.int (((own_slot q1 (15 : Int32)) + (1 : Int32)) &&& (15 : Int32)))] [(.int (-1 : Int32)), (.int (own_gi vs (((own_slot q1 (15 : Int32)) + (1 : Int32)) &&& (15 : Int32))))])) _
          refine XS.icmpYes X235.here hx rfl (pc0 := 45) (pc' := 75) rfl (hb hby d4_45) rfl (feq hc239).2 (by decide) (by decide) ?_
          show Steps p.tables e below (T235.setTop (mkF m 75 #[.val (.ref a0), .val (.long q1), .second, .val (.int p2), .val (.int (15 : Int32)), .val (.int (((own_slot q1 (15 : Int32)) + (1 : Int32)) &&& (15 : Int32)))] [])) _
          refine XS.aloadN X235.here hx rfl (hb hby d4_75) rfl rfl ?_
          show Steps p.tables e below (T235.setTop (mkF m 76 #[.val (.ref a0), .val (.long q1), .second, .val (.int p2), .val (.int (15 : Int32)), .val (.int (((own_slot q1 (15 : Int32)) + (1 : Int32)) &&& (15 : Int32)))] [(.ref a0)])) _
          refine st281 _ ?_
          show Steps p.tables e below (T281.setTop (mkF m 79 #[.val (.ref a0), .val (.long q1), .second, .val (.int p2), .val (.int (15 : Int32)), .val (.int (((own_slot q1 (15 : Int32)) + (1 : Int32)) &&& (15 : Int32)))] [(.ref bk)])) _
          refine XS.iload X281.here hx rfl (hb hby d4_79) rfl ?_
          show Steps p.tables e below (T281.setTop (mkF m 81 #[.val (.ref a0), .val (.long q1), .second, .val (.int p2), .val (.int (15 : Int32)), .val (.int (((own_slot q1 (15 : Int32)) + (1 : Int32)) &&& (15 : Int32)))] [(.int (((own_slot q1 (15 : Int32)) + (1 : Int32)) &&& (15 : Int32))), (.ref bk)])) _
          refine X281.laload hx (j := (((own_slot q1 (15 : Int32)) + (1 : Int32)) &&& (15 : Int32))) (v := (.long (own_gj ks (((own_slot q1 (15 : Int32)) + (1 : Int32)) &&& (15 : Int32))))) (by rw [e281]; exact Ar282.1) (State.isArrayOf_alike hZ.alike Ar282.2.1) Ar282.2.2 hin283 hat284 (g := (mkF m 81 #[.val (.ref a0), .val (.long q1), .second, .val (.int p2), .val (.int (15 : Int32)), .val (.int (((own_slot q1 (15 : Int32)) + (1 : Int32)) &&& (15 : Int32)))] [(.int (((own_slot q1 (15 : Int32)) + (1 : Int32)) &&& (15 : Int32))), (.ref bk)])) rfl rfl (hb hby d4_81) _ ?_
          show Steps p.tables e below (T281.setTop (mkF m 82 #[.val (.ref a0), .val (.long q1), .second, .val (.int p2), .val (.int (15 : Int32)), .val (.int (((own_slot q1 (15 : Int32)) + (1 : Int32)) &&& (15 : Int32)))] [(.long (own_gj ks (((own_slot q1 (15 : Int32)) + (1 : Int32)) &&& (15 : Int32))))])) _
          refine XS.lloadN X281.here hx rfl (hb hby d4_82) rfl ?_
          show Steps p.tables e below (T281.setTop (mkF m 83 #[.val (.ref a0), .val (.long q1), .second, .val (.int p2), .val (.int (15 : Int32)), .val (.int (((own_slot q1 (15 : Int32)) + (1 : Int32)) &&& (15 : Int32)))] [(.long q1), (.long (own_gj ks (((own_slot q1 (15 : Int32)) + (1 : Int32)) &&& (15 : Int32))))])) _
          refine XS.lcmp X281.here hx rfl (hb hby d4_83) rfl ?_
          exact k)
        by_cases hc285 : (own_gj ks (((own_slot q1 (15 : Int32)) + (1 : Int32)) &&& (15 : Int32))) = q1
        · skip
          obtain ⟨T287, X287, e287, st287⟩ := getF X281 hx hZ hown (host := "") (Or.inl (hw _ (List.mem_of_getElem? (i := 14) rfl))) Via.refl e281 F_values_a0 (g := (mkF m 88 #[.val (.ref a0), .val (.long q1), .second, .val (.int p2), .val (.int (15 : Int32)), .val (.int (((own_slot q1 (15 : Int32)) + (1 : Int32)) &&& (15 : Int32)))] [(.ref a0)])) rfl rfl (hb hby d4_88)
          obtain ⟨cl288, Ar288, q288, S288, M288, H288, G288⟩ := id V_bv
          have hin289 : ¬ ((((own_slot q1 (15 : Int32)) + (1 : Int32)) &&& (15 : Int32)) < 0 ∨ cl288.slots.size ≤ ((((own_slot q1 (15 : Int32)) + (1 : Int32)) &&& (15 : Int32))).toNatClampNeg) := inb_of S288 (own_a15 _)
          obtain ⟨T290, h290, X290, e290, W290, st290⟩ := stI X287 hx hZ e287 Ar288 (j := (((own_slot q1 (15 : Int32)) + (1 : Int32)) &&& (15 : Int32))) hin289 (g := (mkF m 94 #[.val (.ref a0), .val (.long q1), .second, .val (.int p2), .val (.int (15 : Int32)), .val (.int (((own_slot q1 (15 : Int32)) + (1 : Int32)) &&& (15 : Int32)))] [(.int p2), (.int (((own_slot q1 (15 : Int32)) + (1 : Int32)) &&& (15 : Int32))), (.ref bv)])) rfl rfl (hb hby d4_94)
          have V290 : Arv Z h290 bv k_bv .int (16 : Int32) ((own_si vs (((own_slot q1 (15 : Int32)) + (1 : Int32)) &&& (15 : Int32)) p2).map Value.int) (.int (0 : Int32)) := by unfold own_si; rw [List.map_set]; exact Arv.set Ar288 q288 S288 M288 H288 G288 rfl W290 _ rfl (by rw [List.length_map, hlv]; exact own_n15 _)
          have f291 := E_a0.wr W290
          have f292 := F_keys_a0.other W290 (Or.inl ne_a0_bv)
          have f293 := F_values_a0.other W290 (Or.inl ne_a0_bv)
          have f294 := F_size_a0.other W290 (Or.inl ne_a0_bv)
          have f295 := V_bk.other W290 ne_bk_bv
          have K297 := K0.wr W290 (Or.inl (List.mem_of_getElem? (i := 2) rfl))
          have Z298 := Nat.le_trans Z0 (Keep.of_wr W290).1
          have N299 := Fr.snoc X290 N166 g_bv
          obtain ⟨fs, hr, hrun, hended, hW, hsame⟩ := X290.leave (v := none) (fun _ => rfl) (BodyLoose.notSynchronized Bd)
          refine ⟨_, _, pre286 _ ?_, hrun, hended, _, _, rfl, ?_, ⟨_, rfl⟩, hW, hsame.mono (by decide) (by decide)⟩
          · skip
            show Steps p.tables e below (T281.setTop (mkF m 84 #[.val (.ref a0), .val (.long q1), .second, .val (.int p2), .val (.int (15 : Int32)), .val (.int (((own_slot q1 (15 : Int32)) + (1 : Int32)) &&& (15 : Int32)))] [(.int (lcmpW (own_gj ks (((own_slot q1 (15 : Int32)) + (1 : Int32)) &&& (15 : Int32))) q1))])) _
            refine XS.ifNo X281.here hx rfl (hb hby d4_84) rfl ((if0 _ _).trans (teq ((own_eq (own_gj ks (((own_slot q1 (15 : Int32)) + (1 : Int32)) &&& (15 : Int32))) q1).mpr hc285)).2) ?_
            show Steps p.tables e below (T281.setTop (mkF m 87 #[.val (.ref a0), .val (.long q1), .second, .val (.int p2), .val (.int (15 : Int32)), .val (.int (((own_slot q1 (15 : Int32)) + (1 : Int32)) &&& (15 : Int32)))] [])) _
            refine XS.aloadN X281.here hx rfl (hb hby d4_87) rfl rfl ?_
            show Steps p.tables e below (T281.setTop (mkF m 88 #[.val (.ref a0), .val (.long q1), .second, .val (.int p2), .val (.int (15 : Int32)), .val (.int (((own_slot q1 (15 : Int32)) + (1 : Int32)) &&& (15 : Int32)))] [(.ref a0)])) _
            refine st287 _ ?_
            show Steps p.tables e below (T287.setTop (mkF m 91 #[.val (.ref a0), .val (.long q1), .second, .val (.int p2), .val (.int (15 : Int32)), .val (.int (((own_slot q1 (15 : Int32)) + (1 : Int32)) &&& (15 : Int32)))] [(.ref bv)])) _
            refine XS.iload X287.here hx rfl (hb hby d4_91) rfl ?_
            show Steps p.tables e below (T287.setTop (mkF m 93 #[.val (.ref a0), .val (.long q1), .second, .val (.int p2), .val (.int (15 : Int32)), .val (.int (((own_slot q1 (15 : Int32)) + (1 : Int32)) &&& (15 : Int32)))] [(.int (((own_slot q1 (15 : Int32)) + (1 : Int32)) &&& (15 : Int32))), (.ref bv)])) _
            refine XS.iloadN X287.here hx rfl (hb hby d4_93) rfl ?_
            show Steps p.tables e below (T287.setTop (mkF m 94 #[.val (.ref a0), .val (.long q1), .second, .val (.int p2), .val (.int (15 : Int32)), .val (.int (((own_slot q1 (15 : Int32)) + (1 : Int32)) &&& (15 : Int32)))] [(.int p2), (.int (((own_slot q1 (15 : Int32)) + (1 : Int32)) &&& (15 : Int32))), (.ref bv)])) _
            refine st290 _ ?_
            show Steps p.tables e below (T290.setTop (mkF m 95 #[.val (.ref a0), .val (.long q1), .second, .val (.int p2), .val (.int (15 : Int32)), .val (.int (((own_slot q1 (15 : Int32)) + (1 : Int32)) &&& (15 : Int32)))] [])) _
            exact X290.returnOut hx Bd.returns (hb hby d4_95) hr
          · show Q4 Z a0 q1 p2 bk bv sz ks vs k_bk k_bv h0 n0 _ T290.heap _
            rw [e290]
            have hp300 : (j4_0 q1 sz ks vs) = sz := by unfold j4_0; first | (rw [if_neg hc171, if_neg hc217, if_neg hc239, if_pos hc285]) | (simp only [if_neg hc171, if_neg hc217, if_neg hc239, if_pos hc285])
            have hp301 : (j4_1 q1 ks vs) = ks := by unfold j4_1; first | (rw [if_neg hc171, if_neg hc217, if_neg hc239, if_pos hc285]) | (simp only [if_neg hc171, if_neg hc217, if_neg hc239, if_pos hc285])
            have hp302 : (j4_2 q1 p2 ks vs) = (own_si vs (((own_slot q1 (15 : Int32)) + (1 : Int32)) &&& (15 : Int32)) p2) := by unfold j4_2; first | (rw [if_neg hc171, if_neg hc217, if_neg hc239, if_pos hc285]) | (simp only [if_neg hc171, if_neg hc217, if_neg hc239, if_pos hc285])
            exact ⟨rfl, N299, K297, f291, f292, f293, (by rw [hp300]; exact f294), (by rw [hp301]; exact f295), (by rw [hp302]; exact V290)⟩
        · skip
          obtain ⟨T303, X303, e303, st303⟩ := getF X281 hx hZ hown (host := "") (Or.inl (hw _ (List.mem_of_getElem? (i := 14) rfl))) Via.refl e281 F_values_a0 (g := (mkF m 38 #[.val (.ref a0), .val (.long q1), .second, .val (.int p2), .val (.int (15 : Int32)), .val (.int (((((own_slot q1 (15 : Int32)) + (1 : Int32)) &&& (15 : Int32)) + (1 : Int32)) &&& (15 : Int32)))] [(.ref a0)])) rfl rfl (hb hby d4_38)
          obtain ⟨cl304, Ar304, q304, S304, M304, H304, G304⟩ := id V_bv
          have hin305 : ¬ ((((((own_slot q1 (15 : Int32)) + (1 : Int32)) &&& (15 : Int32)) + (1 : Int32)) &&& (15 : Int32)) < 0 ∨ cl304.slots.size ≤ ((((((own_slot q1 (15 : Int32)) + (1 : Int32)) &&& (15 : Int32)) + (1 : Int32)) &&& (15 : Int32))).toNatClampNeg) := inb_of S304 (own_a15 _)
          have hat306 : cl304.slots[((((((own_slot q1 (15 : Int32)) + (1 : Int32)) &&& (15 : Int32)) + (1 : Int32)) &&& (15 : Int32))).toNatClampNeg]? = some (.int (own_gi vs (((((own_slot q1 (15 : Int32)) + (1 : Int32)) &&& (15 : Int32)) + (1 : Int32)) &&& (15 : Int32)))) := H304.at hin305 (own_gmi _ _)
          obtain ⟨T307, X307, e307, st307⟩ := getF X303 hx hZ hown (host := "") (Or.inl (hw _ (List.mem_of_getElem? (i := 11) rfl))) Via.refl e303 F_keys_a0 (g := (mkF m 49 #[.val (.ref a0), .val (.long q1), .second, .val (.int p2), .val (.int (15 : Int32)), .val (.int (((((own_slot q1 (15 : Int32)) + (1 : Int32)) &&& (15 : Int32)) + (1 : Int32)) &&& (15 : Int32)))] [(.ref a0)])) rfl rfl (hb hby d4_49)
          obtain ⟨cl308, Ar308, q308, S308, M308, H308, G308⟩ := id V_bk
          have hin309 : ¬ ((((((own_slot q1 (15 : Int32)) + (1 : Int32)) &&& (15 : Int32)) + (1 : Int32)) &&& (15 : Int32)) < 0 ∨ cl308.slots.size ≤ ((((((own_slot q1 (15 : Int32)) + (1 : Int32)) &&& (15 : Int32)) + (1 : Int32)) &&& (15 : Int32))).toNatClampNeg) := inb_of S308 (own_a15 _)
          obtain ⟨T310, h310, X310, e310, W310, st310⟩ := stJ X307 hx hZ e307 Ar308 (j := (((((own_slot q1 (15 : Int32)) + (1 : Int32)) &&& (15 : Int32)) + (1 : Int32)) &&& (15 : Int32))) hin309 (g := (mkF m 55 #[.val (.ref a0), .val (.long q1), .second, .val (.int p2), .val (.int (15 : Int32)), .val (.int (((((own_slot q1 (15 : Int32)) + (1 : Int32)) &&& (15 : Int32)) + (1 : Int32)) &&& (15 : Int32)))] [(.long q1), (.int (((((own_slot q1 (15 : Int32)) + (1 : Int32)) &&& (15 : Int32)) + (1 : Int32)) &&& (15 : Int32))), (.ref bk)])) rfl rfl (hb hby d4_55)
          have V310 : Arv Z h310 bk k_bk .long (16 : Int32) ((own_sj ks (((((own_slot q1 (15 : Int32)) + (1 : Int32)) &&& (15 : Int32)) + (1 : Int32)) &&& (15 : Int32)) q1).map Value.long) (.long (0 : Int64)) := by unfold own_sj; rw [List.map_set]; exact Arv.set Ar308 q308 S308 M308 H308 G308 rfl W310 _ rfl (by rw [List.length_map, hlk]; exact own_n15 _)
          have f311 := E_a0.wr W310
          have f312 := F_keys_a0.other W310 (Or.inl ne_a0_bk)
          have f313 := F_values_a0.other W310 (Or.inl ne_a0_bk)
          have f314 := F_size_a0.other W310 (Or.inl ne_a0_bk)
          have f316 := V_bv.other W310 (Ne.symm ne_bk_bv)
          have K317 := K0.wr W310 (Or.inl (List.mem_of_getElem? (i := 1) rfl))
          have Z318 := Nat.le_trans Z0 (Keep.of_wr W310).1
          have N319 := Fr.snoc X310 N166 g_bk
          obtain ⟨T320, X320, e320, st320⟩ := getF X310 hx hZ hown (host := "") (Or.inl (hw _ (List.mem_of_getElem? (i := 14) rfl))) Via.refl e310 f313 (g := (mkF m 57 #[.val (.ref a0), .val (.long q1), .second, .val (.int p2), .val (.int (15 : Int32)), .val (.int (((((own_slot q1 (15 : Int32)) + (1 : Int32)) &&& (15 : Int32)) + (1 : Int32)) &&& (15 : Int32)))] [(.ref a0)])) rfl rfl (hb hby d4_57)
          obtain ⟨cl321, Ar321, q321, S321, M321, H321, G321⟩ := id f316
          have hin322 : ¬ ((((((own_slot q1 (15 : Int32)) + (1 : Int32)) &&& (15 : Int32)) + (1 : Int32)) &&& (15 : Int32)) < 0 ∨ cl321.slots.size ≤ ((((((own_slot q1 (15 : Int32)) + (1 : Int32)) &&& (15 : Int32)) + (1 : Int32)) &&& (15 : Int32))).toNatClampNeg) := inb_of S321 (own_a15 _)
          obtain ⟨T323, h323, X323, e323, W323, st323⟩ := stI X320 hx hZ e320 Ar321 (j := (((((own_slot q1 (15 : Int32)) + (1 : Int32)) &&& (15 : Int32)) + (1 : Int32)) &&& (15 : Int32))) hin322 (g := (mkF m 63 #[.val (.ref a0), .val (.long q1), .second, .val (.int p2), .val (.int (15 : Int32)), .val (.int (((((own_slot q1 (15 : Int32)) + (1 : Int32)) &&& (15 : Int32)) + (1 : Int32)) &&& (15 : Int32)))] [(.int p2), (.int (((((own_slot q1 (15 : Int32)) + (1 : Int32)) &&& (15 : Int32)) + (1 : Int32)) &&& (15 : Int32))), (.ref bv)])) rfl rfl (hb hby d4_63)
          have V323 : Arv Z h323 bv k_bv .int (16 : Int32) ((own_si vs (((((own_slot q1 (15 : Int32)) + (1 : Int32)) &&& (15 : Int32)) + (1 : Int32)) &&& (15 : Int32)) p2).map Value.int) (.int (0 : Int32)) := by unfold own_si; rw [List.map_set]; exact Arv.set Ar321 q321 S321 M321 H321 G321 rfl W323 _ rfl (by rw [List.length_map, hlv]; exact own_n15 _)
          have f324 := f311.wr W323
          have f325 := f312.other W323 (Or.inl ne_a0_bv)
          have f326 := f313.other W323 (Or.inl ne_a0_bv)
          have f327 := f314.other W323 (Or.inl ne_a0_bv)
          have f328 := V310.other W323 ne_bk_bv
          have K330 := K317.wr W323 (Or.inl (List.mem_of_getElem? (i := 2) rfl))
          have Z331 := Nat.le_trans Z318 (Keep.of_wr W323).1
          have N332 := Fr.snoc X323 N319 g_bv
          obtain ⟨T333, X333, e333, st333⟩ := getF X323 hx hZ hown (host := "") (Or.inl (hw _ (List.mem_of_getElem? (i := 25) rfl))) Via.refl e323 f327 (g := (mkF m 66 #[.val (.ref a0), .val (.long q1), .second, .val (.int p2), .val (.int (15 : Int32)), .val (.int (((((own_slot q1 (15 : Int32)) + (1 : Int32)) &&& (15 : Int32)) + (1 : Int32)) &&& (15 : Int32)))] [(.ref a0), (.ref a0)])) rfl rfl (hb hby d4_66)
          obtain ⟨T334, h334, X334, e334, W334, st334⟩ := putF X333 hx hZ hown (host := "") (Or.inl (hw _ (List.mem_of_getElem? (i := 25) rfl))) Via.refl e333 f327 f324 (Or.inl (hw _ (List.mem_of_getElem? (i := 26) rfl))) (hw _ (List.mem_of_getElem? (i := 3) rfl)) (ty := .int) (by decide) rfl rfl (g := (mkF m 71 #[.val (.ref a0), .val (.long q1), .second, .val (.int p2), .val (.int (15 : Int32)), .val (.int (((((own_slot q1 (15 : Int32)) + (1 : Int32)) &&& (15 : Int32)) + (1 : Int32)) &&& (15 : Int32)))] [(.int (sz + (1 : Int32))), (.ref a0)])) rfl rfl (hb hby d4_71)
          have f334w : Fld Z h334 a0 "com/example/pathfield/pathfield/query/LongIntMap" "size" "I" (.int (sz + (1 : Int32))) := f327.same W334
          have f335 := f324.wr W334
          have f336 := f325.other W334 (Or.inr (slot_ne (Or.inl (hw _ (List.mem_of_getElem? (i := 12) rfl))) (Or.inl (hw _ (List.mem_of_getElem? (i := 26) rfl))) (by decide) (t := (.array .long)) (t' := .int) (by decide) (by decide)))
          have f337 := f326.other W334 (Or.inr (slot_ne (Or.inl (hw _ (List.mem_of_getElem? (i := 15) rfl))) (Or.inl (hw _ (List.mem_of_getElem? (i := 26) rfl))) (by decide) (t := (.array .int)) (t' := .int) (by decide) (by decide)))
          have f339 := f328.other W334 (Ne.symm ne_a0_bk)
          have f340 := V323.other W334 (Ne.symm ne_a0_bv)
          have K341 := K330.wr W334 (Or.inl (List.mem_of_getElem? (i := 0) rfl))
          have Z342 := Nat.le_trans Z331 (Keep.of_wr W334).1
          have N343 := Fr.snoc X334 N332 g_a0
          obtain ⟨fs, hr, hrun, hended, hW, hsame⟩ := X334.leave (v := none) (fun _ => rfl) (BodyLoose.notSynchronized Bd)
          refine ⟨_, _, pre286 _ ?_, hrun, hended, _, _, rfl, ?_, ⟨_, rfl⟩, hW, hsame.mono (by decide) (by decide)⟩
          · skip
            show Steps p.tables e below (T281.setTop (mkF m 84 #[.val (.ref a0), .val (.long q1), .second, .val (.int p2), .val (.int (15 : Int32)), .val (.int (((own_slot q1 (15 : Int32)) + (1 : Int32)) &&& (15 : Int32)))] [(.int (lcmpW (own_gj ks (((own_slot q1 (15 : Int32)) + (1 : Int32)) &&& (15 : Int32))) q1))])) _
            refine XS.ifYes X281.here hx rfl (pc0 := 84) (pc' := 96) rfl (hb hby d4_84) rfl ((if0 _ _).trans (feq (mt (own_eq (own_gj ks (((own_slot q1 (15 : Int32)) + (1 : Int32)) &&& (15 : Int32))) q1).mp hc285)).2) (by decide) (by decide) ?_
            show Steps p.tables e below (T281.setTop (mkF m 96 #[.val (.ref a0), .val (.long q1), .second, .val (.int p2), .val (.int (15 : Int32)), .val (.int (((own_slot q1 (15 : Int32)) + (1 : Int32)) &&& (15 : Int32)))] [])) _
            refine XS.iload X281.here hx rfl (hb hby d4_96) rfl ?_
            show Steps p.tables e below (T281.setTop (mkF m 98 #[.val (.ref a0), .val (.long q1), .second, .val (.int p2), .val (.int (15 : Int32)), .val (.int (((own_slot q1 (15 : Int32)) + (1 : Int32)) &&& (15 : Int32)))] [(.int (((own_slot q1 (15 : Int32)) + (1 : Int32)) &&& (15 : Int32)))])) _
            refine XS.iconst X281.here hx rfl (hb hby d4_98) ?_
            show Steps p.tables e below (T281.setTop (mkF m 99 #[.val (.ref a0), .val (.long q1), .second, .val (.int p2), .val (.int (15 : Int32)), .val (.int (((own_slot q1 (15 : Int32)) + (1 : Int32)) &&& (15 : Int32)))] [(.int (1 : Int32)), (.int (((own_slot q1 (15 : Int32)) + (1 : Int32)) &&& (15 : Int32)))])) _
            refine XS.iadd X281.here hx rfl (hb hby d4_99) rfl ?_
            show Steps p.tables e below (T281.setTop (mkF m 100 #[.val (.ref a0), .val (.long q1), .second, .val (.int p2), .val (.int (15 : Int32)), .val (.int (((own_slot q1 (15 : Int32)) + (1 : Int32)) &&& (15 : Int32)))] [(.int ((((own_slot q1 (15 : Int32)) + (1 : Int32)) &&& (15 : Int32)) + (1 : Int32)))])) _
            refine XS.iload X281.here hx rfl (hb hby d4_100) rfl ?_
            show Steps p.tables e below (T281.setTop (mkF m 102 #[.val (.ref a0), .val (.long q1), .second, .val (.int p2), .val (.int (15 : Int32)), .val (.int (((own_slot q1 (15 : Int32)) + (1 : Int32)) &&& (15 : Int32)))] [(.int (15 : Int32)), (.int ((((own_slot q1 (15 : Int32)) + (1 : Int32)) &&& (15 : Int32)) + (1 : Int32)))])) _
            refine XS.iand X281.here hx rfl (hb hby d4_102) rfl ?_
            show Steps p.tables e below (T281.setTop (mkF m 103 #[.val (.ref a0), .val (.long q1), .second, .val (.int p2), .val (.int (15 : Int32)), .val (.int (((own_slot q1 (15 : Int32)) + (1 : Int32)) &&& (15 : Int32)))] [(.int (((((own_slot q1 (15 : Int32)) + (1 : Int32)) &&& (15 : Int32)) + (1 : Int32)) &&& (15 : Int32)))])) _
            refine XS.istore X281.here hx rfl (hb hby d4_103) rfl (l' := #[.val (.ref a0), .val (.long q1), .second, .val (.int p2), .val (.int (15 : Int32)), .val (.int (((((own_slot q1 (15 : Int32)) + (1 : Int32)) &&& (15 : Int32)) + (1 : Int32)) &&& (15 : Int32)))]) rfl ?_
            show Steps p.tables e below (T281.setTop (mkF m 105 #[.val (.ref a0), .val (.long q1), .second, .val (.int p2), .val (.int (15 : Int32)), .val (.int (((((own_slot q1 (15 : Int32)) + (1 : Int32)) &&& (15 : Int32)) + (1 : Int32)) &&& (15 : Int32)))] [])) _
            refine XS.goto X281.here hx rfl (pc0 := 105) (pc' := 37) rfl (hb hby d4_105) (by decide) (by decide) ?_
            show Steps p.tables e below (T281.setTop (mkF m 37 #[.val (.ref a0), .val (.long q1), .second, .val (.int p2), .val (.int (15 : Int32)), .val (.int (((((own_slot q1 (15 : Int32)) + (1 : Int32)) &&& (15 : Int32)) + (1 : Int32)) &&& (15 : Int32)))] [])) _
            refine XS.aloadN X281.here hx rfl (hb hby d4_37) rfl rfl ?_
            show Steps p.tables e below (T281.setTop (mkF m 38 #[.val (.ref a0), .val (.long q1), .second, .val (.int p2), .val (.int (15 : Int32)), .val (.int (((((own_slot q1 (15 : Int32)) + (1 : Int32)) &&& (15 : Int32)) + (1 : Int32)) &&& (15 : Int32)))] [(.ref a0)])) _
            refine st303 _ ?_
            show Steps p.tables e below (T303.setTop (mkF m 41 #[.val (.ref a0), .val (.long q1), .second, .val (.int p2), .val (.int (15 : Int32)), .val (.int (((((own_slot q1 (15 : Int32)) + (1 : Int32)) &&& (15 : Int32)) + (1 : Int32)) &&& (15 : Int32)))] [(.ref bv)])) _
            refine XS.iload X303.here hx rfl (hb hby d4_41) rfl ?_
            show Steps p.tables e below (T303.setTop (mkF m 43 #[.val (.ref a0), .val (.long q1), .second, .val (.int p2), .val (.int (15 : Int32)), .val (.int (((((own_slot q1 (15 : Int32)) + (1 : Int32)) &&& (15 : Int32)) + (1 : Int32)) &&& (15 : Int32)))] [(.int (((((own_slot q1 (15 : Int32)) + (1 : Int32)) &&& (15 : Int32)) + (1 : Int32)) &&& (15 : Int32))), (.ref bv)])) _
            refine X303.iaload hx (j := (((((own_slot q1 (15 : Int32)) + (1 : Int32)) &&& (15 : Int32)) + (1 : Int32)) &&& (15 : Int32))) (v := (.int (own_gi vs (((((own_slot q1 (15 : Int32)) + (1 : Int32)) &&& (15 : Int32)) + (1 : Int32)) &&& (15 : Int32))))) (by rw [e303]; exact Ar304.1) (State.isArrayOf_alike hZ.alike Ar304.2.1) Ar304.2.2 hin305 hat306 (g := (mkF m 43 #[.val (.ref a0), .val (.long q1), .second, .val (.int p2), .val (.int (15 : Int32)), .val (.int (((((own_slot q1 (15 : Int32)) + (1 : Int32)) &&& (15 : Int32)) + (1 : Int32)) &&& (15 : Int32)))] [(.int (((((own_slot q1 (15 : Int32)) + (1 : Int32)) &&& (15 : Int32)) + (1 : Int32)) &&& (15 : Int32))), (.ref bv)])) rfl rfl (hb hby d4_43) _ ?_
            show Steps p.tables e below (T303.setTop (mkF m 44 #[.val (.ref a0), .val (.long q1), .second, .val (.int p2), .val (.int (15 : Int32)), .val (.int (((((own_slot q1 (15 : Int32)) + (1 : Int32)) &&& (15 : Int32)) + (1 : Int32)) &&& (15 : Int32)))] [(.int (own_gi vs (((((own_slot q1 (15 : Int32)) + (1 : Int32)) &&& (15 : Int32)) + (1 : Int32)) &&& (15 : Int32))))])) _
            refine XS.iconst X303.here hx rfl (hb hby d4_44) ?_
            show Steps p.tables e below (T303.setTop (mkF m 45 #[.val (.ref a0), .val (.long q1), .second, .val (.int p2), .val (.int (15 : Int32)), .val (.int (((((own_slot q1 (15 : Int32)) + (1 : Int32)) &&& (15 : Int32)) + (1 : Int32)) &&& (15 : Int32)))] [(.int (-1 : Int32)), (.int (own_gi vs (((((own_slot q1 (15 : Int32)) + (1 : Int32)) &&& (15 : Int32)) + (1 : Int32)) &&& (15 : Int32))))])) _
            refine XS.icmpNo X303.here hx rfl (hb hby d4_45) rfl (teq (hfree hc171 hc217 hc239 hc285)).2 ?_
            show Steps p.tables e below (T303.setTop (mkF m 48 #[.val (.ref a0), .val (.long q1), .second, .val (.int p2), .val (.int (15 : Int32)), .val (.int (((((own_slot q1 (15 : Int32)) + (1 : Int32)) &&& (15 : Int32)) + (1 : Int32)) &&& (15 : Int32)))] [])) _
            refine XS.aloadN X303.here hx rfl (hb hby d4_48) rfl rfl ?_
            show Steps p.tables e below (T303.setTop (mkF m 49 #[.val (.ref a0), .val (.long q1), .second, .val (.int p2), .val (.int (15 : Int32)), .val (.int (((((own_slot q1 (15 : Int32)) + (1 : Int32)) &&& (15 : Int32)) + (1 : Int32)) &&& (15 : Int32)))] [(.ref a0)])) _
            refine st307 _ ?_
            show Steps p.tables e below (T307.setTop (mkF m 52 #[.val (.ref a0), .val (.long q1), .second, .val (.int p2), .val (.int (15 : Int32)), .val (.int (((((own_slot q1 (15 : Int32)) + (1 : Int32)) &&& (15 : Int32)) + (1 : Int32)) &&& (15 : Int32)))] [(.ref bk)])) _
            refine XS.iload X307.here hx rfl (hb hby d4_52) rfl ?_
            show Steps p.tables e below (T307.setTop (mkF m 54 #[.val (.ref a0), .val (.long q1), .second, .val (.int p2), .val (.int (15 : Int32)), .val (.int (((((own_slot q1 (15 : Int32)) + (1 : Int32)) &&& (15 : Int32)) + (1 : Int32)) &&& (15 : Int32)))] [(.int (((((own_slot q1 (15 : Int32)) + (1 : Int32)) &&& (15 : Int32)) + (1 : Int32)) &&& (15 : Int32))), (.ref bk)])) _
            refine XS.lloadN X307.here hx rfl (hb hby d4_54) rfl ?_
            show Steps p.tables e below (T307.setTop (mkF m 55 #[.val (.ref a0), .val (.long q1), .second, .val (.int p2), .val (.int (15 : Int32)), .val (.int (((((own_slot q1 (15 : Int32)) + (1 : Int32)) &&& (15 : Int32)) + (1 : Int32)) &&& (15 : Int32)))] [(.long q1), (.int (((((own_slot q1 (15 : Int32)) + (1 : Int32)) &&& (15 : Int32)) + (1 : Int32)) &&& (15 : Int32))), (.ref bk)])) _
            refine st310 _ ?_
            show Steps p.tables e below (T310.setTop (mkF m 56 #[.val (.ref a0), .val (.long q1), .second, .val (.int p2), .val (.int (15 : Int32)), .val (.int (((((own_slot q1 (15 : Int32)) + (1 : Int32)) &&& (15 : Int32)) + (1 : Int32)) &&& (15 : Int32)))] [])) _
            refine XS.aloadN X310.here hx rfl (hb hby d4_56) rfl rfl ?_
            show Steps p.tables e below (T310.setTop (mkF m 57 #[.val (.ref a0), .val (.long q1), .second, .val (.int p2), .val (.int (15 : Int32)), .val (.int (((((own_slot q1 (15 : Int32)) + (1 : Int32)) &&& (15 : Int32)) + (1 : Int32)) &&& (15 : Int32)))] [(.ref a0)])) _
            refine st320 _ ?_
            show Steps p.tables e below (T320.setTop (mkF m 60 #[.val (.ref a0), .val (.long q1), .second, .val (.int p2), .val (.int (15 : Int32)), .val (.int (((((own_slot q1 (15 : Int32)) + (1 : Int32)) &&& (15 : Int32)) + (1 : Int32)) &&& (15 : Int32)))] [(.ref bv)])) _
            refine XS.iload X320.here hx rfl (hb hby d4_60) rfl ?_
            show Steps p.tables e below (T320.setTop (mkF m 62 #[.val (.ref a0), .val (.long q1), .second, .val (.int p2), .val (.int (15 : Int32)), .val (.int (((((own_slot q1 (15 : Int32)) + (1 : Int32)) &&& (15 : Int32)) + (1 : Int32)) &&& (15 : Int32)))] [(.int (((((own_slot q1 (15 : Int32)) + (1 : Int32)) &&& (15 : Int32)) + (1 : Int32)) &&& (15 : Int32))), (.ref bv)])) _
            refine XS.iloadN X320.here hx rfl (hb hby d4_62) rfl ?_
            show Steps p.tables e below (T320.setTop (mkF m 63 #[.val (.ref a0), .val (.long q1), .second, .val (.int p2), .val (.int (15 : Int32)), .val (.int (((((own_slot q1 (15 : Int32)) + (1 : Int32)) &&& (15 : Int32)) + (1 : Int32)) &&& (15 : Int32)))] [(.int p2), (.int (((((own_slot q1 (15 : Int32)) + (1 : Int32)) &&& (15 : Int32)) + (1 : Int32)) &&& (15 : Int32))), (.ref bv)])) _
            refine st323 _ ?_
            show Steps p.tables e below (T323.setTop (mkF m 64 #[.val (.ref a0), .val (.long q1), .second, .val (.int p2), .val (.int (15 : Int32)), .val (.int (((((own_slot q1 (15 : Int32)) + (1 : Int32)) &&& (15 : Int32)) + (1 : Int32)) &&& (15 : Int32)))] [])) _
            refine XS.aloadN X323.here hx rfl (hb hby d4_64) rfl rfl ?_
            show Steps p.tables e below (T323.setTop (mkF m 65 #[.val (.ref a0), .val (.long q1), .second, .val (.int p2), .val (.int (15 : Int32)), .val (.int (((((own_slot q1 (15 : Int32)) + (1 : Int32)) &&& (15 : Int32)) + (1 : Int32)) &&& (15 : Int32)))] [(.ref a0)])) _
            refine XS.dup X323.here hx rfl (hb hby d4_65) rfl rfl ?_
            show Steps p.tables e below (T323.setTop (mkF m 66 #[.val (.ref a0), .val (.long q1), .second, .val (.int p2), .val (.int (15 : Int32)), .val (.int (((((own_slot q1 (15 : Int32)) + (1 : Int32)) &&& (15 : Int32)) + (1 : Int32)) &&& (15 : Int32)))] [(.ref a0), (.ref a0)])) _
            refine st333 _ ?_
            show Steps p.tables e below (T333.setTop (mkF m 69 #[.val (.ref a0), .val (.long q1), .second, .val (.int p2), .val (.int (15 : Int32)), .val (.int (((((own_slot q1 (15 : Int32)) + (1 : Int32)) &&& (15 : Int32)) + (1 : Int32)) &&& (15 : Int32)))] [(.int sz), (.ref a0)])) _
            refine XS.iconst X333.here hx rfl (hb hby d4_69) ?_
            show Steps p.tables e below (T333.setTop (mkF m 70 #[.val (.ref a0), .val (.long q1), .second, .val (.int p2), .val (.int (15 : Int32)), .val (.int (((((own_slot q1 (15 : Int32)) + (1 : Int32)) &&& (15 : Int32)) + (1 : Int32)) &&& (15 : Int32)))] [(.int (1 : Int32)), (.int sz), (.ref a0)])) _
            refine XS.iadd X333.here hx rfl (hb hby d4_70) rfl ?_
            show Steps p.tables e below (T333.setTop (mkF m 71 #[.val (.ref a0), .val (.long q1), .second, .val (.int p2), .val (.int (15 : Int32)), .val (.int (((((own_slot q1 (15 : Int32)) + (1 : Int32)) &&& (15 : Int32)) + (1 : Int32)) &&& (15 : Int32)))] [(.int (sz + (1 : Int32))), (.ref a0)])) _
            refine st334 _ ?_
            show Steps p.tables e below (T334.setTop (mkF m 74 #[.val (.ref a0), .val (.long q1), .second, .val (.int p2), .val (.int (15 : Int32)), .val (.int (((((own_slot q1 (15 : Int32)) + (1 : Int32)) &&& (15 : Int32)) + (1 : Int32)) &&& (15 : Int32)))] [])) _
            exact X334.returnOut hx Bd.returns (hb hby d4_74) hr
          · show Q4 Z a0 q1 p2 bk bv sz ks vs k_bk k_bv h0 n0 _ T334.heap _
            rw [e334]
            have hp344 : (j4_0 q1 sz ks vs) = (sz + (1 : Int32)) := by unfold j4_0; first | (rw [if_neg hc171, if_neg hc217, if_neg hc239, if_neg hc285]) | (simp only [if_neg hc171, if_neg hc217, if_neg hc239, if_neg hc285])
            have hp345 : (j4_1 q1 ks vs) = (own_sj ks (((((own_slot q1 (15 : Int32)) + (1 : Int32)) &&& (15 : Int32)) + (1 : Int32)) &&& (15 : Int32)) q1) := by unfold j4_1; first | (rw [if_neg hc171, if_neg hc217, if_neg hc239, if_neg hc285]) | (simp only [if_neg hc171, if_neg hc217, if_neg hc239, if_neg hc285])
            have hp346 : (j4_2 q1 p2 ks vs) = (own_si vs (((((own_slot q1 (15 : Int32)) + (1 : Int32)) &&& (15 : Int32)) + (1 : Int32)) &&& (15 : Int32)) p2) := by unfold j4_2; first | (rw [if_neg hc171, if_neg hc217, if_neg hc239, if_neg hc285]) | (simp only [if_neg hc171, if_neg hc217, if_neg hc239, if_neg hc285])
            exact ⟨rfl, N343, K341, f335, f336, f337, (by rw [hp344]; exact f334w), (by rw [hp345]; exact f339), (by rw [hp346]; exact f340)⟩
theorem own_cap {sz : Int32} {N : Nat} (h : N = sz.toNatClampNeg) (h3 : N ≤ 3) : sz.toNatClampNeg ≤ 3 := by omega
theorem own_16 {n : Nat} (h : n < 16) : ¬ own_i n < 0 ∧ own_i n < (16 : Int32) := by
  have e := own_in n (by omega)
  have z0 : (0 : Int32).toInt = 0 := rfl
  have z1 : (16 : Int32).toInt = 16 := rfl
  rw [Int32.lt_iff_toInt_lt, Int32.lt_iff_toInt_lt]; omega
theorem own_ci {sz : Int32} {N k : Nat} (h : N = sz.toNatClampNeg) (hz : ¬ sz < 0) (hk : k < N) : ¬ own_i k < 0 ∧ own_i k < sz := by
  have hl := sz.toInt_lt
  simp only [own_tnc] at h
  have e := own_in k (by omega)
  have z0 : (0 : Int32).toInt = 0 := rfl
  rw [Int32.lt_iff_toInt_lt, Int32.lt_iff_toInt_lt]; omega
theorem own_16le (ks : List Int64) (vs : List Int32) : (own_coll ks vs 16).length ≤ 16 := by
  have : ∀ n, (own_coll ks vs n).length ≤ n := fun n => by
    induction n with
    | zero => exact Nat.le_refl _
    | succ n ih =>
      show (if vs.getD n 0 = (-1 : Int32) then own_coll ks vs n else own_coll ks vs n ++ [ks.getD n 0]).length ≤ n + 1
      split
      · omega
      · rw [List.length_append]; simp only [List.length_cons, List.length_nil]; omega
  exact this 16
theorem own_pad0 (ks : List Int64) (vs : List Int32) (i : Nat) : ((own_res ks vs 0).map Value.long).getD i (.long (0 : Int64)) = ([] : List Value).getD i (.long (0 : Int64)) := by
  unfold own_res
  rw [own_gmj]
  show Value.long ((([] : List Int64) ++ List.replicate _ 0).getD i 0) = _
  rw [List.nil_append, List.getD_eq_getElem?_getD, List.getElem?_replicate]
  split <;> rfl
theorem d6_0 : decode prog_31_method_5_code 0 = .ok (.aload_n 0, 1) := by decide +kernel
theorem d6_1 : decode prog_31_method_5_code 1 = .ok (.getfield 23, 3) := by decide +kernel
theorem d6_4 : decode prog_31_method_5_code 4 = .ok (.newarray .long, 2) := by decide +kernel
theorem d6_6 : decode prog_31_method_5_code 6 = .ok (.astore_n 1, 1) := by decide +kernel
theorem d6_7 : decode prog_31_method_5_code 7 = .ok (.iconst 0, 1) := by decide +kernel
theorem d6_8 : decode prog_31_method_5_code 8 = .ok (.istore_n 2, 1) := by decide +kernel
theorem d6_9 : decode prog_31_method_5_code 9 = .ok (.iconst 0, 1) := by decide +kernel
theorem d6_10 : decode prog_31_method_5_code 10 = .ok (.istore_n 3, 1) := by decide +kernel
theorem d6_11 : decode prog_31_method_5_code 11 = .ok (.iload_n 3, 1) := by decide +kernel
theorem d6_12 : decode prog_31_method_5_code 12 = .ok (.aload_n 0, 1) := by decide +kernel
theorem d6_13 : decode prog_31_method_5_code 13 = .ok (.getfield 7, 3) := by decide +kernel
theorem d6_16 : decode prog_31_method_5_code 16 = .ok (.arraylength, 1) := by decide +kernel
theorem d6_17 : decode prog_31_method_5_code 17 = .ok (.if_icmp .ge 31, 3) := by decide +kernel
theorem d6_20 : decode prog_31_method_5_code 20 = .ok (.aload_n 0, 1) := by decide +kernel
theorem d6_21 : decode prog_31_method_5_code 21 = .ok (.getfield 13, 3) := by decide +kernel
theorem d6_24 : decode prog_31_method_5_code 24 = .ok (.iload_n 3, 1) := by decide +kernel
theorem d6_25 : decode prog_31_method_5_code 25 = .ok (.iaload, 1) := by decide +kernel
theorem d6_26 : decode prog_31_method_5_code 26 = .ok (.iconst (-1), 1) := by decide +kernel
theorem d6_27 : decode prog_31_method_5_code 27 = .ok (.if_icmp .eq 15, 3) := by decide +kernel
theorem d6_42 : decode prog_31_method_5_code 42 = .ok (.iinc 3 1, 3) := by decide +kernel
theorem d6_45 : decode prog_31_method_5_code 45 = .ok (.goto (-34), 3) := by decide +kernel
theorem d6_30 : decode prog_31_method_5_code 30 = .ok (.aload_n 1, 1) := by decide +kernel
theorem d6_31 : decode prog_31_method_5_code 31 = .ok (.iload_n 2, 1) := by decide +kernel
theorem d6_32 : decode prog_31_method_5_code 32 = .ok (.iinc 2 1, 3) := by decide +kernel
theorem d6_35 : decode prog_31_method_5_code 35 = .ok (.aload_n 0, 1) := by decide +kernel
theorem d6_36 : decode prog_31_method_5_code 36 = .ok (.getfield 7, 3) := by decide +kernel
theorem d6_39 : decode prog_31_method_5_code 39 = .ok (.iload_n 3, 1) := by decide +kernel
theorem d6_40 : decode prog_31_method_5_code 40 = .ok (.laload, 1) := by decide +kernel
theorem d6_41 : decode prog_31_method_5_code 41 = .ok (.lastore, 1) := by decide +kernel
theorem d6_48 : decode prog_31_method_5_code 48 = .ok (.aload_n 1, 1) := by decide +kernel
theorem d6_49 : decode prog_31_method_5_code 49 = .ok (.areturn, 1) := by decide +kernel
theorem ef6 (m : MethodId) (x0 : Addr) : entryFrame m #[(.ref x0)] 4 = mkF m 0 #[.val (.ref x0), .unset, .unset, .unset] [] := by first | (simp [entryFrame, mkF, argsToLocals, Value.category]; done) | rfl
abbrev rr6 : Room := { frames := 0, cells := 1, slots := 3, locals := 0 }
def Q6 (Z : State) (a0 : Addr) (bk : Addr) (bv : Addr) (sz : Int32) (ks : List Int64) (vs : List Int32) (k_bk : ClassId) (k_bv : ClassId) (h0 : Heap) (n0 : Nat) (v : Option Value) (h : Heap) (L : List Loc) : Prop := ∃ (x0 : Addr) (y0 : ClassId), v = some (.ref x0) ∧ Fr n0 L ∧ Keep h0 h [] ∧ n0 ≤ x0 ∧ h0.size ≤ x0 ∧ Arv Z h x0 y0 .long sz ((own_res ks vs 16).map Value.long) (.long (0 : Int64))
set_option maxRecDepth 65536 in
set_option maxHeartbeats 40000000 in
theorem rm6 (l : Launch) (Z : State) (aw : Array Value) (hw : ∀ d ∈ tables_1, d.before aw Z = true) (ws : List Jvm.Cond) (a0 : Addr) (bk : Addr) (bv : Addr) (sz : Int32) (ks : List Int64) (vs : List Int32) (k_bk : ClassId) (k_bv : ClassId) (h0 : Heap) (n0 : Nat) (Z0 : n0 ≤ h0.size) (E_a0 : Exa Z h0 a0 "com/example/pathfield/pathfield/query/LongIntMap") (F_keys_a0 : Fld Z h0 a0 "com/example/pathfield/pathfield/query/LongIntMap" "keys" "[J" (.ref bk)) (F_values_a0 : Fld Z h0 a0 "com/example/pathfield/pathfield/query/LongIntMap" "values" "[I" (.ref bv)) (F_size_a0 : Fld Z h0 a0 "com/example/pathfield/pathfield/query/LongIntMap" "size" "I" (.int sz)) (V_bk : Arv Z h0 bk k_bk .long (16 : Int32) (ks.map Value.long) (.long (0 : Int64))) (V_bv : Arv Z h0 bv k_bv .int (16 : Int32) (vs.map Value.int) (.int (0 : Int32))) (hcl : (own_coll ks vs 16).length = sz.toNatClampNeg) (hz : ¬ sz < (0 : Int32)) (h3 : (own_coll ks vs 16).length ≤ 3) :
    MetFree l (⟨"com/example/pathfield/pathfield/query/LongIntMap", "keys", "()[J"⟩ : MethodName) (head1 (Jvm.Cond.code (⟨"com/example/pathfield/pathfield/query/LongIntMap", "keys", "()[J"⟩ : MethodName) prog_31_method_5_code 4 (some (.array .long)) :: ws) rr6) (fun a U => a = #[(.ref a0)] ∧ Z.Warmed39 U.vm ∧ U.heap = h0) (fun _ _ _ _ _ => True) (fun _ U o U' => ∃ v L, o = .returned v ∧ Q6 Z a0 bk bv sz ks vs k_bk k_bv h0 n0 v U'.heap L ∧ FrameEnd U o U' L rr6.cells rr6.slots) := by
  refine MetFree.of_bodySF (plainFor_of_name pn_2) hisR ?_
  intro p e s m args below meth c s₁ Bd hml0 hP hK
  obtain ⟨rfl, hZ, hh⟩ := hP
  have hx := Bd.exec
  have hby := Bd.bytes
  have hml : c.maxLocals = 4 := hml0
  have hown : s.vm.findClass "com/example/pathfield/pathfield/query/LongIntMap" = some m.cls := findClass_of_methodNamed Bd.named
  have hnm := (name_of_methodNamed Bd.named Bd.method).1
  have X0 : Stand p l e rr6 s m #[(.ref a0)] below meth c s₁ [] 0 0 := Stand.of_body Bd
  have e0 : s₁.heap = h0 := by rw [← hh, Bd.state]; rfl
  have N0 := Fr.nil n0
  have K0 := Keep.refl h0 []
  have pre0 : ∀ t, Steps p.tables e below (s₁.setTop (mkF m 0 #[.val (.ref a0), .unset, .unset, .unset] [])) t → Steps p.tables e below (s₁.setTop (entryFrame m #[(.ref a0)] 4)) t := fun t k => castTop (ef6 m a0) k
  obtain ⟨T347, X347, e347, st347⟩ := getF X0 hx hZ hown (host := "") (Or.inl (hw _ (List.mem_of_getElem? (i := 25) rfl))) Via.refl e0 F_size_a0 (g := (mkF m 1 #[.val (.ref a0), .unset, .unset, .unset] [(.ref a0)])) rfl rfl (hb hby d6_1)
  obtain ⟨T348, h348, k348, X348, e348, E348, A348, st348⟩ := newP X347 hx hZ (hw _ (List.mem_of_getElem? (i := 1) rfl)) e347 (g := (mkF m 4 #[.val (.ref a0), .unset, .unset, .unset] [(.int sz)])) rfl (hb hby d6_4) rfl hz (cap := 3) (own_cap hcl h3) (by decide) (by decide) (by decide)
  obtain ⟨b348, gg348⟩ : ∃ z, z = h0.size := ⟨_, rfl⟩
  rw [← gg348] at A348 st348
  have f349 := E_a0.ext E348
  have f350 := F_keys_a0.ext E348
  have f351 := F_values_a0.ext E348
  have f352 := F_size_a0.ext E348
  have f353 := V_bk.ext E348
  have f354 := V_bv.ext E348
  have ne355 : a0 ≠ b348 := Nat.ne_of_lt (Nat.lt_of_lt_of_le E_a0.lt (Nat.le_of_eq gg348.symm))
  have ne356 : bk ≠ b348 := Nat.ne_of_lt (Nat.lt_of_lt_of_le V_bk.lt (Nat.le_of_eq gg348.symm))
  have ne357 : bv ≠ b348 := Nat.ne_of_lt (Nat.lt_of_lt_of_le V_bv.lt (Nat.le_of_eq gg348.symm))
  have g_b348 : n0 ≤ b348 := Nat.le_trans Z0 (Nat.le_of_eq gg348.symm)
  have sz_b348 : h0.size ≤ b348 := Nat.le_trans K0.1 (Nat.le_of_eq gg348.symm)
  have K358 := K0.ext E348
  have Z359 := Nat.le_trans Z0 E348.1
  have V348 : Arv Z h348 b348 k348 .long sz [] (.long (0 : Int64)) := Arv.new A348 hz
  have pre360 := fun (t : State) (k : Steps p.tables e below (T348.setTop (mkF m 11 #[.val (.ref a0), .val (.ref b348), .val (.int (0 : Int32)), .val (.int (0 : Int32))] [])) t) => pre0 t (by
    show Steps p.tables e below (s₁.setTop (mkF m 0 #[.val (.ref a0), .unset, .unset, .unset] [])) _
    refine XS.aloadN X0.here hx rfl (hb hby d6_0) rfl rfl ?_
    show Steps p.tables e below (s₁.setTop (mkF m 1 #[.val (.ref a0), .unset, .unset, .unset] [(.ref a0)])) _
    refine st347 _ ?_
    show Steps p.tables e below (T347.setTop (mkF m 4 #[.val (.ref a0), .unset, .unset, .unset] [(.int sz)])) _
    refine st348 _ ?_
    show Steps p.tables e below (T348.setTop (mkF m 6 #[.val (.ref a0), .unset, .unset, .unset] [(.ref b348)])) _
    refine XS.astoreN X348.here hx rfl (hb hby d6_6) rfl rfl (l' := #[.val (.ref a0), .val (.ref b348), .unset, .unset]) rfl ?_
    show Steps p.tables e below (T348.setTop (mkF m 7 #[.val (.ref a0), .val (.ref b348), .unset, .unset] [])) _
    refine XS.iconst X348.here hx rfl (hb hby d6_7) ?_
    show Steps p.tables e below (T348.setTop (mkF m 8 #[.val (.ref a0), .val (.ref b348), .unset, .unset] [(.int (0 : Int32))])) _
    refine XS.istoreN X348.here hx rfl (hb hby d6_8) rfl (l' := #[.val (.ref a0), .val (.ref b348), .val (.int (0 : Int32)), .unset]) rfl ?_
    show Steps p.tables e below (T348.setTop (mkF m 9 #[.val (.ref a0), .val (.ref b348), .val (.int (0 : Int32)), .unset] [])) _
    refine XS.iconst X348.here hx rfl (hb hby d6_9) ?_
    show Steps p.tables e below (T348.setTop (mkF m 10 #[.val (.ref a0), .val (.ref b348), .val (.int (0 : Int32)), .unset] [(.int (0 : Int32))])) _
    refine XS.istoreN X348.here hx rfl (hb hby d6_10) rfl (l' := #[.val (.ref a0), .val (.ref b348), .val (.int (0 : Int32)), .val (.int (0 : Int32))]) rfl ?_
    exact k)
  have lp361 : ∀ d n : Nat, n + d = 16 → ∀ (T : State) (h : Heap) (L : List Loc), Stand p l e rr6 s m #[(.ref a0)] below meth c T L 1 3 → T.heap = h → Fr n0 L → n0 ≤ h.size → Keep h0 h [] → Exa Z h a0 "com/example/pathfield/pathfield/query/LongIntMap" → Fld Z h a0 "com/example/pathfield/pathfield/query/LongIntMap" "keys" "[J" (.ref bk) → Fld Z h a0 "com/example/pathfield/pathfield/query/LongIntMap" "values" "[I" (.ref bv) → Fld Z h a0 "com/example/pathfield/pathfield/query/LongIntMap" "size" "I" (.int sz) → Arv Z h bk k_bk .long (16 : Int32) (ks.map Value.long) (.long (0 : Int64)) → Arv Z h bv k_bv .int (16 : Int32) (vs.map Value.int) (.int (0 : Int32)) → Arv Z h b348 k348 .long sz ((own_res ks vs n).map Value.long) (.long (0 : Int64)) → ∃ (T' : State) (h' : Heap) (L' : List Loc), Stand p l e rr6 s m #[(.ref a0)] below meth c T' L' 1 3 ∧ T'.heap = h' ∧ Fr n0 L' ∧ n0 ≤ h'.size ∧ Keep h0 h' [] ∧ Exa Z h' a0 "com/example/pathfield/pathfield/query/LongIntMap" ∧ Fld Z h' a0 "com/example/pathfield/pathfield/query/LongIntMap" "keys" "[J" (.ref bk) ∧ Fld Z h' a0 "com/example/pathfield/pathfield/query/LongIntMap" "values" "[I" (.ref bv) ∧ Fld Z h' a0 "com/example/pathfield/pathfield/query/LongIntMap" "size" "I" (.int sz) ∧ Arv Z h' bk k_bk .long (16 : Int32) (ks.map Value.long) (.long (0 : Int64)) ∧ Arv Z h' bv k_bv .int (16 : Int32) (vs.map Value.int) (.int (0 : Int32)) ∧ Arv Z h' b348 k348 .long sz ((own_res ks vs 16).map Value.long) (.long (0 : Int64)) ∧ ∀ t, Steps p.tables e below (T'.setTop (mkF m 11 #[.val (.ref a0), .val (.ref b348), .val (.int (own_i (own_coll ks vs 16).length)), .val (.int (own_i 16))] [])) t → Steps p.tables e below (T.setTop (mkF m 11 #[.val (.ref a0), .val (.ref b348), .val (.int (own_i (own_coll ks vs n).length)), .val (.int (own_i n))] [])) t := by
    intro d
    induction d with
    | zero =>
      intro n hn T h L X361 e361 N361 Z361 K361 fl361_0 fl361_1 fl361_2 fl361_3 fl361_4 fl361_5 fl361_6
      have hn' : n = 16 := by omega
      subst hn'
      exact ⟨T, h, L, X361, e361, N361, Z361, K361, fl361_0, fl361_1, fl361_2, fl361_3, fl361_4, fl361_5, fl361_6, fun t k => k⟩
    | succ d ih =>
      intro n hn T h L X361 e361 N361 Z361 K361 fl361_0 fl361_1 fl361_2 fl361_3 fl361_4 fl361_5 fl361_6
      have hnN : n < 16 := by omega
      have preL361 : ∀ t, Steps p.tables e below (T.setTop (mkF m 11 #[.val (.ref a0), .val (.ref b348), .val (.int (own_i (own_coll ks vs n).length)), .val (.int (own_i n))] [])) t → Steps p.tables e below (T.setTop (mkF m 11 #[.val (.ref a0), .val (.ref b348), .val (.int (own_i (own_coll ks vs n).length)), .val (.int (own_i n))] [])) t := fun t k => k
      obtain ⟨T362, X362, e362, st362⟩ := getF X361 hx hZ hown (host := "") (Or.inl (hw _ (List.mem_of_getElem? (i := 11) rfl))) Via.refl e361 fl361_1 (g := (mkF m 13 #[.val (.ref a0), .val (.ref b348), .val (.int (own_i (own_coll ks vs n).length)), .val (.int (own_i n))] [(.ref a0), (.int (own_i n))])) rfl rfl (hb hby d6_13)
      obtain ⟨cl363, Ar363, q363, S363, M363, H363, G363⟩ := id fl361_4
      obtain ⟨T364, X364, e364, st364⟩ := getF X362 hx hZ hown (host := "") (Or.inl (hw _ (List.mem_of_getElem? (i := 14) rfl))) Via.refl e362 fl361_2 (g := (mkF m 21 #[.val (.ref a0), .val (.ref b348), .val (.int (own_i (own_coll ks vs n).length)), .val (.int (own_i n))] [(.ref a0)])) rfl rfl (hb hby d6_21)
      obtain ⟨cl365, Ar365, q365, S365, M365, H365, G365⟩ := id fl361_5
      have hin366 : ¬ ((own_i n) < 0 ∨ cl365.slots.size ≤ ((own_i n)).toNatClampNeg) := inb_of S365 (own_16 hnN)
      have hat367 : cl365.slots[((own_i n)).toNatClampNeg]? = some (.int (vs.getD n 0)) := H365.at hin366 (by rw [own_tn n (by omega)]; exact own_gmi _ _)
      have pre369 := fun (t : State) (k : Steps p.tables e below (T364.setTop (mkF m 27 #[.val (.ref a0), .val (.ref b348), .val (.int (own_i (own_coll ks vs n).length)), .val (.int (own_i n))] [(.int (-1 : Int32)), (.int (vs.getD n 0))])) t) => preL361 t (by
        show Steps p.tables e below (T.setTop (mkF m 11 #[.val (.ref a0), .val (.ref b348), .val (.int (own_i (own_coll ks vs n).length)), .val (.int (own_i n))] [])) _
        refine XS.iloadN X361.here hx rfl (hb hby d6_11) rfl ?_
        show Steps p.tables e below (T.setTop (mkF m 12 #[.val (.ref a0), .val (.ref b348), .val (.int (own_i (own_coll ks vs n).length)), .val (.int (own_i n))] [(.int (own_i n))])) _
        refine XS.aloadN X361.here hx rfl (hb hby d6_12) rfl rfl ?_
        show Steps p.tables e below (T.setTop (mkF m 13 #[.val (.ref a0), .val (.ref b348), .val (.int (own_i (own_coll ks vs n).length)), .val (.int (own_i n))] [(.ref a0), (.int (own_i n))])) _
        refine st362 _ ?_
        show Steps p.tables e below (T362.setTop (mkF m 16 #[.val (.ref a0), .val (.ref b348), .val (.int (own_i (own_coll ks vs n).length)), .val (.int (own_i n))] [(.ref bk), (.int (own_i n))])) _
        refine X362.arraylength hx (by rw [e362]; exact Ar363.1) (State.isArrayOf_alike hZ.alike Ar363.2.1) (g := (mkF m 16 #[.val (.ref a0), .val (.ref b348), .val (.int (own_i (own_coll ks vs n).length)), .val (.int (own_i n))] [(.ref bk), (.int (own_i n))])) rfl rfl (hb hby d6_16) _ ?_
        rw [len_of S363 M363]
        show Steps p.tables e below (T362.setTop (mkF m 17 #[.val (.ref a0), .val (.ref b348), .val (.int (own_i (own_coll ks vs n).length)), .val (.int (own_i n))] [(.int (16 : Int32)), (.int (own_i n))])) _
        refine XS.icmpNo X362.here hx rfl (hb hby d6_17) rfl (tlt (own_16 hnN).2).2.1 ?_
        show Steps p.tables e below (T362.setTop (mkF m 20 #[.val (.ref a0), .val (.ref b348), .val (.int (own_i (own_coll ks vs n).length)), .val (.int (own_i n))] [])) _
        refine XS.aloadN X362.here hx rfl (hb hby d6_20) rfl rfl ?_
        show Steps p.tables e below (T362.setTop (mkF m 21 #[.val (.ref a0), .val (.ref b348), .val (.int (own_i (own_coll ks vs n).length)), .val (.int (own_i n))] [(.ref a0)])) _
        refine st364 _ ?_
        show Steps p.tables e below (T364.setTop (mkF m 24 #[.val (.ref a0), .val (.ref b348), .val (.int (own_i (own_coll ks vs n).length)), .val (.int (own_i n))] [(.ref bv)])) _
        refine XS.iloadN X364.here hx rfl (hb hby d6_24) rfl ?_
        show Steps p.tables e below (T364.setTop (mkF m 25 #[.val (.ref a0), .val (.ref b348), .val (.int (own_i (own_coll ks vs n).length)), .val (.int (own_i n))] [(.int (own_i n)), (.ref bv)])) _
        refine X364.iaload hx (j := (own_i n)) (v := (.int (vs.getD n 0))) (by rw [e364]; exact Ar365.1) (State.isArrayOf_alike hZ.alike Ar365.2.1) Ar365.2.2 hin366 hat367 (g := (mkF m 25 #[.val (.ref a0), .val (.ref b348), .val (.int (own_i (own_coll ks vs n).length)), .val (.int (own_i n))] [(.int (own_i n)), (.ref bv)])) rfl rfl (hb hby d6_25) _ ?_
        show Steps p.tables e below (T364.setTop (mkF m 26 #[.val (.ref a0), .val (.ref b348), .val (.int (own_i (own_coll ks vs n).length)), .val (.int (own_i n))] [(.int (vs.getD n 0))])) _
        refine XS.iconst X364.here hx rfl (hb hby d6_26) ?_
        exact k)
      by_cases hc368 : (vs.getD n 0) = (-1 : Int32)
      · skip
        have pre370 := fun (t : State) (k : Steps p.tables e below (T364.setTop (mkF m 11 #[.val (.ref a0), .val (.ref b348), .val (.int (own_i (own_coll ks vs n).length)), .val (.int ((own_i n) + (1 : Int32)))] [])) t) => pre369 t (by
          show Steps p.tables e below (T364.setTop (mkF m 27 #[.val (.ref a0), .val (.ref b348), .val (.int (own_i (own_coll ks vs n).length)), .val (.int (own_i n))] [(.int (-1 : Int32)), (.int (vs.getD n 0))])) _
          refine XS.icmpYes X364.here hx rfl (pc0 := 27) (pc' := 42) rfl (hb hby d6_27) rfl (teq hc368).1 (by decide) (by decide) ?_
          show Steps p.tables e below (T364.setTop (mkF m 42 #[.val (.ref a0), .val (.ref b348), .val (.int (own_i (own_coll ks vs n).length)), .val (.int (own_i n))] [])) _
          refine XS.iinc X364.here hx rfl (hb hby d6_42) rfl (l' := #[.val (.ref a0), .val (.ref b348), .val (.int (own_i (own_coll ks vs n).length)), .val (.int ((own_i n) + (1 : Int32)))]) rfl ?_
          show Steps p.tables e below (T364.setTop (mkF m 45 #[.val (.ref a0), .val (.ref b348), .val (.int (own_i (own_coll ks vs n).length)), .val (.int ((own_i n) + (1 : Int32)))] [])) _
          refine XS.goto X364.here hx rfl (pc0 := 45) (pc' := 11) rfl (hb hby d6_45) (by decide) (by decide) ?_
          exact k)
        have hcl1 : own_coll ks vs (n + 1) = own_coll ks vs n := if_pos hc368
        obtain ⟨T', h', L', y0, y1, y2, y3, y4, y5, y6, y7, y8, y9, y10, y11, stl⟩ := ih (n + 1) (by omega) T364 h _ X364 e364 N361 Z361 K361 fl361_0 fl361_1 fl361_2 fl361_3 fl361_4 fl361_5 (by unfold own_res; rw [hcl1]; exact fl361_6)
        exact ⟨T', h', L', y0, y1, y2, y3, y4, y5, y6, y7, y8, y9, y10, y11, fun t k => pre370 t (by have k := stl t k; rw [hcl1] at k; exact k)⟩
      · skip
        obtain ⟨T371, X371, e371, st371⟩ := getF X364 hx hZ hown (host := "") (Or.inl (hw _ (List.mem_of_getElem? (i := 11) rfl))) Via.refl e364 fl361_1 (g := (mkF m 36 #[.val (.ref a0), .val (.ref b348), .val (.int ((own_i (own_coll ks vs n).length) + (1 : Int32))), .val (.int (own_i n))] [(.ref a0), (.int (own_i (own_coll ks vs n).length)), (.ref b348)])) rfl rfl (hb hby d6_36)
        obtain ⟨cl372, Ar372, q372, S372, M372, H372, G372⟩ := id fl361_4
        have hin373 : ¬ ((own_i n) < 0 ∨ cl372.slots.size ≤ ((own_i n)).toNatClampNeg) := inb_of S372 (own_16 hnN)
        have hat374 : cl372.slots[((own_i n)).toNatClampNeg]? = some (.long (ks.getD n 0)) := H372.at hin373 (by rw [own_tn n (by omega)]; exact own_gmj _ _)
        obtain ⟨cl375, Ar375, q375, S375, M375, H375, G375⟩ := id fl361_6
        have hin376 : ¬ ((own_i (own_coll ks vs n).length) < 0 ∨ cl375.slots.size ≤ ((own_i (own_coll ks vs n).length)).toNatClampNeg) := inb_of S375 (own_ci hcl hz (own_rlen ks vs n hnN hc368).1)
        obtain ⟨T377, h377, X377, e377, W377, st377⟩ := stJ X371 hx hZ e371 Ar375 (j := (own_i (own_coll ks vs n).length)) hin376 (g := (mkF m 41 #[.val (.ref a0), .val (.ref b348), .val (.int ((own_i (own_coll ks vs n).length) + (1 : Int32))), .val (.int (own_i n))] [(.long (ks.getD n 0)), (.int (own_i (own_coll ks vs n).length)), (.ref b348)])) rfl rfl (hb hby d6_41)
        have V377 : Arv Z h377 b348 k348 .long sz ((own_res ks vs (n + 1)).map Value.long) (.long (0 : Int64)) := by rw [own_res_set ks vs n hnN hc368, List.map_set]; exact Arv.set Ar375 q375 S375 M375 H375 G375 rfl W377 _ (own_tn _ (by have := (own_rlen ks vs n hnN hc368).1; have := own_16le ks vs; omega)) (by rw [List.length_map]; exact (own_rlen ks vs n hnN hc368).2)
        have f378 := fl361_0.wr W377
        have f379 := fl361_1.other W377 (Or.inl ne355)
        have f380 := fl361_2.other W377 (Or.inl ne355)
        have f381 := fl361_3.other W377 (Or.inl ne355)
        have f382 := fl361_4.other W377 ne356
        have f383 := fl361_5.other W377 ne357
        have K385 := K361.wr W377 (Or.inr sz_b348)
        have Z386 := Nat.le_trans Z361 (Keep.of_wr W377).1
        have N387 := Fr.snoc X377 N361 g_b348
        have pre388 := fun (t : State) (k : Steps p.tables e below (T377.setTop (mkF m 11 #[.val (.ref a0), .val (.ref b348), .val (.int ((own_i (own_coll ks vs n).length) + (1 : Int32))), .val (.int ((own_i n) + (1 : Int32)))] [])) t) => pre369 t (by
          show Steps p.tables e below (T364.setTop (mkF m 27 #[.val (.ref a0), .val (.ref b348), .val (.int (own_i (own_coll ks vs n).length)), .val (.int (own_i n))] [(.int (-1 : Int32)), (.int (vs.getD n 0))])) _
          refine XS.icmpNo X364.here hx rfl (hb hby d6_27) rfl (feq hc368).1 ?_
          show Steps p.tables e below (T364.setTop (mkF m 30 #[.val (.ref a0), .val (.ref b348), .val (.int (own_i (own_coll ks vs n).length)), .val (.int (own_i n))] [])) _
          refine XS.aloadN X364.here hx rfl (hb hby d6_30) rfl rfl ?_
          show Steps p.tables e below (T364.setTop (mkF m 31 #[.val (.ref a0), .val (.ref b348), .val (.int (own_i (own_coll ks vs n).length)), .val (.int (own_i n))] [(.ref b348)])) _
          refine XS.iloadN X364.here hx rfl (hb hby d6_31) rfl ?_
          show Steps p.tables e below (T364.setTop (mkF m 32 #[.val (.ref a0), .val (.ref b348), .val (.int (own_i (own_coll ks vs n).length)), .val (.int (own_i n))] [(.int (own_i (own_coll ks vs n).length)), (.ref b348)])) _
          refine XS.iinc X364.here hx rfl (hb hby d6_32) rfl (l' := #[.val (.ref a0), .val (.ref b348), .val (.int ((own_i (own_coll ks vs n).length) + (1 : Int32))), .val (.int (own_i n))]) rfl ?_
          show Steps p.tables e below (T364.setTop (mkF m 35 #[.val (.ref a0), .val (.ref b348), .val (.int ((own_i (own_coll ks vs n).length) + (1 : Int32))), .val (.int (own_i n))] [(.int (own_i (own_coll ks vs n).length)), (.ref b348)])) _
          refine XS.aloadN X364.here hx rfl (hb hby d6_35) rfl rfl ?_
          show Steps p.tables e below (T364.setTop (mkF m 36 #[.val (.ref a0), .val (.ref b348), .val (.int ((own_i (own_coll ks vs n).length) + (1 : Int32))), .val (.int (own_i n))] [(.ref a0), (.int (own_i (own_coll ks vs n).length)), (.ref b348)])) _
          refine st371 _ ?_
          show Steps p.tables e below (T371.setTop (mkF m 39 #[.val (.ref a0), .val (.ref b348), .val (.int ((own_i (own_coll ks vs n).length) + (1 : Int32))), .val (.int (own_i n))] [(.ref bk), (.int (own_i (own_coll ks vs n).length)), (.ref b348)])) _
          refine XS.iloadN X371.here hx rfl (hb hby d6_39) rfl ?_
          show Steps p.tables e below (T371.setTop (mkF m 40 #[.val (.ref a0), .val (.ref b348), .val (.int ((own_i (own_coll ks vs n).length) + (1 : Int32))), .val (.int (own_i n))] [(.int (own_i n)), (.ref bk), (.int (own_i (own_coll ks vs n).length)), (.ref b348)])) _
          refine X371.laload hx (j := (own_i n)) (v := (.long (ks.getD n 0))) (by rw [e371]; exact Ar372.1) (State.isArrayOf_alike hZ.alike Ar372.2.1) Ar372.2.2 hin373 hat374 (g := (mkF m 40 #[.val (.ref a0), .val (.ref b348), .val (.int ((own_i (own_coll ks vs n).length) + (1 : Int32))), .val (.int (own_i n))] [(.int (own_i n)), (.ref bk), (.int (own_i (own_coll ks vs n).length)), (.ref b348)])) rfl rfl (hb hby d6_40) _ ?_
          show Steps p.tables e below (T371.setTop (mkF m 41 #[.val (.ref a0), .val (.ref b348), .val (.int ((own_i (own_coll ks vs n).length) + (1 : Int32))), .val (.int (own_i n))] [(.long (ks.getD n 0)), (.int (own_i (own_coll ks vs n).length)), (.ref b348)])) _
          refine st377 _ ?_
          show Steps p.tables e below (T377.setTop (mkF m 42 #[.val (.ref a0), .val (.ref b348), .val (.int ((own_i (own_coll ks vs n).length) + (1 : Int32))), .val (.int (own_i n))] [])) _
          refine XS.iinc X377.here hx rfl (hb hby d6_42) rfl (l' := #[.val (.ref a0), .val (.ref b348), .val (.int ((own_i (own_coll ks vs n).length) + (1 : Int32))), .val (.int ((own_i n) + (1 : Int32)))]) rfl ?_
          show Steps p.tables e below (T377.setTop (mkF m 45 #[.val (.ref a0), .val (.ref b348), .val (.int ((own_i (own_coll ks vs n).length) + (1 : Int32))), .val (.int ((own_i n) + (1 : Int32)))] [])) _
          refine XS.goto X377.here hx rfl (pc0 := 45) (pc' := 11) rfl (hb hby d6_45) (by decide) (by decide) ?_
          exact k)
        have hcl1 : (own_coll ks vs (n + 1)).length = (own_coll ks vs n).length + 1 := by rw [show own_coll ks vs (n + 1) = own_coll ks vs n ++ [ks.getD n 0] from if_neg hc368]; simp
        obtain ⟨T', h', L', y0, y1, y2, y3, y4, y5, y6, y7, y8, y9, y10, y11, stl⟩ := ih (n + 1) (by omega) T377 h377 _ X377 e377 N387 Z386 K385 f378 f379 f380 f381 f382 f383 V377
        exact ⟨T', h', L', y0, y1, y2, y3, y4, y5, y6, y7, y8, y9, y10, y11, fun t k => pre388 t (by have k := stl t k; rw [hcl1] at k; exact k)⟩
  obtain ⟨T389, h389, L389, X389, e389, N389, Z389, K389, fl389_0, fl389_1, fl389_2, fl389_3, fl389_4, fl389_5, fl389_6, st389⟩ := lp361 16 0 (Nat.zero_add _) T348 h348 _ X348 e348 N0 Z359 K358 f349 f350 f351 f352 f353 f354 (V348.pad (by intro i; exact own_pad0 ks vs i))
  have pre390 := fun (t : State) (k : Steps p.tables e below (T389.setTop (mkF m 11 #[.val (.ref a0), .val (.ref b348), .val (.int (own_i (own_coll ks vs 16).length)), .val (.int (own_i 16))] [])) t) => pre360 t (st389 t k)
  obtain ⟨T391, X391, e391, st391⟩ := getF X389 hx hZ hown (host := "") (Or.inl (hw _ (List.mem_of_getElem? (i := 11) rfl))) Via.refl e389 fl389_1 (g := (mkF m 13 #[.val (.ref a0), .val (.ref b348), .val (.int (own_i (own_coll ks vs 16).length)), .val (.int (own_i 16))] [(.ref a0), (.int (own_i 16))])) rfl rfl (hb hby d6_13)
  obtain ⟨cl392, Ar392, q392, S392, M392, H392, G392⟩ := id fl389_4
  obtain ⟨fs, hr, hrun, hended, hW, hsame⟩ := X391.leave (v := some (.ref b348)) (fun h => by rw [Bd.returns] at h; cases h) (BodyLoose.notSynchronized Bd)
  refine ⟨_, _, pre390 _ ?_, hrun, hended, _, _, rfl, ?_, ⟨_, rfl⟩, hW, hsame.mono (by decide) (by decide)⟩
  · skip
    show Steps p.tables e below (T389.setTop (mkF m 11 #[.val (.ref a0), .val (.ref b348), .val (.int (own_i (own_coll ks vs 16).length)), .val (.int (own_i 16))] [])) _
    refine XS.iloadN X389.here hx rfl (hb hby d6_11) rfl ?_
    show Steps p.tables e below (T389.setTop (mkF m 12 #[.val (.ref a0), .val (.ref b348), .val (.int (own_i (own_coll ks vs 16).length)), .val (.int (own_i 16))] [(.int (own_i 16))])) _
    refine XS.aloadN X389.here hx rfl (hb hby d6_12) rfl rfl ?_
    show Steps p.tables e below (T389.setTop (mkF m 13 #[.val (.ref a0), .val (.ref b348), .val (.int (own_i (own_coll ks vs 16).length)), .val (.int (own_i 16))] [(.ref a0), (.int (own_i 16))])) _
    refine st391 _ ?_
    show Steps p.tables e below (T391.setTop (mkF m 16 #[.val (.ref a0), .val (.ref b348), .val (.int (own_i (own_coll ks vs 16).length)), .val (.int (own_i 16))] [(.ref bk), (.int (own_i 16))])) _
    refine X391.arraylength hx (by rw [e391]; exact Ar392.1) (State.isArrayOf_alike hZ.alike Ar392.2.1) (g := (mkF m 16 #[.val (.ref a0), .val (.ref b348), .val (.int (own_i (own_coll ks vs 16).length)), .val (.int (own_i 16))] [(.ref bk), (.int (own_i 16))])) rfl rfl (hb hby d6_16) _ ?_
    rw [len_of S392 M392]
    show Steps p.tables e below (T391.setTop (mkF m 17 #[.val (.ref a0), .val (.ref b348), .val (.int (own_i (own_coll ks vs 16).length)), .val (.int (own_i 16))] [(.int (16 : Int32)), (.int (own_i 16))])) _
    refine XS.icmpYes X391.here hx rfl (pc0 := 17) (pc' := 48) rfl (hb hby d6_17) rfl (flt (by decide : ¬ own_i 16 < (16 : Int32))).2.1 (by decide) (by decide) ?_
    show Steps p.tables e below (T391.setTop (mkF m 48 #[.val (.ref a0), .val (.ref b348), .val (.int (own_i (own_coll ks vs 16).length)), .val (.int (own_i 16))] [])) _
    refine XS.aloadN X391.here hx rfl (hb hby d6_48) rfl rfl ?_
    show Steps p.tables e below (T391.setTop (mkF m 49 #[.val (.ref a0), .val (.ref b348), .val (.int (own_i (own_coll ks vs 16).length)), .val (.int (own_i 16))] [(.ref b348)])) _
    exact retOut X391 hx Bd.returns rfl (Or.inr (Or.inr (Or.inr (Or.inr ⟨rfl, rfl, rfl⟩)))) (hb hby d6_49) hr
  · show Q6 Z a0 bk bv sz ks vs k_bk k_bv h0 n0 _ T391.heap _
    rw [e391]
    exact ⟨b348, k348, rfl, N389, K389, g_b348, sz_b348, fl389_6⟩
theorem d7_0 : decode method_2_code 0 = .ok (.aload_n 0, 1) := by decide +kernel
theorem d7_1 : decode method_2_code 1 = .ok (.arraylength, 1) := by decide +kernel
theorem d7_2 : decode method_2_code 2 = .ok (.ifCond .le 11, 3) := by decide +kernel
theorem d7_5 : decode method_2_code 5 = .ok (.aload_n 0, 1) := by decide +kernel
theorem d7_6 : decode method_2_code 6 = .ok (.iconst 0, 1) := by decide +kernel
theorem d7_7 : decode method_2_code 7 = .ok (.laload, 1) := by decide +kernel
theorem d7_8 : decode method_2_code 8 = .ok (.lload_n 1, 1) := by decide +kernel
theorem d7_9 : decode method_2_code 9 = .ok (.lcmp, 1) := by decide +kernel
theorem d7_10 : decode method_2_code 10 = .ok (.ifCond .eq 31, 3) := by decide +kernel
theorem d7_41 : decode method_2_code 41 = .ok (.iconst 1, 1) := by decide +kernel
theorem d7_42 : decode method_2_code 42 = .ok (.goto 4, 3) := by decide +kernel
theorem d7_13 : decode method_2_code 13 = .ok (.aload_n 0, 1) := by decide +kernel
theorem d7_14 : decode method_2_code 14 = .ok (.arraylength, 1) := by decide +kernel
theorem d7_15 : decode method_2_code 15 = .ok (.iconst 1, 1) := by decide +kernel
theorem d7_16 : decode method_2_code 16 = .ok (.if_icmp .le 11, 3) := by decide +kernel
theorem d7_19 : decode method_2_code 19 = .ok (.aload_n 0, 1) := by decide +kernel
theorem d7_20 : decode method_2_code 20 = .ok (.iconst 1, 1) := by decide +kernel
theorem d7_21 : decode method_2_code 21 = .ok (.laload, 1) := by decide +kernel
theorem d7_22 : decode method_2_code 22 = .ok (.lload_n 1, 1) := by decide +kernel
theorem d7_23 : decode method_2_code 23 = .ok (.lcmp, 1) := by decide +kernel
theorem d7_24 : decode method_2_code 24 = .ok (.ifCond .eq 17, 3) := by decide +kernel
theorem d7_27 : decode method_2_code 27 = .ok (.aload_n 0, 1) := by decide +kernel
theorem d7_28 : decode method_2_code 28 = .ok (.arraylength, 1) := by decide +kernel
theorem d7_29 : decode method_2_code 29 = .ok (.iconst 2, 1) := by decide +kernel
theorem d7_30 : decode method_2_code 30 = .ok (.if_icmp .le 15, 3) := by decide +kernel
theorem d7_33 : decode method_2_code 33 = .ok (.aload_n 0, 1) := by decide +kernel
theorem d7_34 : decode method_2_code 34 = .ok (.iconst 2, 1) := by decide +kernel
theorem d7_35 : decode method_2_code 35 = .ok (.laload, 1) := by decide +kernel
theorem d7_36 : decode method_2_code 36 = .ok (.lload_n 1, 1) := by decide +kernel
theorem d7_37 : decode method_2_code 37 = .ok (.lcmp, 1) := by decide +kernel
theorem d7_38 : decode method_2_code 38 = .ok (.ifCond .ne 7, 3) := by decide +kernel
theorem d7_45 : decode method_2_code 45 = .ok (.iconst 0, 1) := by decide +kernel
theorem d7_46 : decode method_2_code 46 = .ok (.ireturn, 1) := by decide +kernel
def j7_0 (q1 : Int64) (sz : Int32) (kl : List Int64) : Int32 := (if (0 : Int32) < sz then (if (kl.getD 0 0) = q1 then (1 : Int32) else (if (1 : Int32) < sz then (if (kl.getD 1 0) = q1 then (1 : Int32) else (if (2 : Int32) < sz then (if (kl.getD 2 0) = q1 then (1 : Int32) else (0 : Int32)) else (0 : Int32))) else (if (2 : Int32) < sz then (if (kl.getD 2 0) = q1 then (1 : Int32) else (0 : Int32)) else (0 : Int32)))) else (if (1 : Int32) < sz then (if (kl.getD 1 0) = q1 then (1 : Int32) else (if (2 : Int32) < sz then (if (kl.getD 2 0) = q1 then (1 : Int32) else (0 : Int32)) else (0 : Int32))) else (if (2 : Int32) < sz then (if (kl.getD 2 0) = q1 then (1 : Int32) else (0 : Int32)) else (0 : Int32))))
theorem pn_3 : plainName "com/example/pathfield/pathfield/query/LongIntMapKeysPinLaw" = true := by first | (simp [plainName, overriddenIn]; done) | decide +kernel
theorem ef7 (m : MethodId) (x0 : Addr) (x1 : Int64) : entryFrame m #[(.ref x0), (.long x1)] 3 = mkF m 0 #[.val (.ref x0), .val (.long x1), .second] [] := by first | (simp [entryFrame, mkF, argsToLocals, Value.category]; done) | rfl
abbrev rr7 : Room := { frames := 0, cells := 0, slots := 0, locals := 0 }
def Q7 (Z : State) (a0 : Addr) (q1 : Int64) (sz : Int32) (kl : List Int64) (k_a0 : ClassId) (h0 : Heap) (n0 : Nat) (v : Option Value) (h : Heap) (L : List Loc) : Prop := v = some (.int (nar .boolean (j7_0 q1 sz kl))) ∧ Fr n0 L ∧ h = h0
set_option maxRecDepth 65536 in
set_option maxHeartbeats 40000000 in
theorem rm7 (l : Launch) (Z : State) (aw : Array Value) (hw : ∀ d ∈ tables_1, d.before aw Z = true) (ws : List Jvm.Cond) (a0 : Addr) (q1 : Int64) (sz : Int32) (kl : List Int64) (k_a0 : ClassId) (h0 : Heap) (n0 : Nat) (Z0 : n0 ≤ h0.size) (V_a0 : Arv Z h0 a0 k_a0 .long sz (kl.map Value.long) (.long (0 : Int64))) :
    MetFree l (⟨"com/example/pathfield/pathfield/query/LongIntMapKeysPinLaw", "has", "([JJ)Z"⟩ : MethodName) (head1 (Jvm.Cond.code (⟨"com/example/pathfield/pathfield/query/LongIntMapKeysPinLaw", "has", "([JJ)Z"⟩ : MethodName) method_2_code 3 (some .boolean) :: ws) rr7) (fun a U => a = #[(.ref a0), (.long q1)] ∧ Z.Warmed39 U.vm ∧ U.heap = h0) (fun _ _ _ _ _ => True) (fun _ U o U' => ∃ v L, o = .returned v ∧ Q7 Z a0 q1 sz kl k_a0 h0 n0 v U'.heap L ∧ FrameEnd U o U' L rr7.cells rr7.slots) := by
  refine MetFree.of_bodySF (plainFor_of_name pn_3) hisR ?_
  intro p e s m args below meth c s₁ Bd hml0 hP hK
  obtain ⟨rfl, hZ, hh⟩ := hP
  have hx := Bd.exec
  have hby := Bd.bytes
  have hml : c.maxLocals = 3 := hml0
  have hown : s.vm.findClass "com/example/pathfield/pathfield/query/LongIntMapKeysPinLaw" = some m.cls := findClass_of_methodNamed Bd.named
  have hnm := (name_of_methodNamed Bd.named Bd.method).1
  have X0 : Stand p l e rr7 s m #[(.ref a0), (.long q1)] below meth c s₁ [] 0 0 := Stand.of_body Bd
  have e0 : s₁.heap = h0 := by rw [← hh, Bd.state]; rfl
  have N0 := Fr.nil n0
  have pre0 : ∀ t, Steps p.tables e below (s₁.setTop (mkF m 0 #[.val (.ref a0), .val (.long q1), .second] [])) t → Steps p.tables e below (s₁.setTop (entryFrame m #[(.ref a0), (.long q1)] 3)) t := fun t k => castTop (ef7 m a0 q1) k
  obtain ⟨cl393, Ar393, q393, S393, M393, H393, G393⟩ := id V_a0
  have pre447 := fun (t : State) (k : Steps p.tables e below (s₁.setTop (mkF m 2 #[.val (.ref a0), .val (.long q1), .second] [(.int sz)])) t) => pre0 t (by
    show Steps p.tables e below (s₁.setTop (mkF m 0 #[.val (.ref a0), .val (.long q1), .second] [])) _
    refine XS.aloadN X0.here hx rfl (hb hby d7_0) rfl rfl ?_
    show Steps p.tables e below (s₁.setTop (mkF m 1 #[.val (.ref a0), .val (.long q1), .second] [(.ref a0)])) _
    refine X0.arraylength hx (by rw [e0]; exact Ar393.1) (State.isArrayOf_alike hZ.alike Ar393.2.1) (g := (mkF m 1 #[.val (.ref a0), .val (.long q1), .second] [(.ref a0)])) rfl rfl (hb hby d7_1) _ ?_
    rw [len_of S393 M393]
    exact k)
  have pre448 := fun (t : State) (k : Steps p.tables e below (s₁.setTop (mkF m 46 #[.val (.ref a0), .val (.long q1), .second] [(.int (j7_0 q1 sz kl))])) t) => pre447 t (by
    by_cases hc449 : (0 : Int32) < sz
    · skip
      obtain ⟨cl450, Ar450, q450, S450, M450, H450, G450⟩ := id V_a0
      have hin451 : ¬ ((0 : Int32) < 0 ∨ cl450.slots.size ≤ ((0 : Int32)).toNatClampNeg) := inb_of S450 ⟨by decide, hc449⟩
      have hat452 : cl450.slots[((0 : Int32)).toNatClampNeg]? = some (.long (kl.getD 0 0)) := H450.at hin451 (own_gmj _ _)
      show Steps p.tables e below (s₁.setTop (mkF m 2 #[.val (.ref a0), .val (.long q1), .second] [(.int sz)])) _
      refine XS.ifNo X0.here hx rfl (hb hby d7_2) rfl ((if0 _ _).trans (tlt hc449).2.2.2) ?_
      show Steps p.tables e below (s₁.setTop (mkF m 5 #[.val (.ref a0), .val (.long q1), .second] [])) _
      refine XS.aloadN X0.here hx rfl (hb hby d7_5) rfl rfl ?_
      show Steps p.tables e below (s₁.setTop (mkF m 6 #[.val (.ref a0), .val (.long q1), .second] [(.ref a0)])) _
      refine XS.iconst X0.here hx rfl (hb hby d7_6) ?_
      show Steps p.tables e below (s₁.setTop (mkF m 7 #[.val (.ref a0), .val (.long q1), .second] [(.int (0 : Int32)), (.ref a0)])) _
      refine X0.laload hx (j := (0 : Int32)) (v := (.long (kl.getD 0 0))) (by rw [e0]; exact Ar450.1) (State.isArrayOf_alike hZ.alike Ar450.2.1) Ar450.2.2 hin451 hat452 (g := (mkF m 7 #[.val (.ref a0), .val (.long q1), .second] [(.int (0 : Int32)), (.ref a0)])) rfl rfl (hb hby d7_7) _ ?_
      show Steps p.tables e below (s₁.setTop (mkF m 8 #[.val (.ref a0), .val (.long q1), .second] [(.long (kl.getD 0 0))])) _
      refine XS.lloadN X0.here hx rfl (hb hby d7_8) rfl ?_
      show Steps p.tables e below (s₁.setTop (mkF m 9 #[.val (.ref a0), .val (.long q1), .second] [(.long q1), (.long (kl.getD 0 0))])) _
      refine XS.lcmp X0.here hx rfl (hb hby d7_9) rfl ?_
      by_cases hc453 : (kl.getD 0 0) = q1
      · skip
        show Steps p.tables e below (s₁.setTop (mkF m 10 #[.val (.ref a0), .val (.long q1), .second] [(.int (lcmpW (kl.getD 0 0) q1))])) _
        refine XS.ifYes X0.here hx rfl (pc0 := 10) (pc' := 41) rfl (hb hby d7_10) rfl ((if0 _ _).trans (teq ((own_eq (kl.getD 0 0) q1).mpr hc453)).1) (by decide) (by decide) ?_
        show Steps p.tables e below (s₁.setTop (mkF m 41 #[.val (.ref a0), .val (.long q1), .second] [])) _
        refine XS.iconst X0.here hx rfl (hb hby d7_41) ?_
        show Steps p.tables e below (s₁.setTop (mkF m 42 #[.val (.ref a0), .val (.long q1), .second] [(.int (1 : Int32))])) _
        refine XS.goto X0.here hx rfl (pc0 := 42) (pc' := 46) rfl (hb hby d7_42) (by decide) (by decide) ?_
        have hj454 : (j7_0 q1 sz kl) = (1 : Int32) := by first | exact ((if_pos hc449).trans (if_pos hc453)) | (unfold j7_0; first | (rw [if_pos hc449, if_pos hc453]) | (simp only [if_pos hc449, if_pos hc453]))
        rw [hj454] at k
        exact k
      · skip
        obtain ⟨cl455, Ar455, q455, S455, M455, H455, G455⟩ := id V_a0
        show Steps p.tables e below (s₁.setTop (mkF m 10 #[.val (.ref a0), .val (.long q1), .second] [(.int (lcmpW (kl.getD 0 0) q1))])) _
        refine XS.ifNo X0.here hx rfl (hb hby d7_10) rfl ((if0 _ _).trans (feq (mt (own_eq (kl.getD 0 0) q1).mp hc453)).1) ?_
        show Steps p.tables e below (s₁.setTop (mkF m 13 #[.val (.ref a0), .val (.long q1), .second] [])) _
        refine XS.aloadN X0.here hx rfl (hb hby d7_13) rfl rfl ?_
        show Steps p.tables e below (s₁.setTop (mkF m 14 #[.val (.ref a0), .val (.long q1), .second] [(.ref a0)])) _
        refine X0.arraylength hx (by rw [e0]; exact Ar455.1) (State.isArrayOf_alike hZ.alike Ar455.2.1) (g := (mkF m 14 #[.val (.ref a0), .val (.long q1), .second] [(.ref a0)])) rfl rfl (hb hby d7_14) _ ?_
        rw [len_of S455 M455]
        show Steps p.tables e below (s₁.setTop (mkF m 15 #[.val (.ref a0), .val (.long q1), .second] [(.int sz)])) _
        refine XS.iconst X0.here hx rfl (hb hby d7_15) ?_
        by_cases hc456 : (1 : Int32) < sz
        · skip
          obtain ⟨cl457, Ar457, q457, S457, M457, H457, G457⟩ := id V_a0
          have hin458 : ¬ ((1 : Int32) < 0 ∨ cl457.slots.size ≤ ((1 : Int32)).toNatClampNeg) := inb_of S457 ⟨by decide, hc456⟩
          have hat459 : cl457.slots[((1 : Int32)).toNatClampNeg]? = some (.long (kl.getD 1 0)) := H457.at hin458 (own_gmj _ _)
          show Steps p.tables e below (s₁.setTop (mkF m 16 #[.val (.ref a0), .val (.long q1), .second] [(.int (1 : Int32)), (.int sz)])) _
          refine XS.icmpNo X0.here hx rfl (hb hby d7_16) rfl (tlt hc456).2.2.2 ?_
          show Steps p.tables e below (s₁.setTop (mkF m 19 #[.val (.ref a0), .val (.long q1), .second] [])) _
          refine XS.aloadN X0.here hx rfl (hb hby d7_19) rfl rfl ?_
          show Steps p.tables e below (s₁.setTop (mkF m 20 #[.val (.ref a0), .val (.long q1), .second] [(.ref a0)])) _
          refine XS.iconst X0.here hx rfl (hb hby d7_20) ?_
          show Steps p.tables e below (s₁.setTop (mkF m 21 #[.val (.ref a0), .val (.long q1), .second] [(.int (1 : Int32)), (.ref a0)])) _
          refine X0.laload hx (j := (1 : Int32)) (v := (.long (kl.getD 1 0))) (by rw [e0]; exact Ar457.1) (State.isArrayOf_alike hZ.alike Ar457.2.1) Ar457.2.2 hin458 hat459 (g := (mkF m 21 #[.val (.ref a0), .val (.long q1), .second] [(.int (1 : Int32)), (.ref a0)])) rfl rfl (hb hby d7_21) _ ?_
          show Steps p.tables e below (s₁.setTop (mkF m 22 #[.val (.ref a0), .val (.long q1), .second] [(.long (kl.getD 1 0))])) _
          refine XS.lloadN X0.here hx rfl (hb hby d7_22) rfl ?_
          show Steps p.tables e below (s₁.setTop (mkF m 23 #[.val (.ref a0), .val (.long q1), .second] [(.long q1), (.long (kl.getD 1 0))])) _
          refine XS.lcmp X0.here hx rfl (hb hby d7_23) rfl ?_
          by_cases hc460 : (kl.getD 1 0) = q1
          · skip
            show Steps p.tables e below (s₁.setTop (mkF m 24 #[.val (.ref a0), .val (.long q1), .second] [(.int (lcmpW (kl.getD 1 0) q1))])) _
            refine XS.ifYes X0.here hx rfl (pc0 := 24) (pc' := 41) rfl (hb hby d7_24) rfl ((if0 _ _).trans (teq ((own_eq (kl.getD 1 0) q1).mpr hc460)).1) (by decide) (by decide) ?_
            show Steps p.tables e below (s₁.setTop (mkF m 41 #[.val (.ref a0), .val (.long q1), .second] [])) _
            refine XS.iconst X0.here hx rfl (hb hby d7_41) ?_
            show Steps p.tables e below (s₁.setTop (mkF m 42 #[.val (.ref a0), .val (.long q1), .second] [(.int (1 : Int32))])) _
            refine XS.goto X0.here hx rfl (pc0 := 42) (pc' := 46) rfl (hb hby d7_42) (by decide) (by decide) ?_
            have hj461 : (j7_0 q1 sz kl) = (1 : Int32) := by first | exact ((if_pos hc449).trans ((if_neg hc453).trans ((if_pos hc456).trans (if_pos hc460)))) | (unfold j7_0; first | (rw [if_pos hc449, if_neg hc453, if_pos hc456, if_pos hc460]) | (simp only [if_pos hc449, if_neg hc453, if_pos hc456, if_pos hc460]))
            rw [hj461] at k
            exact k
          · skip
            obtain ⟨cl462, Ar462, q462, S462, M462, H462, G462⟩ := id V_a0
            show Steps p.tables e below (s₁.setTop (mkF m 24 #[.val (.ref a0), .val (.long q1), .second] [(.int (lcmpW (kl.getD 1 0) q1))])) _
            refine XS.ifNo X0.here hx rfl (hb hby d7_24) rfl ((if0 _ _).trans (feq (mt (own_eq (kl.getD 1 0) q1).mp hc460)).1) ?_
            show Steps p.tables e below (s₁.setTop (mkF m 27 #[.val (.ref a0), .val (.long q1), .second] [])) _
            refine XS.aloadN X0.here hx rfl (hb hby d7_27) rfl rfl ?_
            show Steps p.tables e below (s₁.setTop (mkF m 28 #[.val (.ref a0), .val (.long q1), .second] [(.ref a0)])) _
            refine X0.arraylength hx (by rw [e0]; exact Ar462.1) (State.isArrayOf_alike hZ.alike Ar462.2.1) (g := (mkF m 28 #[.val (.ref a0), .val (.long q1), .second] [(.ref a0)])) rfl rfl (hb hby d7_28) _ ?_
            rw [len_of S462 M462]
            show Steps p.tables e below (s₁.setTop (mkF m 29 #[.val (.ref a0), .val (.long q1), .second] [(.int sz)])) _
            refine XS.iconst X0.here hx rfl (hb hby d7_29) ?_
            by_cases hc463 : (2 : Int32) < sz
            · skip
              obtain ⟨cl464, Ar464, q464, S464, M464, H464, G464⟩ := id V_a0
              have hin465 : ¬ ((2 : Int32) < 0 ∨ cl464.slots.size ≤ ((2 : Int32)).toNatClampNeg) := inb_of S464 ⟨by decide, hc463⟩
              have hat466 : cl464.slots[((2 : Int32)).toNatClampNeg]? = some (.long (kl.getD 2 0)) := H464.at hin465 (own_gmj _ _)
              show Steps p.tables e below (s₁.setTop (mkF m 30 #[.val (.ref a0), .val (.long q1), .second] [(.int (2 : Int32)), (.int sz)])) _
              refine XS.icmpNo X0.here hx rfl (hb hby d7_30) rfl (tlt hc463).2.2.2 ?_
              show Steps p.tables e below (s₁.setTop (mkF m 33 #[.val (.ref a0), .val (.long q1), .second] [])) _
              refine XS.aloadN X0.here hx rfl (hb hby d7_33) rfl rfl ?_
              show Steps p.tables e below (s₁.setTop (mkF m 34 #[.val (.ref a0), .val (.long q1), .second] [(.ref a0)])) _
              refine XS.iconst X0.here hx rfl (hb hby d7_34) ?_
              show Steps p.tables e below (s₁.setTop (mkF m 35 #[.val (.ref a0), .val (.long q1), .second] [(.int (2 : Int32)), (.ref a0)])) _
              refine X0.laload hx (j := (2 : Int32)) (v := (.long (kl.getD 2 0))) (by rw [e0]; exact Ar464.1) (State.isArrayOf_alike hZ.alike Ar464.2.1) Ar464.2.2 hin465 hat466 (g := (mkF m 35 #[.val (.ref a0), .val (.long q1), .second] [(.int (2 : Int32)), (.ref a0)])) rfl rfl (hb hby d7_35) _ ?_
              show Steps p.tables e below (s₁.setTop (mkF m 36 #[.val (.ref a0), .val (.long q1), .second] [(.long (kl.getD 2 0))])) _
              refine XS.lloadN X0.here hx rfl (hb hby d7_36) rfl ?_
              show Steps p.tables e below (s₁.setTop (mkF m 37 #[.val (.ref a0), .val (.long q1), .second] [(.long q1), (.long (kl.getD 2 0))])) _
              refine XS.lcmp X0.here hx rfl (hb hby d7_37) rfl ?_
              by_cases hc467 : (kl.getD 2 0) = q1
              · skip
                show Steps p.tables e below (s₁.setTop (mkF m 38 #[.val (.ref a0), .val (.long q1), .second] [(.int (lcmpW (kl.getD 2 0) q1))])) _
                refine XS.ifNo X0.here hx rfl (hb hby d7_38) rfl ((if0 _ _).trans (teq ((own_eq (kl.getD 2 0) q1).mpr hc467)).2) ?_
                show Steps p.tables e below (s₁.setTop (mkF m 41 #[.val (.ref a0), .val (.long q1), .second] [])) _
                refine XS.iconst X0.here hx rfl (hb hby d7_41) ?_
                show Steps p.tables e below (s₁.setTop (mkF m 42 #[.val (.ref a0), .val (.long q1), .second] [(.int (1 : Int32))])) _
                refine XS.goto X0.here hx rfl (pc0 := 42) (pc' := 46) rfl (hb hby d7_42) (by decide) (by decide) ?_
                have hj468 : (j7_0 q1 sz kl) = (1 : Int32) := by first | exact ((if_pos hc449).trans ((if_neg hc453).trans ((if_pos hc456).trans ((if_neg hc460).trans ((if_pos hc463).trans (if_pos hc467)))))) | (unfold j7_0; first | (rw [if_pos hc449, if_neg hc453, if_pos hc456, if_neg hc460, if_pos hc463, if_pos hc467]) | (simp only [if_pos hc449, if_neg hc453, if_pos hc456, if_neg hc460, if_pos hc463, if_pos hc467]))
                rw [hj468] at k
                exact k
              · skip
                show Steps p.tables e below (s₁.setTop (mkF m 38 #[.val (.ref a0), .val (.long q1), .second] [(.int (lcmpW (kl.getD 2 0) q1))])) _
                refine XS.ifYes X0.here hx rfl (pc0 := 38) (pc' := 45) rfl (hb hby d7_38) rfl ((if0 _ _).trans (feq (mt (own_eq (kl.getD 2 0) q1).mp hc467)).2) (by decide) (by decide) ?_
                show Steps p.tables e below (s₁.setTop (mkF m 45 #[.val (.ref a0), .val (.long q1), .second] [])) _
                refine XS.iconst X0.here hx rfl (hb hby d7_45) ?_
                have hj469 : (j7_0 q1 sz kl) = (0 : Int32) := by first | exact ((if_pos hc449).trans ((if_neg hc453).trans ((if_pos hc456).trans ((if_neg hc460).trans ((if_pos hc463).trans (if_neg hc467)))))) | (unfold j7_0; first | (rw [if_pos hc449, if_neg hc453, if_pos hc456, if_neg hc460, if_pos hc463, if_neg hc467]) | (simp only [if_pos hc449, if_neg hc453, if_pos hc456, if_neg hc460, if_pos hc463, if_neg hc467]))
                rw [hj469] at k
                exact k
            · skip
              show Steps p.tables e below (s₁.setTop (mkF m 30 #[.val (.ref a0), .val (.long q1), .second] [(.int (2 : Int32)), (.int sz)])) _
              refine XS.icmpYes X0.here hx rfl (pc0 := 30) (pc' := 45) rfl (hb hby d7_30) rfl (flt hc463).2.2.2 (by decide) (by decide) ?_
              show Steps p.tables e below (s₁.setTop (mkF m 45 #[.val (.ref a0), .val (.long q1), .second] [])) _
              refine XS.iconst X0.here hx rfl (hb hby d7_45) ?_
              have hj470 : (j7_0 q1 sz kl) = (0 : Int32) := by first | exact ((if_pos hc449).trans ((if_neg hc453).trans ((if_pos hc456).trans ((if_neg hc460).trans (if_neg hc463))))) | (unfold j7_0; first | (rw [if_pos hc449, if_neg hc453, if_pos hc456, if_neg hc460, if_neg hc463]) | (simp only [if_pos hc449, if_neg hc453, if_pos hc456, if_neg hc460, if_neg hc463]))
              rw [hj470] at k
              exact k
        · skip
          obtain ⟨cl471, Ar471, q471, S471, M471, H471, G471⟩ := id V_a0
          show Steps p.tables e below (s₁.setTop (mkF m 16 #[.val (.ref a0), .val (.long q1), .second] [(.int (1 : Int32)), (.int sz)])) _
          refine XS.icmpYes X0.here hx rfl (pc0 := 16) (pc' := 27) rfl (hb hby d7_16) rfl (flt hc456).2.2.2 (by decide) (by decide) ?_
          show Steps p.tables e below (s₁.setTop (mkF m 27 #[.val (.ref a0), .val (.long q1), .second] [])) _
          refine XS.aloadN X0.here hx rfl (hb hby d7_27) rfl rfl ?_
          show Steps p.tables e below (s₁.setTop (mkF m 28 #[.val (.ref a0), .val (.long q1), .second] [(.ref a0)])) _
          refine X0.arraylength hx (by rw [e0]; exact Ar471.1) (State.isArrayOf_alike hZ.alike Ar471.2.1) (g := (mkF m 28 #[.val (.ref a0), .val (.long q1), .second] [(.ref a0)])) rfl rfl (hb hby d7_28) _ ?_
          rw [len_of S471 M471]
          show Steps p.tables e below (s₁.setTop (mkF m 29 #[.val (.ref a0), .val (.long q1), .second] [(.int sz)])) _
          refine XS.iconst X0.here hx rfl (hb hby d7_29) ?_
          by_cases hc472 : (2 : Int32) < sz
          · skip
            obtain ⟨cl473, Ar473, q473, S473, M473, H473, G473⟩ := id V_a0
            have hin474 : ¬ ((2 : Int32) < 0 ∨ cl473.slots.size ≤ ((2 : Int32)).toNatClampNeg) := inb_of S473 ⟨by decide, hc472⟩
            have hat475 : cl473.slots[((2 : Int32)).toNatClampNeg]? = some (.long (kl.getD 2 0)) := H473.at hin474 (own_gmj _ _)
            show Steps p.tables e below (s₁.setTop (mkF m 30 #[.val (.ref a0), .val (.long q1), .second] [(.int (2 : Int32)), (.int sz)])) _
            refine XS.icmpNo X0.here hx rfl (hb hby d7_30) rfl (tlt hc472).2.2.2 ?_
            show Steps p.tables e below (s₁.setTop (mkF m 33 #[.val (.ref a0), .val (.long q1), .second] [])) _
            refine XS.aloadN X0.here hx rfl (hb hby d7_33) rfl rfl ?_
            show Steps p.tables e below (s₁.setTop (mkF m 34 #[.val (.ref a0), .val (.long q1), .second] [(.ref a0)])) _
            refine XS.iconst X0.here hx rfl (hb hby d7_34) ?_
            show Steps p.tables e below (s₁.setTop (mkF m 35 #[.val (.ref a0), .val (.long q1), .second] [(.int (2 : Int32)), (.ref a0)])) _
            refine X0.laload hx (j := (2 : Int32)) (v := (.long (kl.getD 2 0))) (by rw [e0]; exact Ar473.1) (State.isArrayOf_alike hZ.alike Ar473.2.1) Ar473.2.2 hin474 hat475 (g := (mkF m 35 #[.val (.ref a0), .val (.long q1), .second] [(.int (2 : Int32)), (.ref a0)])) rfl rfl (hb hby d7_35) _ ?_
            show Steps p.tables e below (s₁.setTop (mkF m 36 #[.val (.ref a0), .val (.long q1), .second] [(.long (kl.getD 2 0))])) _
            refine XS.lloadN X0.here hx rfl (hb hby d7_36) rfl ?_
            show Steps p.tables e below (s₁.setTop (mkF m 37 #[.val (.ref a0), .val (.long q1), .second] [(.long q1), (.long (kl.getD 2 0))])) _
            refine XS.lcmp X0.here hx rfl (hb hby d7_37) rfl ?_
            by_cases hc476 : (kl.getD 2 0) = q1
            · skip
              show Steps p.tables e below (s₁.setTop (mkF m 38 #[.val (.ref a0), .val (.long q1), .second] [(.int (lcmpW (kl.getD 2 0) q1))])) _
              refine XS.ifNo X0.here hx rfl (hb hby d7_38) rfl ((if0 _ _).trans (teq ((own_eq (kl.getD 2 0) q1).mpr hc476)).2) ?_
              show Steps p.tables e below (s₁.setTop (mkF m 41 #[.val (.ref a0), .val (.long q1), .second] [])) _
              refine XS.iconst X0.here hx rfl (hb hby d7_41) ?_
              show Steps p.tables e below (s₁.setTop (mkF m 42 #[.val (.ref a0), .val (.long q1), .second] [(.int (1 : Int32))])) _
              refine XS.goto X0.here hx rfl (pc0 := 42) (pc' := 46) rfl (hb hby d7_42) (by decide) (by decide) ?_
              have hj477 : (j7_0 q1 sz kl) = (1 : Int32) := by first | exact ((if_pos hc449).trans ((if_neg hc453).trans ((if_neg hc456).trans ((if_pos hc472).trans (if_pos hc476))))) | (unfold j7_0; first | (rw [if_pos hc449, if_neg hc453, if_neg hc456, if_pos hc472, if_pos hc476]) | (simp only [if_pos hc449, if_neg hc453, if_neg hc456, if_pos hc472, if_pos hc476]))
              rw [hj477] at k
              exact k
            · skip
              show Steps p.tables e below (s₁.setTop (mkF m 38 #[.val (.ref a0), .val (.long q1), .second] [(.int (lcmpW (kl.getD 2 0) q1))])) _
              refine XS.ifYes X0.here hx rfl (pc0 := 38) (pc' := 45) rfl (hb hby d7_38) rfl ((if0 _ _).trans (feq (mt (own_eq (kl.getD 2 0) q1).mp hc476)).2) (by decide) (by decide) ?_
              show Steps p.tables e below (s₁.setTop (mkF m 45 #[.val (.ref a0), .val (.long q1), .second] [])) _
              refine XS.iconst X0.here hx rfl (hb hby d7_45) ?_
              have hj478 : (j7_0 q1 sz kl) = (0 : Int32) := by first | exact ((if_pos hc449).trans ((if_neg hc453).trans ((if_neg hc456).trans ((if_pos hc472).trans (if_neg hc476))))) | (unfold j7_0; first | (rw [if_pos hc449, if_neg hc453, if_neg hc456, if_pos hc472, if_neg hc476]) | (simp only [if_pos hc449, if_neg hc453, if_neg hc456, if_pos hc472, if_neg hc476]))
              rw [hj478] at k
              exact k
          · skip
            show Steps p.tables e below (s₁.setTop (mkF m 30 #[.val (.ref a0), .val (.long q1), .second] [(.int (2 : Int32)), (.int sz)])) _
            refine XS.icmpYes X0.here hx rfl (pc0 := 30) (pc' := 45) rfl (hb hby d7_30) rfl (flt hc472).2.2.2 (by decide) (by decide) ?_
            show Steps p.tables e below (s₁.setTop (mkF m 45 #[.val (.ref a0), .val (.long q1), .second] [])) _
            refine XS.iconst X0.here hx rfl (hb hby d7_45) ?_
            have hj479 : (j7_0 q1 sz kl) = (0 : Int32) := by first | exact ((if_pos hc449).trans ((if_neg hc453).trans ((if_neg hc456).trans (if_neg hc472)))) | (unfold j7_0; first | (rw [if_pos hc449, if_neg hc453, if_neg hc456, if_neg hc472]) | (simp only [if_pos hc449, if_neg hc453, if_neg hc456, if_neg hc472]))
            rw [hj479] at k
            exact k
    · skip
      obtain ⟨cl480, Ar480, q480, S480, M480, H480, G480⟩ := id V_a0
      show Steps p.tables e below (s₁.setTop (mkF m 2 #[.val (.ref a0), .val (.long q1), .second] [(.int sz)])) _
      refine XS.ifYes X0.here hx rfl (pc0 := 2) (pc' := 13) rfl (hb hby d7_2) rfl ((if0 _ _).trans (flt hc449).2.2.2) (by decide) (by decide) ?_
      show Steps p.tables e below (s₁.setTop (mkF m 13 #[.val (.ref a0), .val (.long q1), .second] [])) _
      refine XS.aloadN X0.here hx rfl (hb hby d7_13) rfl rfl ?_
      show Steps p.tables e below (s₁.setTop (mkF m 14 #[.val (.ref a0), .val (.long q1), .second] [(.ref a0)])) _
      refine X0.arraylength hx (by rw [e0]; exact Ar480.1) (State.isArrayOf_alike hZ.alike Ar480.2.1) (g := (mkF m 14 #[.val (.ref a0), .val (.long q1), .second] [(.ref a0)])) rfl rfl (hb hby d7_14) _ ?_
      rw [len_of S480 M480]
      show Steps p.tables e below (s₁.setTop (mkF m 15 #[.val (.ref a0), .val (.long q1), .second] [(.int sz)])) _
      refine XS.iconst X0.here hx rfl (hb hby d7_15) ?_
      by_cases hc481 : (1 : Int32) < sz
      · skip
        obtain ⟨cl482, Ar482, q482, S482, M482, H482, G482⟩ := id V_a0
        have hin483 : ¬ ((1 : Int32) < 0 ∨ cl482.slots.size ≤ ((1 : Int32)).toNatClampNeg) := inb_of S482 ⟨by decide, hc481⟩
        have hat484 : cl482.slots[((1 : Int32)).toNatClampNeg]? = some (.long (kl.getD 1 0)) := H482.at hin483 (own_gmj _ _)
        show Steps p.tables e below (s₁.setTop (mkF m 16 #[.val (.ref a0), .val (.long q1), .second] [(.int (1 : Int32)), (.int sz)])) _
        refine XS.icmpNo X0.here hx rfl (hb hby d7_16) rfl (tlt hc481).2.2.2 ?_
        show Steps p.tables e below (s₁.setTop (mkF m 19 #[.val (.ref a0), .val (.long q1), .second] [])) _
        refine XS.aloadN X0.here hx rfl (hb hby d7_19) rfl rfl ?_
        show Steps p.tables e below (s₁.setTop (mkF m 20 #[.val (.ref a0), .val (.long q1), .second] [(.ref a0)])) _
        refine XS.iconst X0.here hx rfl (hb hby d7_20) ?_
        show Steps p.tables e below (s₁.setTop (mkF m 21 #[.val (.ref a0), .val (.long q1), .second] [(.int (1 : Int32)), (.ref a0)])) _
        refine X0.laload hx (j := (1 : Int32)) (v := (.long (kl.getD 1 0))) (by rw [e0]; exact Ar482.1) (State.isArrayOf_alike hZ.alike Ar482.2.1) Ar482.2.2 hin483 hat484 (g := (mkF m 21 #[.val (.ref a0), .val (.long q1), .second] [(.int (1 : Int32)), (.ref a0)])) rfl rfl (hb hby d7_21) _ ?_
        show Steps p.tables e below (s₁.setTop (mkF m 22 #[.val (.ref a0), .val (.long q1), .second] [(.long (kl.getD 1 0))])) _
        refine XS.lloadN X0.here hx rfl (hb hby d7_22) rfl ?_
        show Steps p.tables e below (s₁.setTop (mkF m 23 #[.val (.ref a0), .val (.long q1), .second] [(.long q1), (.long (kl.getD 1 0))])) _
        refine XS.lcmp X0.here hx rfl (hb hby d7_23) rfl ?_
        by_cases hc485 : (kl.getD 1 0) = q1
        · skip
          show Steps p.tables e below (s₁.setTop (mkF m 24 #[.val (.ref a0), .val (.long q1), .second] [(.int (lcmpW (kl.getD 1 0) q1))])) _
          refine XS.ifYes X0.here hx rfl (pc0 := 24) (pc' := 41) rfl (hb hby d7_24) rfl ((if0 _ _).trans (teq ((own_eq (kl.getD 1 0) q1).mpr hc485)).1) (by decide) (by decide) ?_
          show Steps p.tables e below (s₁.setTop (mkF m 41 #[.val (.ref a0), .val (.long q1), .second] [])) _
          refine XS.iconst X0.here hx rfl (hb hby d7_41) ?_
          show Steps p.tables e below (s₁.setTop (mkF m 42 #[.val (.ref a0), .val (.long q1), .second] [(.int (1 : Int32))])) _
          refine XS.goto X0.here hx rfl (pc0 := 42) (pc' := 46) rfl (hb hby d7_42) (by decide) (by decide) ?_
          have hj486 : (j7_0 q1 sz kl) = (1 : Int32) := by first | exact ((if_neg hc449).trans ((if_pos hc481).trans (if_pos hc485))) | (unfold j7_0; first | (rw [if_neg hc449, if_pos hc481, if_pos hc485]) | (simp only [if_neg hc449, if_pos hc481, if_pos hc485]))
          rw [hj486] at k
          exact k
        · skip
          obtain ⟨cl487, Ar487, q487, S487, M487, H487, G487⟩ := id V_a0
          show Steps p.tables e below (s₁.setTop (mkF m 24 #[.val (.ref a0), .val (.long q1), .second] [(.int (lcmpW (kl.getD 1 0) q1))])) _
          refine XS.ifNo X0.here hx rfl (hb hby d7_24) rfl ((if0 _ _).trans (feq (mt (own_eq (kl.getD 1 0) q1).mp hc485)).1) ?_
          show Steps p.tables e below (s₁.setTop (mkF m 27 #[.val (.ref a0), .val (.long q1), .second] [])) _
          refine XS.aloadN X0.here hx rfl (hb hby d7_27) rfl rfl ?_
          show Steps p.tables e below (s₁.setTop (mkF m 28 #[.val (.ref a0), .val (.long q1), .second] [(.ref a0)])) _
          refine X0.arraylength hx (by rw [e0]; exact Ar487.1) (State.isArrayOf_alike hZ.alike Ar487.2.1) (g := (mkF m 28 #[.val (.ref a0), .val (.long q1), .second] [(.ref a0)])) rfl rfl (hb hby d7_28) _ ?_
          rw [len_of S487 M487]
          show Steps p.tables e below (s₁.setTop (mkF m 29 #[.val (.ref a0), .val (.long q1), .second] [(.int sz)])) _
          refine XS.iconst X0.here hx rfl (hb hby d7_29) ?_
          by_cases hc488 : (2 : Int32) < sz
          · skip
            obtain ⟨cl489, Ar489, q489, S489, M489, H489, G489⟩ := id V_a0
            have hin490 : ¬ ((2 : Int32) < 0 ∨ cl489.slots.size ≤ ((2 : Int32)).toNatClampNeg) := inb_of S489 ⟨by decide, hc488⟩
            have hat491 : cl489.slots[((2 : Int32)).toNatClampNeg]? = some (.long (kl.getD 2 0)) := H489.at hin490 (own_gmj _ _)
            show Steps p.tables e below (s₁.setTop (mkF m 30 #[.val (.ref a0), .val (.long q1), .second] [(.int (2 : Int32)), (.int sz)])) _
            refine XS.icmpNo X0.here hx rfl (hb hby d7_30) rfl (tlt hc488).2.2.2 ?_
            show Steps p.tables e below (s₁.setTop (mkF m 33 #[.val (.ref a0), .val (.long q1), .second] [])) _
            refine XS.aloadN X0.here hx rfl (hb hby d7_33) rfl rfl ?_
            show Steps p.tables e below (s₁.setTop (mkF m 34 #[.val (.ref a0), .val (.long q1), .second] [(.ref a0)])) _
            refine XS.iconst X0.here hx rfl (hb hby d7_34) ?_
            show Steps p.tables e below (s₁.setTop (mkF m 35 #[.val (.ref a0), .val (.long q1), .second] [(.int (2 : Int32)), (.ref a0)])) _
            refine X0.laload hx (j := (2 : Int32)) (v := (.long (kl.getD 2 0))) (by rw [e0]; exact Ar489.1) (State.isArrayOf_alike hZ.alike Ar489.2.1) Ar489.2.2 hin490 hat491 (g := (mkF m 35 #[.val (.ref a0), .val (.long q1), .second] [(.int (2 : Int32)), (.ref a0)])) rfl rfl (hb hby d7_35) _ ?_
            show Steps p.tables e below (s₁.setTop (mkF m 36 #[.val (.ref a0), .val (.long q1), .second] [(.long (kl.getD 2 0))])) _
            refine XS.lloadN X0.here hx rfl (hb hby d7_36) rfl ?_
            show Steps p.tables e below (s₁.setTop (mkF m 37 #[.val (.ref a0), .val (.long q1), .second] [(.long q1), (.long (kl.getD 2 0))])) _
            refine XS.lcmp X0.here hx rfl (hb hby d7_37) rfl ?_
            by_cases hc492 : (kl.getD 2 0) = q1
            · skip
              show Steps p.tables e below (s₁.setTop (mkF m 38 #[.val (.ref a0), .val (.long q1), .second] [(.int (lcmpW (kl.getD 2 0) q1))])) _
              refine XS.ifNo X0.here hx rfl (hb hby d7_38) rfl ((if0 _ _).trans (teq ((own_eq (kl.getD 2 0) q1).mpr hc492)).2) ?_
              show Steps p.tables e below (s₁.setTop (mkF m 41 #[.val (.ref a0), .val (.long q1), .second] [])) _
              refine XS.iconst X0.here hx rfl (hb hby d7_41) ?_
              show Steps p.tables e below (s₁.setTop (mkF m 42 #[.val (.ref a0), .val (.long q1), .second] [(.int (1 : Int32))])) _
              refine XS.goto X0.here hx rfl (pc0 := 42) (pc' := 46) rfl (hb hby d7_42) (by decide) (by decide) ?_
              have hj493 : (j7_0 q1 sz kl) = (1 : Int32) := by first | exact ((if_neg hc449).trans ((if_pos hc481).trans ((if_neg hc485).trans ((if_pos hc488).trans (if_pos hc492))))) | (unfold j7_0; first | (rw [if_neg hc449, if_pos hc481, if_neg hc485, if_pos hc488, if_pos hc492]) | (simp only [if_neg hc449, if_pos hc481, if_neg hc485, if_pos hc488, if_pos hc492]))
              rw [hj493] at k
              exact k
            · skip
              show Steps p.tables e below (s₁.setTop (mkF m 38 #[.val (.ref a0), .val (.long q1), .second] [(.int (lcmpW (kl.getD 2 0) q1))])) _
              refine XS.ifYes X0.here hx rfl (pc0 := 38) (pc' := 45) rfl (hb hby d7_38) rfl ((if0 _ _).trans (feq (mt (own_eq (kl.getD 2 0) q1).mp hc492)).2) (by decide) (by decide) ?_
              show Steps p.tables e below (s₁.setTop (mkF m 45 #[.val (.ref a0), .val (.long q1), .second] [])) _
              refine XS.iconst X0.here hx rfl (hb hby d7_45) ?_
              have hj494 : (j7_0 q1 sz kl) = (0 : Int32) := by first | exact ((if_neg hc449).trans ((if_pos hc481).trans ((if_neg hc485).trans ((if_pos hc488).trans (if_neg hc492))))) | (unfold j7_0; first | (rw [if_neg hc449, if_pos hc481, if_neg hc485, if_pos hc488, if_neg hc492]) | (simp only [if_neg hc449, if_pos hc481, if_neg hc485, if_pos hc488, if_neg hc492]))
              rw [hj494] at k
              exact k
          · skip
            show Steps p.tables e below (s₁.setTop (mkF m 30 #[.val (.ref a0), .val (.long q1), .second] [(.int (2 : Int32)), (.int sz)])) _
            refine XS.icmpYes X0.here hx rfl (pc0 := 30) (pc' := 45) rfl (hb hby d7_30) rfl (flt hc488).2.2.2 (by decide) (by decide) ?_
            show Steps p.tables e below (s₁.setTop (mkF m 45 #[.val (.ref a0), .val (.long q1), .second] [])) _
            refine XS.iconst X0.here hx rfl (hb hby d7_45) ?_
            have hj495 : (j7_0 q1 sz kl) = (0 : Int32) := by first | exact ((if_neg hc449).trans ((if_pos hc481).trans ((if_neg hc485).trans (if_neg hc488)))) | (unfold j7_0; first | (rw [if_neg hc449, if_pos hc481, if_neg hc485, if_neg hc488]) | (simp only [if_neg hc449, if_pos hc481, if_neg hc485, if_neg hc488]))
            rw [hj495] at k
            exact k
      · skip
        obtain ⟨cl496, Ar496, q496, S496, M496, H496, G496⟩ := id V_a0
        show Steps p.tables e below (s₁.setTop (mkF m 16 #[.val (.ref a0), .val (.long q1), .second] [(.int (1 : Int32)), (.int sz)])) _
        refine XS.icmpYes X0.here hx rfl (pc0 := 16) (pc' := 27) rfl (hb hby d7_16) rfl (flt hc481).2.2.2 (by decide) (by decide) ?_
        show Steps p.tables e below (s₁.setTop (mkF m 27 #[.val (.ref a0), .val (.long q1), .second] [])) _
        refine XS.aloadN X0.here hx rfl (hb hby d7_27) rfl rfl ?_
        show Steps p.tables e below (s₁.setTop (mkF m 28 #[.val (.ref a0), .val (.long q1), .second] [(.ref a0)])) _
        refine X0.arraylength hx (by rw [e0]; exact Ar496.1) (State.isArrayOf_alike hZ.alike Ar496.2.1) (g := (mkF m 28 #[.val (.ref a0), .val (.long q1), .second] [(.ref a0)])) rfl rfl (hb hby d7_28) _ ?_
        rw [len_of S496 M496]
        show Steps p.tables e below (s₁.setTop (mkF m 29 #[.val (.ref a0), .val (.long q1), .second] [(.int sz)])) _
        refine XS.iconst X0.here hx rfl (hb hby d7_29) ?_
        by_cases hc497 : (2 : Int32) < sz
        · skip
          obtain ⟨cl498, Ar498, q498, S498, M498, H498, G498⟩ := id V_a0
          have hin499 : ¬ ((2 : Int32) < 0 ∨ cl498.slots.size ≤ ((2 : Int32)).toNatClampNeg) := inb_of S498 ⟨by decide, hc497⟩
          have hat500 : cl498.slots[((2 : Int32)).toNatClampNeg]? = some (.long (kl.getD 2 0)) := H498.at hin499 (own_gmj _ _)
          show Steps p.tables e below (s₁.setTop (mkF m 30 #[.val (.ref a0), .val (.long q1), .second] [(.int (2 : Int32)), (.int sz)])) _
          refine XS.icmpNo X0.here hx rfl (hb hby d7_30) rfl (tlt hc497).2.2.2 ?_
          show Steps p.tables e below (s₁.setTop (mkF m 33 #[.val (.ref a0), .val (.long q1), .second] [])) _
          refine XS.aloadN X0.here hx rfl (hb hby d7_33) rfl rfl ?_
          show Steps p.tables e below (s₁.setTop (mkF m 34 #[.val (.ref a0), .val (.long q1), .second] [(.ref a0)])) _
          refine XS.iconst X0.here hx rfl (hb hby d7_34) ?_
          show Steps p.tables e below (s₁.setTop (mkF m 35 #[.val (.ref a0), .val (.long q1), .second] [(.int (2 : Int32)), (.ref a0)])) _
          refine X0.laload hx (j := (2 : Int32)) (v := (.long (kl.getD 2 0))) (by rw [e0]; exact Ar498.1) (State.isArrayOf_alike hZ.alike Ar498.2.1) Ar498.2.2 hin499 hat500 (g := (mkF m 35 #[.val (.ref a0), .val (.long q1), .second] [(.int (2 : Int32)), (.ref a0)])) rfl rfl (hb hby d7_35) _ ?_
          show Steps p.tables e below (s₁.setTop (mkF m 36 #[.val (.ref a0), .val (.long q1), .second] [(.long (kl.getD 2 0))])) _
          refine XS.lloadN X0.here hx rfl (hb hby d7_36) rfl ?_
          show Steps p.tables e below (s₁.setTop (mkF m 37 #[.val (.ref a0), .val (.long q1), .second] [(.long q1), (.long (kl.getD 2 0))])) _
          refine XS.lcmp X0.here hx rfl (hb hby d7_37) rfl ?_
          by_cases hc501 : (kl.getD 2 0) = q1
          · skip
            show Steps p.tables e below (s₁.setTop (mkF m 38 #[.val (.ref a0), .val (.long q1), .second] [(.int (lcmpW (kl.getD 2 0) q1))])) _
            refine XS.ifNo X0.here hx rfl (hb hby d7_38) rfl ((if0 _ _).trans (teq ((own_eq (kl.getD 2 0) q1).mpr hc501)).2) ?_
            show Steps p.tables e below (s₁.setTop (mkF m 41 #[.val (.ref a0), .val (.long q1), .second] [])) _
            refine XS.iconst X0.here hx rfl (hb hby d7_41) ?_
            show Steps p.tables e below (s₁.setTop (mkF m 42 #[.val (.ref a0), .val (.long q1), .second] [(.int (1 : Int32))])) _
            refine XS.goto X0.here hx rfl (pc0 := 42) (pc' := 46) rfl (hb hby d7_42) (by decide) (by decide) ?_
            have hj502 : (j7_0 q1 sz kl) = (1 : Int32) := by first | exact ((if_neg hc449).trans ((if_neg hc481).trans ((if_pos hc497).trans (if_pos hc501)))) | (unfold j7_0; first | (rw [if_neg hc449, if_neg hc481, if_pos hc497, if_pos hc501]) | (simp only [if_neg hc449, if_neg hc481, if_pos hc497, if_pos hc501]))
            rw [hj502] at k
            exact k
          · skip
            show Steps p.tables e below (s₁.setTop (mkF m 38 #[.val (.ref a0), .val (.long q1), .second] [(.int (lcmpW (kl.getD 2 0) q1))])) _
            refine XS.ifYes X0.here hx rfl (pc0 := 38) (pc' := 45) rfl (hb hby d7_38) rfl ((if0 _ _).trans (feq (mt (own_eq (kl.getD 2 0) q1).mp hc501)).2) (by decide) (by decide) ?_
            show Steps p.tables e below (s₁.setTop (mkF m 45 #[.val (.ref a0), .val (.long q1), .second] [])) _
            refine XS.iconst X0.here hx rfl (hb hby d7_45) ?_
            have hj503 : (j7_0 q1 sz kl) = (0 : Int32) := by first | exact ((if_neg hc449).trans ((if_neg hc481).trans ((if_pos hc497).trans (if_neg hc501)))) | (unfold j7_0; first | (rw [if_neg hc449, if_neg hc481, if_pos hc497, if_neg hc501]) | (simp only [if_neg hc449, if_neg hc481, if_pos hc497, if_neg hc501]))
            rw [hj503] at k
            exact k
        · skip
          show Steps p.tables e below (s₁.setTop (mkF m 30 #[.val (.ref a0), .val (.long q1), .second] [(.int (2 : Int32)), (.int sz)])) _
          refine XS.icmpYes X0.here hx rfl (pc0 := 30) (pc' := 45) rfl (hb hby d7_30) rfl (flt hc497).2.2.2 (by decide) (by decide) ?_
          show Steps p.tables e below (s₁.setTop (mkF m 45 #[.val (.ref a0), .val (.long q1), .second] [])) _
          refine XS.iconst X0.here hx rfl (hb hby d7_45) ?_
          have hj504 : (j7_0 q1 sz kl) = (0 : Int32) := by first | exact ((if_neg hc449).trans ((if_neg hc481).trans (if_neg hc497))) | (unfold j7_0; first | (rw [if_neg hc449, if_neg hc481, if_neg hc497]) | (simp only [if_neg hc449, if_neg hc481, if_neg hc497]))
          rw [hj504] at k
          exact k)
  obtain ⟨fs, hr, hrun, hended, hW, hsame⟩ := X0.leave (v := some (.int (nar .boolean (j7_0 q1 sz kl)))) (fun h => by rw [Bd.returns] at h; cases h) (BodyLoose.notSynchronized Bd)
  refine ⟨_, _, pre448 _ ?_, hrun, hended, _, _, rfl, ?_, ⟨_, rfl⟩, hW, hsame.mono (by decide) (by decide)⟩
  · skip
    show Steps p.tables e below (s₁.setTop (mkF m 46 #[.val (.ref a0), .val (.long q1), .second] [(.int (j7_0 q1 sz kl))])) _
    exact retN X0 hx (t := .boolean) Bd.returns (by simp) (hb hby d7_46) hr
  · show Q7 Z a0 q1 sz kl k_a0 h0 n0 _ s₁.heap _
    rw [e0]
    exact ⟨rfl, N0, rfl⟩
def own_k0 : List Int64 := [0, 0, 0, 0, 0, 0, 0, 0, 0, 0, 0, 0, 0, 0, 0, 0]
def own_v0 : List Int32 := [-1, -1, -1, -1, -1, -1, -1, -1, -1, -1, -1, -1, -1, -1, -1, -1]
theorem own_lm {x a b : Int32} (h : x < a) (q : ¬ b < a) : x < b := by
  rw [Int32.lt_iff_toInt_lt] at *; omega
theorem own_lf {x a b : Int32} (h : ¬ x < a) (q : ¬ a < b) : ¬ x < b := by
  rw [Int32.lt_iff_toInt_lt] at *; omega
def own_h (k : Int64) : Nat := (own_slot k (15 : Int32)).toNatClampNeg
theorem own_a15n (x : Int32) : (x &&& (15 : Int32)).toInt = x.toInt % 2 ^ 4 := Jvm.Kit.i32_mask x 15 (k := 4) (by decide) (by decide)
theorem own_h16 (k : Int64) : own_h k < 16 := own_n15 _
theorem own_slotI (k : Int64) : (own_slot k (15 : Int32)).toInt = own_h k := by
  have e := own_a15n (((k * (-7046029254386353131 : Int64)) ^^^ (((k * (-7046029254386353131 : Int64)).toUInt64 >>> ((32 : Int32) &&& 0x3f).toInt64.toUInt64).toInt64)).toInt32)
  change (own_slot k (15 : Int32)).toInt = _ at e
  unfold own_h
  simp only [own_tnc]; omega
theorem own_nx (x : Int32) (i : Nat) (hi : i < 16) (h : x.toInt = i) : ((x + (1 : Int32)) &&& (15 : Int32)).toInt = ((i + 1) % 16 : Nat) ∧ ((x + (1 : Int32)) &&& (15 : Int32)).toNatClampNeg = (i + 1) % 16 := by
  have o : (1 : Int32).toInt = 1 := rfl
  have e1 : (x + (1 : Int32)).toInt = i + 1 := by rw [Jvm.Kit.i32_add] <;> rw [h, o] <;> omega
  have e2 : ((x + (1 : Int32)) &&& (15 : Int32)).toInt = ((i + 1) % 16 : Nat) := by rw [own_a15n, e1]; omega
  exact ⟨e2, by simp only [own_tnc, e2]; omega⟩
/-- the three places that put looks at -/
theorem own_put0 (k : Int64) (p sz : Int32) (ks : List Int64) (vs : List Int32) :
    (vs.getD (own_h k) 0 = (-1 : Int32) → j4_0 k sz ks vs = sz + 1 ∧ j4_1 k ks vs = ks.set (own_h k) k ∧ j4_2 k p ks vs = vs.set (own_h k) p) ∧
    (¬ vs.getD (own_h k) 0 = (-1 : Int32) → ks.getD (own_h k) 0 = k → j4_0 k sz ks vs = sz ∧ j4_1 k ks vs = ks ∧ j4_2 k p ks vs = vs.set (own_h k) p) ∧
    (¬ vs.getD (own_h k) 0 = (-1 : Int32) → ¬ ks.getD (own_h k) 0 = k → vs.getD ((own_h k + 1) % 16) 0 = (-1 : Int32) → j4_0 k sz ks vs = sz + 1 ∧ j4_1 k ks vs = ks.set ((own_h k + 1) % 16) k ∧ j4_2 k p ks vs = vs.set ((own_h k + 1) % 16) p) ∧
    (¬ vs.getD (own_h k) 0 = (-1 : Int32) → ¬ ks.getD (own_h k) 0 = k → ¬ vs.getD ((own_h k + 1) % 16) 0 = (-1 : Int32) → ks.getD ((own_h k + 1) % 16) 0 = k → j4_0 k sz ks vs = sz ∧ j4_1 k ks vs = ks ∧ j4_2 k p ks vs = vs.set ((own_h k + 1) % 16) p) ∧
    (¬ vs.getD (own_h k) 0 = (-1 : Int32) → ¬ ks.getD (own_h k) 0 = k → ¬ vs.getD ((own_h k + 1) % 16) 0 = (-1 : Int32) → ¬ ks.getD ((own_h k + 1) % 16) 0 = k → j4_0 k sz ks vs = sz + 1 ∧ j4_1 k ks vs = ks.set (((own_h k + 1) % 16 + 1) % 16) k ∧ j4_2 k p ks vs = vs.set (((own_h k + 1) % 16 + 1) % 16) p) := by
  have h0 := own_h16 k
  obtain ⟨a1, a2⟩ := own_nx _ _ h0 (own_slotI k)
  obtain ⟨b1, b2⟩ := own_nx _ _ (Nat.mod_lt _ (by decide)) a1
  have e0 : (own_slot k (15 : Int32)).toNatClampNeg = own_h k := rfl
  unfold j4_0 j4_1 j4_2 own_gi own_gj own_si own_sj
  simp only [e0, a2, b2]
  refine ⟨fun h => ?_, fun h g => ?_, fun h g i => ?_, fun h g i j => ?_, fun h g i j => ?_⟩
  · simp only [if_pos h]; exact ⟨trivial, trivial, trivial⟩
  · simp only [if_neg h, if_pos g]; exact ⟨trivial, trivial, trivial⟩
  · simp only [if_neg h, if_neg g, if_pos i]; exact ⟨trivial, trivial, trivial⟩
  · simp only [if_neg h, if_neg g, if_neg i, if_pos j]; exact ⟨trivial, trivial, trivial⟩
  · simp only [if_neg h, if_neg g, if_neg i, if_neg j]; exact ⟨trivial, trivial, trivial⟩
theorem own_sdi (l : List Int32) (j : Nat) (v : Int32) (hj : j < l.length) (i : Nat) : (l.set j v).getD i 0 = if i = j then v else l.getD i 0 := by
  simp only [List.getD_eq_getElem?_getD]
  by_cases h : i = j
  · subst h; simp [hj]
  · rw [List.getElem?_set_ne (fun q => h q.symm), if_neg h]
theorem own_sdj (l : List Int64) (j : Nat) (v : Int64) (hj : j < l.length) (i : Nat) : (l.set j v).getD i 0 = if i = j then v else l.getD i 0 := by
  simp only [List.getD_eq_getElem?_getD]
  by_cases h : i = j
  · subst h; simp [hj]
  · rw [List.getElem?_set_ne (fun q => h q.symm), if_neg h]
/-- a place that is occupied is written over: nothing is turned -/
theorem own_clold (ks : List Int64) (vs : List Int32) (i : Nat) (v : Int32) (hi : i < vs.length) (h1 : ¬ vs.getD i 0 = (-1 : Int32)) (h2 : ¬ v = (-1 : Int32)) : ∀ n, own_coll ks (vs.set i v) n = own_coll ks vs n
  | 0 => rfl
  | n + 1 => by
    show (if (vs.set i v).getD n 0 = (-1 : Int32) then own_coll ks (vs.set i v) n else own_coll ks (vs.set i v) n ++ [ks.getD n 0]) = (if vs.getD n 0 = (-1 : Int32) then own_coll ks vs n else own_coll ks vs n ++ [ks.getD n 0])
    rw [own_clold ks vs i v hi h1 h2 n, own_sdi vs i v hi n]
    by_cases e : n = i
    · subst e; rw [if_pos rfl, if_neg h2, if_neg h1]
    · rw [if_neg e]
theorem own_clnew (ks : List Int64) (vs : List Int32) (i : Nat) (k : Int64) (v : Int32) (hi : i < vs.length) (hk : i < ks.length) (h1 : vs.getD i 0 = (-1 : Int32)) (h2 : ¬ v = (-1 : Int32)) :
    ∀ n, (n ≤ i → own_coll (ks.set i k) (vs.set i v) n = own_coll ks vs n) ∧ (i < n → (own_coll (ks.set i k) (vs.set i v) n).length = (own_coll ks vs n).length + 1 ∧ ∀ x, x ∈ own_coll (ks.set i k) (vs.set i v) n ↔ x = k ∨ x ∈ own_coll ks vs n)
  | 0 => ⟨fun _ => rfl, fun h => absurd h (Nat.not_lt_zero _)⟩
  | n + 1 => by
    obtain ⟨p, q⟩ := own_clnew ks vs i k v hi hk h1 h2 n
    have e1 : own_coll (ks.set i k) (vs.set i v) (n + 1) = if (vs.set i v).getD n 0 = (-1 : Int32) then own_coll (ks.set i k) (vs.set i v) n else own_coll (ks.set i k) (vs.set i v) n ++ [(ks.set i k).getD n 0] := rfl
    have e2 : own_coll ks vs (n + 1) = if vs.getD n 0 = (-1 : Int32) then own_coll ks vs n else own_coll ks vs n ++ [ks.getD n 0] := rfl
    rw [own_sdi vs i v hi n, own_sdj ks i k hk n] at e1
    refine ⟨fun h => ?_, fun h => ?_⟩
    · have ne : n ≠ i := by omega
      rw [if_neg ne, if_neg ne, p (by omega)] at e1
      rw [e1, e2]
    · by_cases e : n = i
      · subst e
        rw [if_pos rfl, if_pos rfl, if_neg h2, p (Nat.le_refl _)] at e1
        rw [if_pos h1] at e2
        rw [e1, e2]
        refine ⟨by simp, fun x => ?_⟩
        simp only [List.mem_append, List.mem_singleton]
        exact ⟨fun z => z.elim Or.inr Or.inl, fun z => z.elim Or.inr Or.inl⟩
      · obtain ⟨q1, q2⟩ := q (by omega)
        rw [if_neg e, if_neg e] at e1
        by_cases f : vs.getD n 0 = (-1 : Int32)
        · rw [if_pos f] at e1 e2; rw [e1, e2]; exact ⟨q1, q2⟩
        · rw [if_neg f] at e1 e2; rw [e1, e2]
          refine ⟨by simp [q1], fun x => ?_⟩
          simp only [List.mem_append, List.mem_singleton, q2 x]
          exact ⟨fun z => z.elim (fun y => y.elim Or.inl fun w => Or.inr (Or.inl w)) fun y => Or.inr (Or.inr y), fun z => z.elim (fun y => Or.inl (Or.inl y)) fun y => y.elim (fun w => Or.inl (Or.inr w)) Or.inr⟩
/-- what the store holds: the keys with their places -/
def own_Inv (ks : List Int64) (vs : List Int32) (sz : Int32) (O : List (Int64 × Nat)) : Prop :=
  ks.length = 16 ∧ vs.length = 16 ∧ sz = own_i O.length ∧ (∀ i, i < 16 → (¬ vs.getD i 0 = (-1 : Int32) ↔ ∃ k, (k, i) ∈ O)) ∧ (∀ k i, (k, i) ∈ O → i < 16 ∧ ks.getD i 0 = k) ∧
  (own_coll ks vs 16).length = O.length ∧ (∀ x, x ∈ own_coll ks vs 16 ↔ ∃ i, (x, i) ∈ O)
/-- .. and a key lies where put finds it -/
def own_Rch (O : List (Int64 × Nat)) : Prop := ∀ k i, (k, i) ∈ O → i = own_h k ∨ (i = (own_h k + 1) % 16 ∧ ∃ k', (k', own_h k) ∈ O ∧ k' ≠ k)
theorem own_inv0 : own_Inv own_k0 own_v0 0 [] := by
  refine ⟨rfl, rfl, rfl, fun i hi => ?_, fun k i h => by simp at h, by decide, fun x => ?_⟩
  · have : ∀ m : Fin 16, own_v0.getD m.1 0 = (-1 : Int32) := by decide
    exact ⟨fun h => absurd (this ⟨i, hi⟩) h, fun ⟨k, h⟩ => by simp at h⟩
  · have : own_coll own_k0 own_v0 16 = [] := by decide
    rw [this]; simp
theorem own_inv_new {ks : List Int64} {vs : List Int32} {sz : Int32} {O : List (Int64 × Nat)} (H : own_Inv ks vs sz O) (i : Nat) (k : Int64) (p : Int32) (hi : i < 16) (hp : ¬ p = (-1 : Int32)) (hf : vs.getD i 0 = (-1 : Int32)) : own_Inv (ks.set i k) (vs.set i p) (sz + 1) ((k, i) :: O) := by
  obtain ⟨a, b, c, d, e, f, g⟩ := H
  obtain ⟨-, q⟩ := own_clnew ks vs i k p (by omega) (by omega) hf hp 16
  obtain ⟨q1, q2⟩ := q hi
  refine ⟨by rw [List.length_set]; exact a, by rw [List.length_set]; exact b, by rw [c]; rfl, fun j hj => ?_, fun k' j h => ?_, by rw [q1, f]; rfl, fun x => ?_⟩
  · rw [own_sdi vs i p (by omega) j]
    by_cases z : j = i
    · subst z; rw [if_pos rfl]; exact ⟨fun _ => ⟨k, List.mem_cons_self⟩, fun _ => hp⟩
    · rw [if_neg z, d j hj]
      refine ⟨fun ⟨k', h⟩ => ⟨k', List.mem_cons_of_mem _ h⟩, fun ⟨k', h⟩ => ⟨k', ?_⟩⟩
      rcases List.mem_cons.mp h with h | h
      · exact absurd (congrArg Prod.snd h) z
      · exact h
  · rw [own_sdj ks i k (by omega) j]
    rcases List.mem_cons.mp h with h | h
    · cases h; rw [if_pos rfl]; exact ⟨hi, rfl⟩
    · obtain ⟨u, w⟩ := e k' j h
      have z : j ≠ i := fun z => ((d j u).mpr ⟨k', h⟩) (z ▸ hf)
      rw [if_neg z]; exact ⟨u, w⟩
  · rw [q2, g]
    refine ⟨fun h => h.elim (fun y => ⟨i, by rw [y]; exact List.mem_cons_self⟩) fun ⟨j, y⟩ => ⟨j, List.mem_cons_of_mem _ y⟩, fun ⟨j, h⟩ => ?_⟩
    rcases List.mem_cons.mp h with h | h
    · exact Or.inl (congrArg Prod.fst h)
    · exact Or.inr ⟨j, h⟩
theorem own_inv_old {ks : List Int64} {vs : List Int32} {sz : Int32} {O : List (Int64 × Nat)} (H : own_Inv ks vs sz O) (i : Nat) (p : Int32) (hi : i < 16) (hp : ¬ p = (-1 : Int32)) (hf : ¬ vs.getD i 0 = (-1 : Int32)) : own_Inv ks (vs.set i p) sz O := by
  obtain ⟨a, b, c, d, e, f, g⟩ := H
  have q := own_clold ks vs i p (by omega) hf hp 16
  refine ⟨a, by rw [List.length_set]; exact b, c, fun j hj => ?_, e, by rw [q]; exact f, fun x => by rw [q]; exact g x⟩
  rw [own_sdi vs i p (by omega) j]
  by_cases z : j = i
  · subst z; rw [if_pos rfl]; exact ⟨fun _ => (d j hj).mp hf, fun _ => hp⟩
  · rw [if_neg z]; exact d j hj
/-- one put: a key that is held stays the only one; another comes to a free place -/
theorem own_put {ks : List Int64} {vs : List Int32} {sz : Int32} {O : List (Int64 × Nat)} (H : own_Inv ks vs sz O) (Rc : own_Rch O) (hO : O.length ≤ 2) (k : Int64) (p : Int32) (hp : ¬ p = (-1 : Int32)) :
    (∃ O', own_Inv (j4_1 k ks vs) (j4_2 k p ks vs) (j4_0 k sz ks vs) O' ∧ (((∃ i, (k, i) ∈ O) ∧ O' = O) ∨ ((¬ ∃ i, (k, i) ∈ O) ∧ ∃ i, O' = (k, i) :: O ∧ i < 16 ∧ (O.length ≤ 1 → i = own_h k ∨ (i = (own_h k + 1) % 16 ∧ ∃ k', (k', own_h k) ∈ O ∧ k' ≠ k))))) ∧
    (¬ vs.getD (own_h k) 0 = (-1 : Int32) → ¬ ks.getD (own_h k) 0 = k → ¬ vs.getD ((own_h k + 1) % 16) 0 = (-1 : Int32) → ¬ ks.getD ((own_h k + 1) % 16) 0 = k → vs.getD (((own_h k + 1) % 16 + 1) % 16) 0 = (-1 : Int32)) := by
  have H' := H
  obtain ⟨a, b, c, d, e, f, g⟩ := H'
  obtain ⟨r0, r1, r2, r3, r4⟩ := own_put0 k p sz ks vs
  have h0 := own_h16 k
  have n1 : (own_h k + 1) % 16 < 16 := Nat.mod_lt _ (by decide)
  have n2 : ((own_h k + 1) % 16 + 1) % 16 < 16 := Nat.mod_lt _ (by decide)
  -- where k is held it is found
  have held : ∀ i, (k, i) ∈ O → (i = own_h k ∧ ¬ vs.getD (own_h k) 0 = (-1 : Int32) ∧ ks.getD (own_h k) 0 = k) ∨ (i = (own_h k + 1) % 16 ∧ ¬ vs.getD (own_h k) 0 = (-1 : Int32) ∧ ¬ ks.getD (own_h k) 0 = k ∧ ¬ vs.getD ((own_h k + 1) % 16) 0 = (-1 : Int32) ∧ ks.getD ((own_h k + 1) % 16) 0 = k) := fun i hi => by
    obtain ⟨u, w⟩ := e k i hi
    rcases Rc k i hi with z | ⟨z, k', y, ne⟩
    · subst z; exact Or.inl ⟨rfl, (d _ u).mpr ⟨k, hi⟩, w⟩
    · subst z
      obtain ⟨u', w'⟩ := e k' _ y
      exact Or.inr ⟨rfl, (d _ u').mpr ⟨k', y⟩, by rw [w']; exact ne, (d _ u).mpr ⟨k, hi⟩, w⟩
  -- three places behind one another can't all be occupied
  have free3 : ¬ vs.getD (own_h k) 0 = (-1 : Int32) → ¬ vs.getD ((own_h k + 1) % 16) 0 = (-1 : Int32) → vs.getD (((own_h k + 1) % 16 + 1) % 16) 0 = (-1 : Int32) := fun x y => Classical.byContradiction fun z => by
    obtain ⟨k1, m1⟩ := (d _ h0).mp x
    obtain ⟨k2, m2⟩ := (d _ n1).mp y
    obtain ⟨k3, m3⟩ := (d _ n2).mp z
    match O, hO, m1, m2, m3 with
    | [], _, m1, _, _ => simp at m1
    | [(u, i)], _, m1, m2, _ =>
      simp only [List.mem_singleton, Prod.mk.injEq] at m1 m2; omega
    | [(u, i), (w, j)], _, m1, m2, m3 =>
      simp only [List.mem_cons, List.not_mem_nil, or_false, Prod.mk.injEq] at m1 m2 m3; omega
    | _ :: _ :: _ :: l, hO, _, _, _ => exact absurd hO (by simp only [List.length_cons]; omega)
  refine ⟨?_, fun x _ y _ => free3 x y⟩
  by_cases p1 : vs.getD (own_h k) 0 = (-1 : Int32)
  · obtain ⟨s0, s1, s2⟩ := r0 p1
    rw [s0, s1, s2]
    refine ⟨_, own_inv_new H _ k p h0 hp p1, Or.inr ⟨fun ⟨i, hi⟩ => ?_, _, rfl, h0, fun _ => Or.inl rfl⟩⟩
    rcases held i hi with z | z
    · exact z.2.1 p1
    · exact z.2.1 p1
  · by_cases p2 : ks.getD (own_h k) 0 = k
    · obtain ⟨s0, s1, s2⟩ := r1 p1 p2
      rw [s0, s1, s2]
      obtain ⟨k', m'⟩ := (d _ h0).mp p1
      have : k' = k := ((e k' _ m').2).symm.trans p2
      exact ⟨O, own_inv_old H _ p h0 hp p1, Or.inl ⟨⟨_, this ▸ m'⟩, rfl⟩⟩
    · by_cases p3 : vs.getD ((own_h k + 1) % 16) 0 = (-1 : Int32)
      · obtain ⟨s0, s1, s2⟩ := r2 p1 p2 p3
        rw [s0, s1, s2]
        refine ⟨_, own_inv_new H _ k p n1 hp p3, Or.inr ⟨fun ⟨i, hi⟩ => ?_, _, rfl, n1, fun _ => Or.inr ⟨rfl, ?_⟩⟩⟩
        · rcases held i hi with z | z
          · exact p2 z.2.2
          · exact z.2.2.2.1 p3
        · obtain ⟨k', m'⟩ := (d _ h0).mp p1
          exact ⟨k', m', fun q => p2 ((e k' _ m').2.trans q)⟩
      · by_cases p4 : ks.getD ((own_h k + 1) % 16) 0 = k
        · obtain ⟨s0, s1, s2⟩ := r3 p1 p2 p3 p4
          rw [s0, s1, s2]
          obtain ⟨k', m'⟩ := (d _ n1).mp p3
          have : k' = k := ((e k' _ m').2).symm.trans p4
          exact ⟨O, own_inv_old H _ p n1 hp p3, Or.inl ⟨⟨_, this ▸ m'⟩, rfl⟩⟩
        · obtain ⟨s0, s1, s2⟩ := r4 p1 p2 p3 p4
          rw [s0, s1, s2]
          refine ⟨_, own_inv_new H _ k p n2 hp (free3 p1 p3), Or.inr ⟨fun ⟨i, hi⟩ => ?_, _, rfl, n2, fun hl => ?_⟩⟩
          · rcases held i hi with z | z
            · exact p2 z.2.2
            · exact p4 z.2.2.2.2
          · obtain ⟨k1, m1⟩ := (d _ h0).mp p1
            obtain ⟨k2, m2⟩ := (d _ n1).mp p3
            exfalso
            match O, hl, m1, m2 with
            | [], _, m1, _ => simp at m1
            | [(u, i)], _, m1, m2 => simp only [List.mem_singleton, Prod.mk.injEq] at m1 m2; omega
            | _ :: _ :: l, hl, _, _ => exact absurd hl (by simp only [List.length_cons]; omega)
theorem own_res16 (ks : List Int64) (vs : List Int32) : own_res ks vs 16 = own_coll ks vs 16 := by
  unfold own_res; rw [Nat.sub_self]; simp
theorem own_has (x : Int64) (sz : Int32) (l : List Int64) (h : sz = own_i l.length) (h3 : l.length ≤ 3) (hx : x ∈ l) : ¬ nar .boolean (j7_0 x sz l) = 0 := by
  have one : ¬ nar .boolean 1 = 0 := by decide
  subst h
  match l, h3, hx with
  | [], _, hx => simp at hx
  | [a], _, hx =>
    simp only [List.mem_singleton] at hx; subst hx
    show ¬ nar .boolean (j7_0 x 1 [x]) = 0
    have : j7_0 x 1 [x] = 1 := by unfold j7_0; simp only [List.getD_cons_zero]; rw [if_pos (by decide), if_pos trivial]
    rw [this]; exact one
  | [a, b], _, hx =>
    show ¬ nar .boolean (j7_0 x 2 [a, b]) = 0
    have : j7_0 x 2 [a, b] = 1 := by
      unfold j7_0
      simp only [List.getD_cons_zero, List.getD_cons_succ]
      rw [if_pos (by decide)]
      by_cases q : a = x
      · rw [if_pos q]
      · simp only [List.mem_cons, List.not_mem_nil, or_false] at hx
        have : b = x := (hx.resolve_left fun y => q y.symm).symm
        rw [if_neg q, if_pos (by decide), if_pos this]
    rw [this]; exact one
  | [a, b, c], _, hx =>
    show ¬ nar .boolean (j7_0 x 3 [a, b, c]) = 0
    have : j7_0 x 3 [a, b, c] = 1 := by
      unfold j7_0
      simp only [List.getD_cons_zero, List.getD_cons_succ]
      rw [if_pos (by decide)]
      by_cases q : a = x
      · rw [if_pos q]
      · rw [if_neg q, if_pos (by decide)]
        by_cases r : b = x
        · rw [if_pos r]
        · simp only [List.mem_cons, List.not_mem_nil, or_false] at hx
          have : c = x := ((hx.resolve_left fun y => q y.symm).resolve_left fun y => r y.symm).symm
          rw [if_neg r, if_pos (by decide), if_pos this]
    rw [this]; exact one
  | _ :: _ :: _ :: _ :: l, h3, _ => exact absurd h3 (by simp only [List.length_cons]; omega)
theorem own_v3 (p : Int32) (s : Int32) : ¬ (((p.toUInt32 >>> (s &&& 31).toUInt32).toInt32) &&& (3 : Int32)) = (-1 : Int32) := by
  have e : ∀ x : Int32, (x &&& (3 : Int32)).toInt = x.toInt % 2 ^ 2 := fun x => Jvm.Kit.i32_mask x 3 (k := 2) (by decide) (by decide)
  rw [← Int32.toInt_inj, e, show (-1 : Int32).toInt = -1 from rfl]; omega
theorem own_v22 (p : Int32) (s : Int32) : ¬ (((p.toUInt32 >>> (s &&& 31).toUInt32).toInt32) &&& (4194303 : Int32)) = (-1 : Int32) := by
  have e : ∀ x : Int32, (x &&& (4194303 : Int32)).toInt = x.toInt % 2 ^ 22 := fun x => Jvm.Kit.i32_mask x 4194303 (k := 22) (by decide) (by decide)
  rw [← Int32.toInt_inj, e, show (-1 : Int32).toInt = -1 from rfl]; omega
theorem own_rch0 : own_Rch [] := fun k i h => by simp at h
/-- behind the first put -/
theorem own_s1 (a : Int64) (p : Int32) (hp : ¬ p = (-1 : Int32)) : ∃ i, own_Inv (j4_1 a own_k0 own_v0) (j4_2 a p own_k0 own_v0) (j4_0 a 0 own_k0 own_v0) [(a, i)] ∧ own_Rch [(a, i)] := by
  obtain ⟨⟨O', H, h⟩, -⟩ := own_put own_inv0 own_rch0 (by decide) a p hp
  rcases h with ⟨⟨i, h⟩, -⟩ | ⟨-, i, rfl, -, r⟩
  · simp at h
  · refine ⟨i, H, fun k j hj => ?_⟩
    simp only [List.mem_singleton, Prod.mk.injEq] at hj
    obtain ⟨rfl, rfl⟩ := hj
    rcases r (by decide) with z | ⟨z, k', y, -⟩
    · exact Or.inl z
    · simp at y
/-- behind the second -/
theorem own_s2 {a : Int64} {i : Nat} {ks : List Int64} {vs : List Int32} {sz : Int32} (H : own_Inv ks vs sz [(a, i)]) (Rc : own_Rch [(a, i)]) (b : Int64) (p : Int32) (hp : ¬ p = (-1 : Int32)) :
    ∃ O, own_Inv (j4_1 b ks vs) (j4_2 b p ks vs) (j4_0 b sz ks vs) O ∧ own_Rch O ∧ ((b = a ∧ O = [(a, i)]) ∨ (¬ b = a ∧ ∃ j, O = [(b, j), (a, i)])) := by
  obtain ⟨⟨O', H', h⟩, -⟩ := own_put H Rc (by simp) b p hp
  rcases h with ⟨⟨j, h⟩, rfl⟩ | ⟨n, j, rfl, -, r⟩
  · simp only [List.mem_singleton, Prod.mk.injEq] at h
    exact ⟨_, H', Rc, Or.inl ⟨h.1, rfl⟩⟩
  · refine ⟨_, H', fun k l hl => ?_, Or.inr ⟨fun q => n ⟨i, by simp [q]⟩, j, rfl⟩⟩
    rcases List.mem_cons.mp hl with hl | hl
    · simp only [Prod.mk.injEq] at hl
      obtain ⟨rfl, rfl⟩ := hl
      rcases r (by simp) with z | ⟨z, k', y, ne⟩
      · exact Or.inl z
      · exact Or.inr ⟨z, k', List.mem_cons_of_mem _ y, ne⟩
    · rcases Rc k l hl with z | ⟨z, k', y, ne⟩
      · exact Or.inl z
      · exact Or.inr ⟨z, k', List.mem_cons_of_mem _ y, ne⟩
theorem own_s3 {O : List (Int64 × Nat)} {ks : List Int64} {vs : List Int32} {sz : Int32} (H : own_Inv ks vs sz O) (Rc : own_Rch O) (hO : O.length ≤ 2) (c : Int64) (p : Int32) (hp : ¬ p = (-1 : Int32)) :
    ∃ O', own_Inv (j4_1 c ks vs) (j4_2 c p ks vs) (j4_0 c sz ks vs) O' ∧ (((∃ i, (c, i) ∈ O) ∧ O' = O) ∨ ((¬ ∃ i, (c, i) ∈ O) ∧ ∃ j, O' = (c, j) :: O)) := by
  obtain ⟨⟨O', H', h⟩, -⟩ := own_put H Rc hO c p hp
  rcases h with h | ⟨n, j, rfl, -, -⟩
  · exact ⟨O', H', Or.inl h⟩
  · exact ⟨_, H', Or.inr ⟨n, j, rfl⟩⟩
/-- the words that the calls ask -/
theorem own_w1 {ks : List Int64} {vs : List Int32} {sz : Int32} {O : List (Int64 × Nat)} (H : own_Inv ks vs sz O) : ks.length = 16 ∧ vs.length = 16 := ⟨H.1, H.2.1⟩
theorem own_wsz {ks : List Int64} {vs : List Int32} {sz : Int32} {O : List (Int64 × Nat)} (H : own_Inv ks vs sz O) (hO : O.length ≤ 2) : ¬ (16 : Int32) < ((2 : Int32) * (sz + (1 : Int32))) := by
  rw [H.2.2.1]
  match O, hO with
  | [], _ => decide
  | [_], _ => show ¬ (16 : Int32) < ((2 : Int32) * (own_i 1 + (1 : Int32))); decide
  | [_, _], _ => show ¬ (16 : Int32) < ((2 : Int32) * (own_i 2 + (1 : Int32))); decide
  | _ :: _ :: _ :: l, hO => exact absurd hO (by simp only [List.length_cons]; omega)
theorem own_wfree {ks : List Int64} {vs : List Int32} {sz : Int32} {O : List (Int64 × Nat)} (H : own_Inv ks vs sz O) (Rc : own_Rch O) (hO : O.length ≤ 2) (k : Int64) :
    ¬ (own_gi vs (own_slot k (15 : Int32))) = (-1 : Int32) → ¬ (own_gj ks (own_slot k (15 : Int32))) = k → ¬ (own_gi vs (((own_slot k (15 : Int32)) + (1 : Int32)) &&& (15 : Int32))) = (-1 : Int32) → ¬ (own_gj ks (((own_slot k (15 : Int32)) + (1 : Int32)) &&& (15 : Int32))) = k → (own_gi vs (((((own_slot k (15 : Int32)) + (1 : Int32)) &&& (15 : Int32)) + (1 : Int32)) &&& (15 : Int32))) = (-1 : Int32) := by
  have h0 := own_h16 k
  obtain ⟨a1, a2⟩ := own_nx _ _ h0 (own_slotI k)
  obtain ⟨b1, b2⟩ := own_nx _ _ (Nat.mod_lt _ (by decide)) a1
  have e0 : (own_slot k (15 : Int32)).toNatClampNeg = own_h k := rfl
  unfold own_gi own_gj
  simp only [e0, a2, b2]
  exact (own_put H Rc hO k 0 (by decide)).2
theorem own_wk {ks : List Int64} {vs : List Int32} {sz : Int32} {O : List (Int64 × Nat)} (H : own_Inv ks vs sz O) (hO : O.length ≤ 3) : (own_coll ks vs 16).length = sz.toNatClampNeg ∧ ¬ sz < (0 : Int32) ∧ (own_coll ks vs 16).length ≤ 3 := by
  have e : (own_coll ks vs 16).length = O.length := H.2.2.2.2.2.1
  have hs := own_in O.length (by omega)
  have z : (0 : Int32).toInt = 0 := rfl
  refine ⟨?_, ?_, by omega⟩
  · rw [e, H.2.2.1, own_tn O.length (by omega)]
  · rw [H.2.2.1, Int32.lt_iff_toInt_lt, hs]; omega
/-- an end: the store holds just these keys -/
theorem own_end {ks : List Int64} {vs : List Int32} {sz : Int32} {O : List (Int64 × Nat)} (H : own_Inv ks vs sz O) (hO : O.length ≤ 3) {x : Int64} {i : Nat} (hx : (x, i) ∈ O) : ¬ nar .boolean (j7_0 x sz (own_res ks vs 16)) = 0 := by
  have e : (own_coll ks vs 16).length = O.length := H.2.2.2.2.2.1
  rw [own_res16]
  exact own_has x sz _ (by rw [e]; exact H.2.2.1) (by omega) ((H.2.2.2.2.2.2 x).mpr ⟨i, hx⟩)
def own_Free (ks : List Int64) (vs : List Int32) (k : Int64) : Prop := ¬ (own_gi vs (own_slot k (15 : Int32))) = (-1 : Int32) → ¬ (own_gj ks (own_slot k (15 : Int32))) = k → ¬ (own_gi vs (((own_slot k (15 : Int32)) + (1 : Int32)) &&& (15 : Int32))) = (-1 : Int32) → ¬ (own_gj ks (((own_slot k (15 : Int32)) + (1 : Int32)) &&& (15 : Int32))) = k → (own_gi vs (((((own_slot k (15 : Int32)) + (1 : Int32)) &&& (15 : Int32)) + (1 : Int32)) &&& (15 : Int32))) = (-1 : Int32)
def own_Wd (ks : List Int64) (vs : List Int32) (sz : Int32) : Prop := ks.length = 16 ∧ vs.length = 16 ∧ ¬ (16 : Int32) < ((2 : Int32) * (sz + (1 : Int32))) ∧ ∀ k, own_Free ks vs k
def own_Kw (ks : List Int64) (vs : List Int32) (sz : Int32) : Prop := (own_coll ks vs 16).length = sz.toNatClampNeg ∧ ¬ sz < (0 : Int32) ∧ (own_coll ks vs 16).length ≤ 3
theorem own_wd {ks : List Int64} {vs : List Int32} {sz : Int32} {O : List (Int64 × Nat)} (H : own_Inv ks vs sz O) (Rc : own_Rch O) (hO : O.length ≤ 2) : own_Wd ks vs sz := ⟨H.1, H.2.1, own_wsz H hO, fun k => own_wfree H Rc hO k⟩
theorem own_W0 : own_Wd own_k0 own_v0 0 := own_wd own_inv0 own_rch0 (by decide)
theorem own_K0 : own_Kw own_k0 own_v0 0 := own_wk own_inv0 (by decide)
theorem own_W1 (a : Int64) (p : Int32) (hp : ¬ p = (-1 : Int32)) : own_Wd (j4_1 a own_k0 own_v0) (j4_2 a p own_k0 own_v0) (j4_0 a 0 own_k0 own_v0) := by
  obtain ⟨i, H, Rc⟩ := own_s1 a p hp; exact own_wd H Rc (by simp)
theorem own_K1 (a : Int64) (p : Int32) (hp : ¬ p = (-1 : Int32)) : own_Kw (j4_1 a own_k0 own_v0) (j4_2 a p own_k0 own_v0) (j4_0 a 0 own_k0 own_v0) := by
  obtain ⟨i, H, Rc⟩ := own_s1 a p hp; exact own_wk H (by simp)
theorem own_W2 (a : Int64) (p : Int32) (hp : ¬ p = (-1 : Int32)) (b : Int64) (p' : Int32) (hp' : ¬ p' = (-1 : Int32)) : own_Wd (j4_1 b (j4_1 a own_k0 own_v0) (j4_2 a p own_k0 own_v0)) (j4_2 b p' (j4_1 a own_k0 own_v0) (j4_2 a p own_k0 own_v0)) (j4_0 b (j4_0 a 0 own_k0 own_v0) (j4_1 a own_k0 own_v0) (j4_2 a p own_k0 own_v0)) := by
  obtain ⟨i, H, Rc⟩ := own_s1 a p hp
  obtain ⟨O, H2, R2, h2⟩ := own_s2 H Rc b p' hp'
  exact own_wd H2 R2 (by rcases h2 with ⟨-, rfl⟩ | ⟨-, j, rfl⟩ <;> simp)
theorem own_K2 (a : Int64) (p : Int32) (hp : ¬ p = (-1 : Int32)) (b : Int64) (p' : Int32) (hp' : ¬ p' = (-1 : Int32)) : own_Kw (j4_1 b (j4_1 a own_k0 own_v0) (j4_2 a p own_k0 own_v0)) (j4_2 b p' (j4_1 a own_k0 own_v0) (j4_2 a p own_k0 own_v0)) (j4_0 b (j4_0 a 0 own_k0 own_v0) (j4_1 a own_k0 own_v0) (j4_2 a p own_k0 own_v0)) := by
  obtain ⟨i, H, Rc⟩ := own_s1 a p hp
  obtain ⟨O, H2, R2, h2⟩ := own_s2 H Rc b p' hp'
  exact own_wk H2 (by rcases h2 with ⟨-, rfl⟩ | ⟨-, j, rfl⟩ <;> simp)
theorem own_K3 (a : Int64) (p : Int32) (hp : ¬ p = (-1 : Int32)) (b : Int64) (p' : Int32) (hp' : ¬ p' = (-1 : Int32)) (c : Int64) (p'' : Int32) (hp'' : ¬ p'' = (-1 : Int32)) : own_Kw (j4_1 c (j4_1 b (j4_1 a own_k0 own_v0) (j4_2 a p own_k0 own_v0)) (j4_2 b p' (j4_1 a own_k0 own_v0) (j4_2 a p own_k0 own_v0))) (j4_2 c p'' (j4_1 b (j4_1 a own_k0 own_v0) (j4_2 a p own_k0 own_v0)) (j4_2 b p' (j4_1 a own_k0 own_v0) (j4_2 a p own_k0 own_v0))) (j4_0 c (j4_0 b (j4_0 a 0 own_k0 own_v0) (j4_1 a own_k0 own_v0) (j4_2 a p own_k0 own_v0)) (j4_1 b (j4_1 a own_k0 own_v0) (j4_2 a p own_k0 own_v0)) (j4_2 b p' (j4_1 a own_k0 own_v0) (j4_2 a p own_k0 own_v0))) := by
  obtain ⟨i, H, Rc⟩ := own_s1 a p hp
  obtain ⟨O, H2, R2, h2⟩ := own_s2 H Rc b p' hp'
  have l2 : O.length ≤ 2 := by rcases h2 with ⟨-, rfl⟩ | ⟨-, j, rfl⟩ <;> simp
  obtain ⟨O3, H3, h3⟩ := own_s3 H2 R2 l2 c p'' hp''
  exact own_wk H3 (by rcases h3 with ⟨-, rfl⟩ | ⟨-, j, rfl⟩ <;> first | omega | (simp only [List.length_cons]; omega))
theorem pd_5 : parseMethodDescriptor "()V" = some ⟨[], none⟩ := by decide +kernel
theorem pd_6 : parseMethodDescriptor "()[J" = some ⟨[], some (.array .long)⟩ := by decide +kernel
theorem pd_7 : parseMethodDescriptor "(JI)V" = some ⟨[.long, .int], none⟩ := by decide +kernel
theorem pd_8 : parseMethodDescriptor "([JJ)Z" = some ⟨[(.array .long), .long], some .boolean⟩ := by decide +kernel
def j0_0 (q0 : Int64) (q1 : Int64) (p3 : Int32) : Int64 := (if (((p3.toUInt32 >>> ((2 : Int32) &&& 31).toUInt32).toInt32) &&& (1 : Int32)) = (0 : Int32) then q1 else q0)
def j0_1 (q0 : Int64) (q1 : Int64) (q2 : Int64) (p3 : Int32) : Int64 := (if (((p3.toUInt32 >>> ((3 : Int32) &&& 31).toUInt32).toInt32) &&& (3 : Int32)) = (1 : Int32) then q0 else (if (((p3.toUInt32 >>> ((3 : Int32) &&& 31).toUInt32).toInt32) &&& (3 : Int32)) = (2 : Int32) then (j0_0 q0 q1 p3) else q2))
def v0 (q0 : Int64) (q1 : Int64) (q2 : Int64) (p3 : Int32) : Int32 := (if (p3 &&& (3 : Int32)) < (1 : Int32) then (1 : Int32) else (if (p3 &&& (3 : Int32)) < (2 : Int32) then (if (j4_0 q0 (0 : Int32) own_k0 own_v0) = (1 : Int32) then (if (nar .boolean (j7_0 q0 (j4_0 q0 (0 : Int32) own_k0 own_v0) (own_res (j4_1 q0 own_k0 own_v0) (j4_2 q0 (((p3.toUInt32 >>> ((5 : Int32) &&& 31).toUInt32).toInt32) &&& (3 : Int32)) own_k0 own_v0) 16))) = (0 : Int32) then (0 : Int32) else (1 : Int32)) else (0 : Int32)) else (if (p3 &&& (3 : Int32)) < (3 : Int32) then (if (j0_0 q0 q1 p3) = q0 then (if (j4_0 (j0_0 q0 q1 p3) (j4_0 q0 (0 : Int32) own_k0 own_v0) (j4_1 q0 own_k0 own_v0) (j4_2 q0 (((p3.toUInt32 >>> ((5 : Int32) &&& 31).toUInt32).toInt32) &&& (3 : Int32)) own_k0 own_v0)) = (1 : Int32) then (if (nar .boolean (j7_0 q0 (j4_0 (j0_0 q0 q1 p3) (j4_0 q0 (0 : Int32) own_k0 own_v0) (j4_1 q0 own_k0 own_v0) (j4_2 q0 (((p3.toUInt32 >>> ((5 : Int32) &&& 31).toUInt32).toInt32) &&& (3 : Int32)) own_k0 own_v0)) (own_res (j4_1 (j0_0 q0 q1 p3) (j4_1 q0 own_k0 own_v0) (j4_2 q0 (((p3.toUInt32 >>> ((5 : Int32) &&& 31).toUInt32).toInt32) &&& (3 : Int32)) own_k0 own_v0)) (j4_2 (j0_0 q0 q1 p3) (((p3.toUInt32 >>> ((7 : Int32) &&& 31).toUInt32).toInt32) &&& (3 : Int32)) (j4_1 q0 own_k0 own_v0) (j4_2 q0 (((p3.toUInt32 >>> ((5 : Int32) &&& 31).toUInt32).toInt32) &&& (3 : Int32)) own_k0 own_v0)) 16))) = (0 : Int32) then (0 : Int32) else (1 : Int32)) else (0 : Int32)) else (if (j4_0 (j0_0 q0 q1 p3) (j4_0 q0 (0 : Int32) own_k0 own_v0) (j4_1 q0 own_k0 own_v0) (j4_2 q0 (((p3.toUInt32 >>> ((5 : Int32) &&& 31).toUInt32).toInt32) &&& (3 : Int32)) own_k0 own_v0)) = (2 : Int32) then (if (nar .boolean (j7_0 q0 (j4_0 (j0_0 q0 q1 p3) (j4_0 q0 (0 : Int32) own_k0 own_v0) (j4_1 q0 own_k0 own_v0) (j4_2 q0 (((p3.toUInt32 >>> ((5 : Int32) &&& 31).toUInt32).toInt32) &&& (3 : Int32)) own_k0 own_v0)) (own_res (j4_1 (j0_0 q0 q1 p3) (j4_1 q0 own_k0 own_v0) (j4_2 q0 (((p3.toUInt32 >>> ((5 : Int32) &&& 31).toUInt32).toInt32) &&& (3 : Int32)) own_k0 own_v0)) (j4_2 (j0_0 q0 q1 p3) (((p3.toUInt32 >>> ((7 : Int32) &&& 31).toUInt32).toInt32) &&& (3 : Int32)) (j4_1 q0 own_k0 own_v0) (j4_2 q0 (((p3.toUInt32 >>> ((5 : Int32) &&& 31).toUInt32).toInt32) &&& (3 : Int32)) own_k0 own_v0)) 16))) = (0 : Int32) then (0 : Int32) else (if (nar .boolean (j7_0 (j0_0 q0 q1 p3) (j4_0 (j0_0 q0 q1 p3) (j4_0 q0 (0 : Int32) own_k0 own_v0) (j4_1 q0 own_k0 own_v0) (j4_2 q0 (((p3.toUInt32 >>> ((5 : Int32) &&& 31).toUInt32).toInt32) &&& (3 : Int32)) own_k0 own_v0)) (own_res (j4_1 (j0_0 q0 q1 p3) (j4_1 q0 own_k0 own_v0) (j4_2 q0 (((p3.toUInt32 >>> ((5 : Int32) &&& 31).toUInt32).toInt32) &&& (3 : Int32)) own_k0 own_v0)) (j4_2 (j0_0 q0 q1 p3) (((p3.toUInt32 >>> ((7 : Int32) &&& 31).toUInt32).toInt32) &&& (3 : Int32)) (j4_1 q0 own_k0 own_v0) (j4_2 q0 (((p3.toUInt32 >>> ((5 : Int32) &&& 31).toUInt32).toInt32) &&& (3 : Int32)) own_k0 own_v0)) 16))) = (0 : Int32) then (0 : Int32) else (1 : Int32))) else (0 : Int32))) else (if (j0_0 q0 q1 p3) = q0 then (if (j0_1 q0 q1 q2 p3) = q0 then (if (j4_0 (j0_1 q0 q1 q2 p3) (j4_0 (j0_0 q0 q1 p3) (j4_0 q0 (0 : Int32) own_k0 own_v0) (j4_1 q0 own_k0 own_v0) (j4_2 q0 (((p3.toUInt32 >>> ((5 : Int32) &&& 31).toUInt32).toInt32) &&& (3 : Int32)) own_k0 own_v0)) (j4_1 (j0_0 q0 q1 p3) (j4_1 q0 own_k0 own_v0) (j4_2 q0 (((p3.toUInt32 >>> ((5 : Int32) &&& 31).toUInt32).toInt32) &&& (3 : Int32)) own_k0 own_v0)) (j4_2 (j0_0 q0 q1 p3) (((p3.toUInt32 >>> ((7 : Int32) &&& 31).toUInt32).toInt32) &&& (3 : Int32)) (j4_1 q0 own_k0 own_v0) (j4_2 q0 (((p3.toUInt32 >>> ((5 : Int32) &&& 31).toUInt32).toInt32) &&& (3 : Int32)) own_k0 own_v0))) = (1 : Int32) then (if (nar .boolean (j7_0 q0 (j4_0 (j0_1 q0 q1 q2 p3) (j4_0 (j0_0 q0 q1 p3) (j4_0 q0 (0 : Int32) own_k0 own_v0) (j4_1 q0 own_k0 own_v0) (j4_2 q0 (((p3.toUInt32 >>> ((5 : Int32) &&& 31).toUInt32).toInt32) &&& (3 : Int32)) own_k0 own_v0)) (j4_1 (j0_0 q0 q1 p3) (j4_1 q0 own_k0 own_v0) (j4_2 q0 (((p3.toUInt32 >>> ((5 : Int32) &&& 31).toUInt32).toInt32) &&& (3 : Int32)) own_k0 own_v0)) (j4_2 (j0_0 q0 q1 p3) (((p3.toUInt32 >>> ((7 : Int32) &&& 31).toUInt32).toInt32) &&& (3 : Int32)) (j4_1 q0 own_k0 own_v0) (j4_2 q0 (((p3.toUInt32 >>> ((5 : Int32) &&& 31).toUInt32).toInt32) &&& (3 : Int32)) own_k0 own_v0))) (own_res (j4_1 (j0_1 q0 q1 q2 p3) (j4_1 (j0_0 q0 q1 p3) (j4_1 q0 own_k0 own_v0) (j4_2 q0 (((p3.toUInt32 >>> ((5 : Int32) &&& 31).toUInt32).toInt32) &&& (3 : Int32)) own_k0 own_v0)) (j4_2 (j0_0 q0 q1 p3) (((p3.toUInt32 >>> ((7 : Int32) &&& 31).toUInt32).toInt32) &&& (3 : Int32)) (j4_1 q0 own_k0 own_v0) (j4_2 q0 (((p3.toUInt32 >>> ((5 : Int32) &&& 31).toUInt32).toInt32) &&& (3 : Int32)) own_k0 own_v0))) (j4_2 (j0_1 q0 q1 q2 p3) (((p3.toUInt32 >>> ((9 : Int32) &&& 31).toUInt32).toInt32) &&& (4194303 : Int32)) (j4_1 (j0_0 q0 q1 p3) (j4_1 q0 own_k0 own_v0) (j4_2 q0 (((p3.toUInt32 >>> ((5 : Int32) &&& 31).toUInt32).toInt32) &&& (3 : Int32)) own_k0 own_v0)) (j4_2 (j0_0 q0 q1 p3) (((p3.toUInt32 >>> ((7 : Int32) &&& 31).toUInt32).toInt32) &&& (3 : Int32)) (j4_1 q0 own_k0 own_v0) (j4_2 q0 (((p3.toUInt32 >>> ((5 : Int32) &&& 31).toUInt32).toInt32) &&& (3 : Int32)) own_k0 own_v0))) 16))) = (0 : Int32) then (0 : Int32) else (1 : Int32)) else (0 : Int32)) else (if (j0_1 q0 q1 q2 p3) = (j0_0 q0 q1 p3) then (if (j4_0 (j0_1 q0 q1 q2 p3) (j4_0 (j0_0 q0 q1 p3) (j4_0 q0 (0 : Int32) own_k0 own_v0) (j4_1 q0 own_k0 own_v0) (j4_2 q0 (((p3.toUInt32 >>> ((5 : Int32) &&& 31).toUInt32).toInt32) &&& (3 : Int32)) own_k0 own_v0)) (j4_1 (j0_0 q0 q1 p3) (j4_1 q0 own_k0 own_v0) (j4_2 q0 (((p3.toUInt32 >>> ((5 : Int32) &&& 31).toUInt32).toInt32) &&& (3 : Int32)) own_k0 own_v0)) (j4_2 (j0_0 q0 q1 p3) (((p3.toUInt32 >>> ((7 : Int32) &&& 31).toUInt32).toInt32) &&& (3 : Int32)) (j4_1 q0 own_k0 own_v0) (j4_2 q0 (((p3.toUInt32 >>> ((5 : Int32) &&& 31).toUInt32).toInt32) &&& (3 : Int32)) own_k0 own_v0))) = (1 : Int32) then (if (nar .boolean (j7_0 q0 (j4_0 (j0_1 q0 q1 q2 p3) (j4_0 (j0_0 q0 q1 p3) (j4_0 q0 (0 : Int32) own_k0 own_v0) (j4_1 q0 own_k0 own_v0) (j4_2 q0 (((p3.toUInt32 >>> ((5 : Int32) &&& 31).toUInt32).toInt32) &&& (3 : Int32)) own_k0 own_v0)) (j4_1 (j0_0 q0 q1 p3) (j4_1 q0 own_k0 own_v0) (j4_2 q0 (((p3.toUInt32 >>> ((5 : Int32) &&& 31).toUInt32).toInt32) &&& (3 : Int32)) own_k0 own_v0)) (j4_2 (j0_0 q0 q1 p3) (((p3.toUInt32 >>> ((7 : Int32) &&& 31).toUInt32).toInt32) &&& (3 : Int32)) (j4_1 q0 own_k0 own_v0) (j4_2 q0 (((p3.toUInt32 >>> ((5 : Int32) &&& 31).toUInt32).toInt32) &&& (3 : Int32)) own_k0 own_v0))) (own_res (j4_1 (j0_1 q0 q1 q2 p3) (j4_1 (j0_0 q0 q1 p3) (j4_1 q0 own_k0 own_v0) (j4_2 q0 (((p3.toUInt32 >>> ((5 : Int32) &&& 31).toUInt32).toInt32) &&& (3 : Int32)) own_k0 own_v0)) (j4_2 (j0_0 q0 q1 p3) (((p3.toUInt32 >>> ((7 : Int32) &&& 31).toUInt32).toInt32) &&& (3 : Int32)) (j4_1 q0 own_k0 own_v0) (j4_2 q0 (((p3.toUInt32 >>> ((5 : Int32) &&& 31).toUInt32).toInt32) &&& (3 : Int32)) own_k0 own_v0))) (j4_2 (j0_1 q0 q1 q2 p3) (((p3.toUInt32 >>> ((9 : Int32) &&& 31).toUInt32).toInt32) &&& (4194303 : Int32)) (j4_1 (j0_0 q0 q1 p3) (j4_1 q0 own_k0 own_v0) (j4_2 q0 (((p3.toUInt32 >>> ((5 : Int32) &&& 31).toUInt32).toInt32) &&& (3 : Int32)) own_k0 own_v0)) (j4_2 (j0_0 q0 q1 p3) (((p3.toUInt32 >>> ((7 : Int32) &&& 31).toUInt32).toInt32) &&& (3 : Int32)) (j4_1 q0 own_k0 own_v0) (j4_2 q0 (((p3.toUInt32 >>> ((5 : Int32) &&& 31).toUInt32).toInt32) &&& (3 : Int32)) own_k0 own_v0))) 16))) = (0 : Int32) then (0 : Int32) else (1 : Int32)) else (0 : Int32)) else (if (j4_0 (j0_1 q0 q1 q2 p3) (j4_0 (j0_0 q0 q1 p3) (j4_0 q0 (0 : Int32) own_k0 own_v0) (j4_1 q0 own_k0 own_v0) (j4_2 q0 (((p3.toUInt32 >>> ((5 : Int32) &&& 31).toUInt32).toInt32) &&& (3 : Int32)) own_k0 own_v0)) (j4_1 (j0_0 q0 q1 p3) (j4_1 q0 own_k0 own_v0) (j4_2 q0 (((p3.toUInt32 >>> ((5 : Int32) &&& 31).toUInt32).toInt32) &&& (3 : Int32)) own_k0 own_v0)) (j4_2 (j0_0 q0 q1 p3) (((p3.toUInt32 >>> ((7 : Int32) &&& 31).toUInt32).toInt32) &&& (3 : Int32)) (j4_1 q0 own_k0 own_v0) (j4_2 q0 (((p3.toUInt32 >>> ((5 : Int32) &&& 31).toUInt32).toInt32) &&& (3 : Int32)) own_k0 own_v0))) = (2 : Int32) then (if (nar .boolean (j7_0 q0 (j4_0 (j0_1 q0 q1 q2 p3) (j4_0 (j0_0 q0 q1 p3) (j4_0 q0 (0 : Int32) own_k0 own_v0) (j4_1 q0 own_k0 own_v0) (j4_2 q0 (((p3.toUInt32 >>> ((5 : Int32) &&& 31).toUInt32).toInt32) &&& (3 : Int32)) own_k0 own_v0)) (j4_1 (j0_0 q0 q1 p3) (j4_1 q0 own_k0 own_v0) (j4_2 q0 (((p3.toUInt32 >>> ((5 : Int32) &&& 31).toUInt32).toInt32) &&& (3 : Int32)) own_k0 own_v0)) (j4_2 (j0_0 q0 q1 p3) (((p3.toUInt32 >>> ((7 : Int32) &&& 31).toUInt32).toInt32) &&& (3 : Int32)) (j4_1 q0 own_k0 own_v0) (j4_2 q0 (((p3.toUInt32 >>> ((5 : Int32) &&& 31).toUInt32).toInt32) &&& (3 : Int32)) own_k0 own_v0))) (own_res (j4_1 (j0_1 q0 q1 q2 p3) (j4_1 (j0_0 q0 q1 p3) (j4_1 q0 own_k0 own_v0) (j4_2 q0 (((p3.toUInt32 >>> ((5 : Int32) &&& 31).toUInt32).toInt32) &&& (3 : Int32)) own_k0 own_v0)) (j4_2 (j0_0 q0 q1 p3) (((p3.toUInt32 >>> ((7 : Int32) &&& 31).toUInt32).toInt32) &&& (3 : Int32)) (j4_1 q0 own_k0 own_v0) (j4_2 q0 (((p3.toUInt32 >>> ((5 : Int32) &&& 31).toUInt32).toInt32) &&& (3 : Int32)) own_k0 own_v0))) (j4_2 (j0_1 q0 q1 q2 p3) (((p3.toUInt32 >>> ((9 : Int32) &&& 31).toUInt32).toInt32) &&& (4194303 : Int32)) (j4_1 (j0_0 q0 q1 p3) (j4_1 q0 own_k0 own_v0) (j4_2 q0 (((p3.toUInt32 >>> ((5 : Int32) &&& 31).toUInt32).toInt32) &&& (3 : Int32)) own_k0 own_v0)) (j4_2 (j0_0 q0 q1 p3) (((p3.toUInt32 >>> ((7 : Int32) &&& 31).toUInt32).toInt32) &&& (3 : Int32)) (j4_1 q0 own_k0 own_v0) (j4_2 q0 (((p3.toUInt32 >>> ((5 : Int32) &&& 31).toUInt32).toInt32) &&& (3 : Int32)) own_k0 own_v0))) 16))) = (0 : Int32) then (0 : Int32) else (if (nar .boolean (j7_0 (j0_1 q0 q1 q2 p3) (j4_0 (j0_1 q0 q1 q2 p3) (j4_0 (j0_0 q0 q1 p3) (j4_0 q0 (0 : Int32) own_k0 own_v0) (j4_1 q0 own_k0 own_v0) (j4_2 q0 (((p3.toUInt32 >>> ((5 : Int32) &&& 31).toUInt32).toInt32) &&& (3 : Int32)) own_k0 own_v0)) (j4_1 (j0_0 q0 q1 p3) (j4_1 q0 own_k0 own_v0) (j4_2 q0 (((p3.toUInt32 >>> ((5 : Int32) &&& 31).toUInt32).toInt32) &&& (3 : Int32)) own_k0 own_v0)) (j4_2 (j0_0 q0 q1 p3) (((p3.toUInt32 >>> ((7 : Int32) &&& 31).toUInt32).toInt32) &&& (3 : Int32)) (j4_1 q0 own_k0 own_v0) (j4_2 q0 (((p3.toUInt32 >>> ((5 : Int32) &&& 31).toUInt32).toInt32) &&& (3 : Int32)) own_k0 own_v0))) (own_res (j4_1 (j0_1 q0 q1 q2 p3) (j4_1 (j0_0 q0 q1 p3) (j4_1 q0 own_k0 own_v0) (j4_2 q0 (((p3.toUInt32 >>> ((5 : Int32) &&& 31).toUInt32).toInt32) &&& (3 : Int32)) own_k0 own_v0)) (j4_2 (j0_0 q0 q1 p3) (((p3.toUInt32 >>> ((7 : Int32) &&& 31).toUInt32).toInt32) &&& (3 : Int32)) (j4_1 q0 own_k0 own_v0) (j4_2 q0 (((p3.toUInt32 >>> ((5 : Int32) &&& 31).toUInt32).toInt32) &&& (3 : Int32)) own_k0 own_v0))) (j4_2 (j0_1 q0 q1 q2 p3) (((p3.toUInt32 >>> ((9 : Int32) &&& 31).toUInt32).toInt32) &&& (4194303 : Int32)) (j4_1 (j0_0 q0 q1 p3) (j4_1 q0 own_k0 own_v0) (j4_2 q0 (((p3.toUInt32 >>> ((5 : Int32) &&& 31).toUInt32).toInt32) &&& (3 : Int32)) own_k0 own_v0)) (j4_2 (j0_0 q0 q1 p3) (((p3.toUInt32 >>> ((7 : Int32) &&& 31).toUInt32).toInt32) &&& (3 : Int32)) (j4_1 q0 own_k0 own_v0) (j4_2 q0 (((p3.toUInt32 >>> ((5 : Int32) &&& 31).toUInt32).toInt32) &&& (3 : Int32)) own_k0 own_v0))) 16))) = (0 : Int32) then (0 : Int32) else (1 : Int32))) else (0 : Int32)))) else (if (j0_1 q0 q1 q2 p3) = q0 then (if (j4_0 (j0_1 q0 q1 q2 p3) (j4_0 (j0_0 q0 q1 p3) (j4_0 q0 (0 : Int32) own_k0 own_v0) (j4_1 q0 own_k0 own_v0) (j4_2 q0 (((p3.toUInt32 >>> ((5 : Int32) &&& 31).toUInt32).toInt32) &&& (3 : Int32)) own_k0 own_v0)) (j4_1 (j0_0 q0 q1 p3) (j4_1 q0 own_k0 own_v0) (j4_2 q0 (((p3.toUInt32 >>> ((5 : Int32) &&& 31).toUInt32).toInt32) &&& (3 : Int32)) own_k0 own_v0)) (j4_2 (j0_0 q0 q1 p3) (((p3.toUInt32 >>> ((7 : Int32) &&& 31).toUInt32).toInt32) &&& (3 : Int32)) (j4_1 q0 own_k0 own_v0) (j4_2 q0 (((p3.toUInt32 >>> ((5 : Int32) &&& 31).toUInt32).toInt32) &&& (3 : Int32)) own_k0 own_v0))) = (2 : Int32) then (if (nar .boolean (j7_0 q0 (j4_0 (j0_1 q0 q1 q2 p3) (j4_0 (j0_0 q0 q1 p3) (j4_0 q0 (0 : Int32) own_k0 own_v0) (j4_1 q0 own_k0 own_v0) (j4_2 q0 (((p3.toUInt32 >>> ((5 : Int32) &&& 31).toUInt32).toInt32) &&& (3 : Int32)) own_k0 own_v0)) (j4_1 (j0_0 q0 q1 p3) (j4_1 q0 own_k0 own_v0) (j4_2 q0 (((p3.toUInt32 >>> ((5 : Int32) &&& 31).toUInt32).toInt32) &&& (3 : Int32)) own_k0 own_v0)) (j4_2 (j0_0 q0 q1 p3) (((p3.toUInt32 >>> ((7 : Int32) &&& 31).toUInt32).toInt32) &&& (3 : Int32)) (j4_1 q0 own_k0 own_v0) (j4_2 q0 (((p3.toUInt32 >>> ((5 : Int32) &&& 31).toUInt32).toInt32) &&& (3 : Int32)) own_k0 own_v0))) (own_res (j4_1 (j0_1 q0 q1 q2 p3) (j4_1 (j0_0 q0 q1 p3) (j4_1 q0 own_k0 own_v0) (j4_2 q0 (((p3.toUInt32 >>> ((5 : Int32) &&& 31).toUInt32).toInt32) &&& (3 : Int32)) own_k0 own_v0)) (j4_2 (j0_0 q0 q1 p3) (((p3.toUInt32 >>> ((7 : Int32) &&& 31).toUInt32).toInt32) &&& (3 : Int32)) (j4_1 q0 own_k0 own_v0) (j4_2 q0 (((p3.toUInt32 >>> ((5 : Int32) &&& 31).toUInt32).toInt32) &&& (3 : Int32)) own_k0 own_v0))) (j4_2 (j0_1 q0 q1 q2 p3) (((p3.toUInt32 >>> ((9 : Int32) &&& 31).toUInt32).toInt32) &&& (4194303 : Int32)) (j4_1 (j0_0 q0 q1 p3) (j4_1 q0 own_k0 own_v0) (j4_2 q0 (((p3.toUInt32 >>> ((5 : Int32) &&& 31).toUInt32).toInt32) &&& (3 : Int32)) own_k0 own_v0)) (j4_2 (j0_0 q0 q1 p3) (((p3.toUInt32 >>> ((7 : Int32) &&& 31).toUInt32).toInt32) &&& (3 : Int32)) (j4_1 q0 own_k0 own_v0) (j4_2 q0 (((p3.toUInt32 >>> ((5 : Int32) &&& 31).toUInt32).toInt32) &&& (3 : Int32)) own_k0 own_v0))) 16))) = (0 : Int32) then (0 : Int32) else (if (nar .boolean (j7_0 (j0_0 q0 q1 p3) (j4_0 (j0_1 q0 q1 q2 p3) (j4_0 (j0_0 q0 q1 p3) (j4_0 q0 (0 : Int32) own_k0 own_v0) (j4_1 q0 own_k0 own_v0) (j4_2 q0 (((p3.toUInt32 >>> ((5 : Int32) &&& 31).toUInt32).toInt32) &&& (3 : Int32)) own_k0 own_v0)) (j4_1 (j0_0 q0 q1 p3) (j4_1 q0 own_k0 own_v0) (j4_2 q0 (((p3.toUInt32 >>> ((5 : Int32) &&& 31).toUInt32).toInt32) &&& (3 : Int32)) own_k0 own_v0)) (j4_2 (j0_0 q0 q1 p3) (((p3.toUInt32 >>> ((7 : Int32) &&& 31).toUInt32).toInt32) &&& (3 : Int32)) (j4_1 q0 own_k0 own_v0) (j4_2 q0 (((p3.toUInt32 >>> ((5 : Int32) &&& 31).toUInt32).toInt32) &&& (3 : Int32)) own_k0 own_v0))) (own_res (j4_1 (j0_1 q0 q1 q2 p3) (j4_1 (j0_0 q0 q1 p3) (j4_1 q0 own_k0 own_v0) (j4_2 q0 (((p3.toUInt32 >>> ((5 : Int32) &&& 31).toUInt32).toInt32) &&& (3 : Int32)) own_k0 own_v0)) (j4_2 (j0_0 q0 q1 p3) (((p3.toUInt32 >>> ((7 : Int32) &&& 31).toUInt32).toInt32) &&& (3 : Int32)) (j4_1 q0 own_k0 own_v0) (j4_2 q0 (((p3.toUInt32 >>> ((5 : Int32) &&& 31).toUInt32).toInt32) &&& (3 : Int32)) own_k0 own_v0))) (j4_2 (j0_1 q0 q1 q2 p3) (((p3.toUInt32 >>> ((9 : Int32) &&& 31).toUInt32).toInt32) &&& (4194303 : Int32)) (j4_1 (j0_0 q0 q1 p3) (j4_1 q0 own_k0 own_v0) (j4_2 q0 (((p3.toUInt32 >>> ((5 : Int32) &&& 31).toUInt32).toInt32) &&& (3 : Int32)) own_k0 own_v0)) (j4_2 (j0_0 q0 q1 p3) (((p3.toUInt32 >>> ((7 : Int32) &&& 31).toUInt32).toInt32) &&& (3 : Int32)) (j4_1 q0 own_k0 own_v0) (j4_2 q0 (((p3.toUInt32 >>> ((5 : Int32) &&& 31).toUInt32).toInt32) &&& (3 : Int32)) own_k0 own_v0))) 16))) = (0 : Int32) then (0 : Int32) else (1 : Int32))) else (0 : Int32)) else (if (j0_1 q0 q1 q2 p3) = (j0_0 q0 q1 p3) then (if (j4_0 (j0_1 q0 q1 q2 p3) (j4_0 (j0_0 q0 q1 p3) (j4_0 q0 (0 : Int32) own_k0 own_v0) (j4_1 q0 own_k0 own_v0) (j4_2 q0 (((p3.toUInt32 >>> ((5 : Int32) &&& 31).toUInt32).toInt32) &&& (3 : Int32)) own_k0 own_v0)) (j4_1 (j0_0 q0 q1 p3) (j4_1 q0 own_k0 own_v0) (j4_2 q0 (((p3.toUInt32 >>> ((5 : Int32) &&& 31).toUInt32).toInt32) &&& (3 : Int32)) own_k0 own_v0)) (j4_2 (j0_0 q0 q1 p3) (((p3.toUInt32 >>> ((7 : Int32) &&& 31).toUInt32).toInt32) &&& (3 : Int32)) (j4_1 q0 own_k0 own_v0) (j4_2 q0 (((p3.toUInt32 >>> ((5 : Int32) &&& 31).toUInt32).toInt32) &&& (3 : Int32)) own_k0 own_v0))) = (2 : Int32) then (if (nar .boolean (j7_0 q0 (j4_0 (j0_1 q0 q1 q2 p3) (j4_0 (j0_0 q0 q1 p3) (j4_0 q0 (0 : Int32) own_k0 own_v0) (j4_1 q0 own_k0 own_v0) (j4_2 q0 (((p3.toUInt32 >>> ((5 : Int32) &&& 31).toUInt32).toInt32) &&& (3 : Int32)) own_k0 own_v0)) (j4_1 (j0_0 q0 q1 p3) (j4_1 q0 own_k0 own_v0) (j4_2 q0 (((p3.toUInt32 >>> ((5 : Int32) &&& 31).toUInt32).toInt32) &&& (3 : Int32)) own_k0 own_v0)) (j4_2 (j0_0 q0 q1 p3) (((p3.toUInt32 >>> ((7 : Int32) &&& 31).toUInt32).toInt32) &&& (3 : Int32)) (j4_1 q0 own_k0 own_v0) (j4_2 q0 (((p3.toUInt32 >>> ((5 : Int32) &&& 31).toUInt32).toInt32) &&& (3 : Int32)) own_k0 own_v0))) (own_res (j4_1 (j0_1 q0 q1 q2 p3) (j4_1 (j0_0 q0 q1 p3) (j4_1 q0 own_k0 own_v0) (j4_2 q0 (((p3.toUInt32 >>> ((5 : Int32) &&& 31).toUInt32).toInt32) &&& (3 : Int32)) own_k0 own_v0)) (j4_2 (j0_0 q0 q1 p3) (((p3.toUInt32 >>> ((7 : Int32) &&& 31).toUInt32).toInt32) &&& (3 : Int32)) (j4_1 q0 own_k0 own_v0) (j4_2 q0 (((p3.toUInt32 >>> ((5 : Int32) &&& 31).toUInt32).toInt32) &&& (3 : Int32)) own_k0 own_v0))) (j4_2 (j0_1 q0 q1 q2 p3) (((p3.toUInt32 >>> ((9 : Int32) &&& 31).toUInt32).toInt32) &&& (4194303 : Int32)) (j4_1 (j0_0 q0 q1 p3) (j4_1 q0 own_k0 own_v0) (j4_2 q0 (((p3.toUInt32 >>> ((5 : Int32) &&& 31).toUInt32).toInt32) &&& (3 : Int32)) own_k0 own_v0)) (j4_2 (j0_0 q0 q1 p3) (((p3.toUInt32 >>> ((7 : Int32) &&& 31).toUInt32).toInt32) &&& (3 : Int32)) (j4_1 q0 own_k0 own_v0) (j4_2 q0 (((p3.toUInt32 >>> ((5 : Int32) &&& 31).toUInt32).toInt32) &&& (3 : Int32)) own_k0 own_v0))) 16))) = (0 : Int32) then (0 : Int32) else (if (nar .boolean (j7_0 (j0_0 q0 q1 p3) (j4_0 (j0_1 q0 q1 q2 p3) (j4_0 (j0_0 q0 q1 p3) (j4_0 q0 (0 : Int32) own_k0 own_v0) (j4_1 q0 own_k0 own_v0) (j4_2 q0 (((p3.toUInt32 >>> ((5 : Int32) &&& 31).toUInt32).toInt32) &&& (3 : Int32)) own_k0 own_v0)) (j4_1 (j0_0 q0 q1 p3) (j4_1 q0 own_k0 own_v0) (j4_2 q0 (((p3.toUInt32 >>> ((5 : Int32) &&& 31).toUInt32).toInt32) &&& (3 : Int32)) own_k0 own_v0)) (j4_2 (j0_0 q0 q1 p3) (((p3.toUInt32 >>> ((7 : Int32) &&& 31).toUInt32).toInt32) &&& (3 : Int32)) (j4_1 q0 own_k0 own_v0) (j4_2 q0 (((p3.toUInt32 >>> ((5 : Int32) &&& 31).toUInt32).toInt32) &&& (3 : Int32)) own_k0 own_v0))) (own_res (j4_1 (j0_1 q0 q1 q2 p3) (j4_1 (j0_0 q0 q1 p3) (j4_1 q0 own_k0 own_v0) (j4_2 q0 (((p3.toUInt32 >>> ((5 : Int32) &&& 31).toUInt32).toInt32) &&& (3 : Int32)) own_k0 own_v0)) (j4_2 (j0_0 q0 q1 p3) (((p3.toUInt32 >>> ((7 : Int32) &&& 31).toUInt32).toInt32) &&& (3 : Int32)) (j4_1 q0 own_k0 own_v0) (j4_2 q0 (((p3.toUInt32 >>> ((5 : Int32) &&& 31).toUInt32).toInt32) &&& (3 : Int32)) own_k0 own_v0))) (j4_2 (j0_1 q0 q1 q2 p3) (((p3.toUInt32 >>> ((9 : Int32) &&& 31).toUInt32).toInt32) &&& (4194303 : Int32)) (j4_1 (j0_0 q0 q1 p3) (j4_1 q0 own_k0 own_v0) (j4_2 q0 (((p3.toUInt32 >>> ((5 : Int32) &&& 31).toUInt32).toInt32) &&& (3 : Int32)) own_k0 own_v0)) (j4_2 (j0_0 q0 q1 p3) (((p3.toUInt32 >>> ((7 : Int32) &&& 31).toUInt32).toInt32) &&& (3 : Int32)) (j4_1 q0 own_k0 own_v0) (j4_2 q0 (((p3.toUInt32 >>> ((5 : Int32) &&& 31).toUInt32).toInt32) &&& (3 : Int32)) own_k0 own_v0))) 16))) = (0 : Int32) then (0 : Int32) else (1 : Int32))) else (0 : Int32)) else (if (j4_0 (j0_1 q0 q1 q2 p3) (j4_0 (j0_0 q0 q1 p3) (j4_0 q0 (0 : Int32) own_k0 own_v0) (j4_1 q0 own_k0 own_v0) (j4_2 q0 (((p3.toUInt32 >>> ((5 : Int32) &&& 31).toUInt32).toInt32) &&& (3 : Int32)) own_k0 own_v0)) (j4_1 (j0_0 q0 q1 p3) (j4_1 q0 own_k0 own_v0) (j4_2 q0 (((p3.toUInt32 >>> ((5 : Int32) &&& 31).toUInt32).toInt32) &&& (3 : Int32)) own_k0 own_v0)) (j4_2 (j0_0 q0 q1 p3) (((p3.toUInt32 >>> ((7 : Int32) &&& 31).toUInt32).toInt32) &&& (3 : Int32)) (j4_1 q0 own_k0 own_v0) (j4_2 q0 (((p3.toUInt32 >>> ((5 : Int32) &&& 31).toUInt32).toInt32) &&& (3 : Int32)) own_k0 own_v0))) = (3 : Int32) then (if (nar .boolean (j7_0 q0 (j4_0 (j0_1 q0 q1 q2 p3) (j4_0 (j0_0 q0 q1 p3) (j4_0 q0 (0 : Int32) own_k0 own_v0) (j4_1 q0 own_k0 own_v0) (j4_2 q0 (((p3.toUInt32 >>> ((5 : Int32) &&& 31).toUInt32).toInt32) &&& (3 : Int32)) own_k0 own_v0)) (j4_1 (j0_0 q0 q1 p3) (j4_1 q0 own_k0 own_v0) (j4_2 q0 (((p3.toUInt32 >>> ((5 : Int32) &&& 31).toUInt32).toInt32) &&& (3 : Int32)) own_k0 own_v0)) (j4_2 (j0_0 q0 q1 p3) (((p3.toUInt32 >>> ((7 : Int32) &&& 31).toUInt32).toInt32) &&& (3 : Int32)) (j4_1 q0 own_k0 own_v0) (j4_2 q0 (((p3.toUInt32 >>> ((5 : Int32) &&& 31).toUInt32).toInt32) &&& (3 : Int32)) own_k0 own_v0))) (own_res (j4_1 (j0_1 q0 q1 q2 p3) (j4_1 (j0_0 q0 q1 p3) (j4_1 q0 own_k0 own_v0) (j4_2 q0 (((p3.toUInt32 >>> ((5 : Int32) &&& 31).toUInt32).toInt32) &&& (3 : Int32)) own_k0 own_v0)) (j4_2 (j0_0 q0 q1 p3) (((p3.toUInt32 >>> ((7 : Int32) &&& 31).toUInt32).toInt32) &&& (3 : Int32)) (j4_1 q0 own_k0 own_v0) (j4_2 q0 (((p3.toUInt32 >>> ((5 : Int32) &&& 31).toUInt32).toInt32) &&& (3 : Int32)) own_k0 own_v0))) (j4_2 (j0_1 q0 q1 q2 p3) (((p3.toUInt32 >>> ((9 : Int32) &&& 31).toUInt32).toInt32) &&& (4194303 : Int32)) (j4_1 (j0_0 q0 q1 p3) (j4_1 q0 own_k0 own_v0) (j4_2 q0 (((p3.toUInt32 >>> ((5 : Int32) &&& 31).toUInt32).toInt32) &&& (3 : Int32)) own_k0 own_v0)) (j4_2 (j0_0 q0 q1 p3) (((p3.toUInt32 >>> ((7 : Int32) &&& 31).toUInt32).toInt32) &&& (3 : Int32)) (j4_1 q0 own_k0 own_v0) (j4_2 q0 (((p3.toUInt32 >>> ((5 : Int32) &&& 31).toUInt32).toInt32) &&& (3 : Int32)) own_k0 own_v0))) 16))) = (0 : Int32) then (0 : Int32) else (if (nar .boolean (j7_0 (j0_0 q0 q1 p3) (j4_0 (j0_1 q0 q1 q2 p3) (j4_0 (j0_0 q0 q1 p3) (j4_0 q0 (0 : Int32) own_k0 own_v0) (j4_1 q0 own_k0 own_v0) (j4_2 q0 (((p3.toUInt32 >>> ((5 : Int32) &&& 31).toUInt32).toInt32) &&& (3 : Int32)) own_k0 own_v0)) (j4_1 (j0_0 q0 q1 p3) (j4_1 q0 own_k0 own_v0) (j4_2 q0 (((p3.toUInt32 >>> ((5 : Int32) &&& 31).toUInt32).toInt32) &&& (3 : Int32)) own_k0 own_v0)) (j4_2 (j0_0 q0 q1 p3) (((p3.toUInt32 >>> ((7 : Int32) &&& 31).toUInt32).toInt32) &&& (3 : Int32)) (j4_1 q0 own_k0 own_v0) (j4_2 q0 (((p3.toUInt32 >>> ((5 : Int32) &&& 31).toUInt32).toInt32) &&& (3 : Int32)) own_k0 own_v0))) (own_res (j4_1 (j0_1 q0 q1 q2 p3) (j4_1 (j0_0 q0 q1 p3) (j4_1 q0 own_k0 own_v0) (j4_2 q0 (((p3.toUInt32 >>> ((5 : Int32) &&& 31).toUInt32).toInt32) &&& (3 : Int32)) own_k0 own_v0)) (j4_2 (j0_0 q0 q1 p3) (((p3.toUInt32 >>> ((7 : Int32) &&& 31).toUInt32).toInt32) &&& (3 : Int32)) (j4_1 q0 own_k0 own_v0) (j4_2 q0 (((p3.toUInt32 >>> ((5 : Int32) &&& 31).toUInt32).toInt32) &&& (3 : Int32)) own_k0 own_v0))) (j4_2 (j0_1 q0 q1 q2 p3) (((p3.toUInt32 >>> ((9 : Int32) &&& 31).toUInt32).toInt32) &&& (4194303 : Int32)) (j4_1 (j0_0 q0 q1 p3) (j4_1 q0 own_k0 own_v0) (j4_2 q0 (((p3.toUInt32 >>> ((5 : Int32) &&& 31).toUInt32).toInt32) &&& (3 : Int32)) own_k0 own_v0)) (j4_2 (j0_0 q0 q1 p3) (((p3.toUInt32 >>> ((7 : Int32) &&& 31).toUInt32).toInt32) &&& (3 : Int32)) (j4_1 q0 own_k0 own_v0) (j4_2 q0 (((p3.toUInt32 >>> ((5 : Int32) &&& 31).toUInt32).toInt32) &&& (3 : Int32)) own_k0 own_v0))) 16))) = (0 : Int32) then (0 : Int32) else (if (nar .boolean (j7_0 (j0_1 q0 q1 q2 p3) (j4_0 (j0_1 q0 q1 q2 p3) (j4_0 (j0_0 q0 q1 p3) (j4_0 q0 (0 : Int32) own_k0 own_v0) (j4_1 q0 own_k0 own_v0) (j4_2 q0 (((p3.toUInt32 >>> ((5 : Int32) &&& 31).toUInt32).toInt32) &&& (3 : Int32)) own_k0 own_v0)) (j4_1 (j0_0 q0 q1 p3) (j4_1 q0 own_k0 own_v0) (j4_2 q0 (((p3.toUInt32 >>> ((5 : Int32) &&& 31).toUInt32).toInt32) &&& (3 : Int32)) own_k0 own_v0)) (j4_2 (j0_0 q0 q1 p3) (((p3.toUInt32 >>> ((7 : Int32) &&& 31).toUInt32).toInt32) &&& (3 : Int32)) (j4_1 q0 own_k0 own_v0) (j4_2 q0 (((p3.toUInt32 >>> ((5 : Int32) &&& 31).toUInt32).toInt32) &&& (3 : Int32)) own_k0 own_v0))) (own_res (j4_1 (j0_1 q0 q1 q2 p3) (j4_1 (j0_0 q0 q1 p3) (j4_1 q0 own_k0 own_v0) (j4_2 q0 (((p3.toUInt32 >>> ((5 : Int32) &&& 31).toUInt32).toInt32) &&& (3 : Int32)) own_k0 own_v0)) (j4_2 (j0_0 q0 q1 p3) (((p3.toUInt32 >>> ((7 : Int32) &&& 31).toUInt32).toInt32) &&& (3 : Int32)) (j4_1 q0 own_k0 own_v0) (j4_2 q0 (((p3.toUInt32 >>> ((5 : Int32) &&& 31).toUInt32).toInt32) &&& (3 : Int32)) own_k0 own_v0))) (j4_2 (j0_1 q0 q1 q2 p3) (((p3.toUInt32 >>> ((9 : Int32) &&& 31).toUInt32).toInt32) &&& (4194303 : Int32)) (j4_1 (j0_0 q0 q1 p3) (j4_1 q0 own_k0 own_v0) (j4_2 q0 (((p3.toUInt32 >>> ((5 : Int32) &&& 31).toUInt32).toInt32) &&& (3 : Int32)) own_k0 own_v0)) (j4_2 (j0_0 q0 q1 p3) (((p3.toUInt32 >>> ((7 : Int32) &&& 31).toUInt32).toInt32) &&& (3 : Int32)) (j4_1 q0 own_k0 own_v0) (j4_2 q0 (((p3.toUInt32 >>> ((5 : Int32) &&& 31).toUInt32).toInt32) &&& (3 : Int32)) own_k0 own_v0))) 16))) = (0 : Int32) then (0 : Int32) else (1 : Int32)))) else (0 : Int32))))))))
theorem ef0 (m : MethodId) (x0 : Int64) (x1 : Int64) (x2 : Int64) (x3 : Int32) : entryFrame m #[(.long x0), (.long x1), (.long x2), (.int x3)] maxLocals = mkF m 0 #[.val (.long x0), .second, .val (.long x1), .second, .val (.long x2), .second, .val (.int x3), .unset, .unset, .unset, .unset, .unset, .unset, .unset, .unset, .unset] [] := by first | (simp [entryFrame, mkF, argsToLocals, Value.category, maxLocals]; done) | rfl
def Q0 (Z : State) (q0 : Int64) (q1 : Int64) (q2 : Int64) (p3 : Int32) (h0 : Heap) (n0 : Nat) (v : Option Value) (h : Heap) (L : List Loc) : Prop := v = some (.int (v0 q0 q1 q2 p3)) ∧ Fr n0 L
set_option maxRecDepth 65536 in
set_option maxHeartbeats 40000000 in
theorem rm0 (l : Launch) (Z : State) (aw : Array Value) (hw : ∀ d ∈ tables_1, d.before aw Z = true) (ws : List Jvm.Cond) (q0 : Int64) (q1 : Int64) (q2 : Int64) (p3 : Int32) (h0 : Heap) (n0 : Nat) (Z0 : n0 ≤ h0.size)  :
    MetFree l x (head1 (Jvm.Cond.code x code maxLocals ret :: ws) room_1) (fun a U => a = #[(.long q0), (.long q1), (.long q2), (.int p3)] ∧ Z.Warmed39 U.vm ∧ U.heap = h0) (fun _ _ _ _ _ => True) (fun _ U o U' => ∃ v L, o = .returned v ∧ Q0 Z q0 q1 q2 p3 h0 n0 v U'.heap L ∧ FrameEnd U o U' L room_1.cells room_1.slots) := by
  refine MetFree.of_bodySF (plainFor_of_name pn_3) hisR ?_
  intro p e s m args below meth c s₁ Bd hml0 hP hK
  obtain ⟨rfl, hZ, hh⟩ := hP
  have hx := Bd.exec
  have hby := Bd.bytes
  have hml : c.maxLocals = 16 := hml0
  have hown : s.vm.findClass "com/example/pathfield/pathfield/query/LongIntMapKeysPinLaw" = some m.cls := findClass_of_methodNamed Bd.named
  have hnm := (name_of_methodNamed Bd.named Bd.method).1
  have X0 : Stand p l e room_1 s m #[(.long q0), (.long q1), (.long q2), (.int p3)] below meth c s₁ [] 0 0 := Stand.of_body Bd
  have e0 : s₁.heap = h0 := by rw [← hh, Bd.state]; rfl
  have N0 := Fr.nil n0
  have pre0 : ∀ t, Steps p.tables e below (s₁.setTop (mkF m 0 #[.val (.long q0), .second, .val (.long q1), .second, .val (.long q2), .second, .val (.int p3), .unset, .unset, .unset, .unset, .unset, .unset, .unset, .unset, .unset] [])) t → Steps p.tables e below (s₁.setTop (entryFrame m #[(.long q0), (.long q1), (.long q2), (.int p3)] maxLocals)) t := fun t k => castTop (ef0 m q0 q1 q2 p3) k
  let L_505 : Array Slot := #[.val (.long q0), .second, .val (.long q1), .second, .val (.long q2), .second, .val (.int p3), .unset, .unset, .unset, .unset, .unset, .unset, .unset, .unset, .unset]
  let L_506 : Array Slot := #[.val (.long q0), .second, .val (.long q1), .second, .val (.long q2), .second, .val (.int p3), .val (.int (p3 &&& (3 : Int32))), .unset, .unset, .unset, .unset, .unset, .unset, .unset, .unset]
  have pre508 := fun (t : State) (k : Steps p.tables e below (s₁.setTop (mkF m 12 L_506 [(.int (((p3.toUInt32 >>> ((2 : Int32) &&& 31).toUInt32).toInt32) &&& (1 : Int32)))])) t) => pre0 t (by
    show Steps p.tables e below (s₁.setTop (mkF m 0 L_505 [])) _
    refine XS.iload X0.here hx rfl (hb hby at_0) rfl ?_
    show Steps p.tables e below (s₁.setTop (mkF m 2 L_505 [(.int p3)])) _
    refine XS.iconst X0.here hx rfl (hb hby at_2) ?_
    show Steps p.tables e below (s₁.setTop (mkF m 3 L_505 [(.int (3 : Int32)), (.int p3)])) _
    refine XS.iand X0.here hx rfl (hb hby at_3) rfl ?_
    show Steps p.tables e below (s₁.setTop (mkF m 4 L_505 [(.int (p3 &&& (3 : Int32)))])) _
    refine XS.istore X0.here hx rfl (hb hby at_4) rfl (l' := L_506) rfl ?_
    show Steps p.tables e below (s₁.setTop (mkF m 6 L_506 [])) _
    refine XS.iload X0.here hx rfl (hb hby at_6) rfl ?_
    show Steps p.tables e below (s₁.setTop (mkF m 8 L_506 [(.int p3)])) _
    refine XS.iconst X0.here hx rfl (hb hby at_8) ?_
    show Steps p.tables e below (s₁.setTop (mkF m 9 L_506 [(.int (2 : Int32)), (.int p3)])) _
    refine XS.iushr X0.here hx rfl (hb hby at_9) rfl ?_
    show Steps p.tables e below (s₁.setTop (mkF m 10 L_506 [(.int ((p3.toUInt32 >>> ((2 : Int32) &&& 31).toUInt32).toInt32))])) _
    refine XS.iconst X0.here hx rfl (hb hby at_10) ?_
    show Steps p.tables e below (s₁.setTop (mkF m 11 L_506 [(.int (1 : Int32)), (.int ((p3.toUInt32 >>> ((2 : Int32) &&& 31).toUInt32).toInt32))])) _
    refine XS.iand X0.here hx rfl (hb hby at_11) rfl ?_
    exact k)
  let L_510 : Array Slot := #[.val (.long q0), .second, .val (.long (j0_0 q0 q1 p3)), .second, .val (.long q2), .second, .val (.int p3), .val (.int (p3 &&& (3 : Int32))), .unset, .unset, .unset, .unset, .unset, .unset, .unset, .unset]
  have pre509 := fun (t : State) (k : Steps p.tables e below (s₁.setTop (mkF m 17 L_510 [])) t) => pre508 t (by
    by_cases hc511 : (((p3.toUInt32 >>> ((2 : Int32) &&& 31).toUInt32).toInt32) &&& (1 : Int32)) = (0 : Int32)
    · skip
      show Steps p.tables e below (s₁.setTop (mkF m 12 L_506 [(.int (((p3.toUInt32 >>> ((2 : Int32) &&& 31).toUInt32).toInt32) &&& (1 : Int32)))])) _
      refine XS.ifYes X0.here hx rfl (pc0 := 12) (pc' := 17) rfl (hb hby at_12) rfl ((if0 _ _).trans (teq hc511).1) (by decide) (by decide) ?_
      have hj512 : (j0_0 q0 q1 p3) = q1 := by first | exact (if_pos hc511) | (unfold j0_0; first | (rw [if_pos hc511]) | (simp only [if_pos hc511]))
      dsimp only [L_510] at k
      rw [hj512] at k
      exact k
    · skip
      let L_513 : Array Slot := #[.val (.long q0), .second, .val (.long q0), .second, .val (.long q2), .second, .val (.int p3), .val (.int (p3 &&& (3 : Int32))), .unset, .unset, .unset, .unset, .unset, .unset, .unset, .unset]
      show Steps p.tables e below (s₁.setTop (mkF m 12 L_506 [(.int (((p3.toUInt32 >>> ((2 : Int32) &&& 31).toUInt32).toInt32) &&& (1 : Int32)))])) _
      refine XS.ifNo X0.here hx rfl (hb hby at_12) rfl ((if0 _ _).trans (feq hc511).1) ?_
      show Steps p.tables e below (s₁.setTop (mkF m 15 L_506 [])) _
      refine XS.lloadN X0.here hx rfl (hb hby at_15) rfl ?_
      show Steps p.tables e below (s₁.setTop (mkF m 16 L_506 [(.long q0)])) _
      refine XS.lstoreN X0.here hx rfl (hb hby at_16) rfl (l' := L_513) rfl ?_
      have hj514 : (j0_0 q0 q1 p3) = q0 := by first | exact (if_neg hc511) | (unfold j0_0; first | (rw [if_neg hc511]) | (simp only [if_neg hc511]))
      dsimp only [L_510] at k
      rw [hj514] at k
      exact k)
  let L_515 : Array Slot := #[.val (.long q0), .second, .val (.long (j0_0 q0 q1 p3)), .second, .val (.long q2), .second, .val (.int p3), .val (.int (p3 &&& (3 : Int32))), .val (.int (((p3.toUInt32 >>> ((3 : Int32) &&& 31).toUInt32).toInt32) &&& (3 : Int32))), .unset, .unset, .unset, .unset, .unset, .unset, .unset]
  have pre520 := fun (t : State) (k : Steps p.tables e below (s₁.setTop (mkF m 28 L_515 [(.int (1 : Int32)), (.int (((p3.toUInt32 >>> ((3 : Int32) &&& 31).toUInt32).toInt32) &&& (3 : Int32)))])) t) => pre509 t (by
    show Steps p.tables e below (s₁.setTop (mkF m 17 L_510 [])) _
    refine XS.iload X0.here hx rfl (hb hby at_17) rfl ?_
    show Steps p.tables e below (s₁.setTop (mkF m 19 L_510 [(.int p3)])) _
    refine XS.iconst X0.here hx rfl (hb hby at_19) ?_
    show Steps p.tables e below (s₁.setTop (mkF m 20 L_510 [(.int (3 : Int32)), (.int p3)])) _
    refine XS.iushr X0.here hx rfl (hb hby at_20) rfl ?_
    show Steps p.tables e below (s₁.setTop (mkF m 21 L_510 [(.int ((p3.toUInt32 >>> ((3 : Int32) &&& 31).toUInt32).toInt32))])) _
    refine XS.iconst X0.here hx rfl (hb hby at_21) ?_
    show Steps p.tables e below (s₁.setTop (mkF m 22 L_510 [(.int (3 : Int32)), (.int ((p3.toUInt32 >>> ((3 : Int32) &&& 31).toUInt32).toInt32))])) _
    refine XS.iand X0.here hx rfl (hb hby at_22) rfl ?_
    show Steps p.tables e below (s₁.setTop (mkF m 23 L_510 [(.int (((p3.toUInt32 >>> ((3 : Int32) &&& 31).toUInt32).toInt32) &&& (3 : Int32)))])) _
    refine XS.istore X0.here hx rfl (hb hby at_23) rfl (l' := L_515) rfl ?_
    show Steps p.tables e below (s₁.setTop (mkF m 25 L_515 [])) _
    refine XS.iload X0.here hx rfl (hb hby at_25) rfl ?_
    show Steps p.tables e below (s₁.setTop (mkF m 27 L_515 [(.int (((p3.toUInt32 >>> ((3 : Int32) &&& 31).toUInt32).toInt32) &&& (3 : Int32)))])) _
    refine XS.iconst X0.here hx rfl (hb hby at_27) ?_
    exact k)
  let L_522 : Array Slot := #[.val (.long q0), .second, .val (.long (j0_0 q0 q1 p3)), .second, .val (.long (j0_1 q0 q1 q2 p3)), .second, .val (.int p3), .val (.int (p3 &&& (3 : Int32))), .val (.int (((p3.toUInt32 >>> ((3 : Int32) &&& 31).toUInt32).toInt32) &&& (3 : Int32))), .unset, .unset, .unset, .unset, .unset, .unset, .unset]
  have pre521 := fun (t : State) (k : Steps p.tables e below (s₁.setTop (mkF m 46 L_522 [])) t) => pre520 t (by
    by_cases hc523 : (((p3.toUInt32 >>> ((3 : Int32) &&& 31).toUInt32).toInt32) &&& (3 : Int32)) = (1 : Int32)
    · skip
      let L_524 : Array Slot := #[.val (.long q0), .second, .val (.long (j0_0 q0 q1 p3)), .second, .val (.long q0), .second, .val (.int p3), .val (.int (p3 &&& (3 : Int32))), .val (.int (((p3.toUInt32 >>> ((3 : Int32) &&& 31).toUInt32).toInt32) &&& (3 : Int32))), .unset, .unset, .unset, .unset, .unset, .unset, .unset]
      show Steps p.tables e below (s₁.setTop (mkF m 28 L_515 [(.int (1 : Int32)), (.int (((p3.toUInt32 >>> ((3 : Int32) &&& 31).toUInt32).toInt32) &&& (3 : Int32)))])) _
      refine XS.icmpNo X0.here hx rfl (hb hby at_28) rfl (teq hc523).2 ?_
      show Steps p.tables e below (s₁.setTop (mkF m 31 L_515 [])) _
      refine XS.lloadN X0.here hx rfl (hb hby at_31) rfl ?_
      show Steps p.tables e below (s₁.setTop (mkF m 32 L_515 [(.long q0)])) _
      refine XS.lstore X0.here hx rfl (hb hby at_32) rfl (l' := L_524) rfl ?_
      show Steps p.tables e below (s₁.setTop (mkF m 34 L_524 [])) _
      refine XS.goto X0.here hx rfl (pc0 := 34) (pc' := 46) rfl (hb hby at_34) (by decide) (by decide) ?_
      have hj525 : (j0_1 q0 q1 q2 p3) = q0 := by first | exact (if_pos hc523) | (unfold j0_1; first | (rw [if_pos hc523]) | (simp only [if_pos hc523]))
      dsimp only [L_522] at k
      rw [hj525] at k
      exact k
    · skip
      show Steps p.tables e below (s₁.setTop (mkF m 28 L_515 [(.int (1 : Int32)), (.int (((p3.toUInt32 >>> ((3 : Int32) &&& 31).toUInt32).toInt32) &&& (3 : Int32)))])) _
      refine XS.icmpYes X0.here hx rfl (pc0 := 28) (pc' := 37) rfl (hb hby at_28) rfl (feq hc523).2 (by decide) (by decide) ?_
      show Steps p.tables e below (s₁.setTop (mkF m 37 L_515 [])) _
      refine XS.iload X0.here hx rfl (hb hby at_37) rfl ?_
      show Steps p.tables e below (s₁.setTop (mkF m 39 L_515 [(.int (((p3.toUInt32 >>> ((3 : Int32) &&& 31).toUInt32).toInt32) &&& (3 : Int32)))])) _
      refine XS.iconst X0.here hx rfl (hb hby at_39) ?_
      by_cases hc526 : (((p3.toUInt32 >>> ((3 : Int32) &&& 31).toUInt32).toInt32) &&& (3 : Int32)) = (2 : Int32)
      · skip
        let L_527 : Array Slot := #[.val (.long q0), .second, .val (.long (j0_0 q0 q1 p3)), .second, .val (.long (j0_0 q0 q1 p3)), .second, .val (.int p3), .val (.int (p3 &&& (3 : Int32))), .val (.int (((p3.toUInt32 >>> ((3 : Int32) &&& 31).toUInt32).toInt32) &&& (3 : Int32))), .unset, .unset, .unset, .unset, .unset, .unset, .unset]
        show Steps p.tables e below (s₁.setTop (mkF m 40 L_515 [(.int (2 : Int32)), (.int (((p3.toUInt32 >>> ((3 : Int32) &&& 31).toUInt32).toInt32) &&& (3 : Int32)))])) _
        refine XS.icmpNo X0.here hx rfl (hb hby at_40) rfl (teq hc526).2 ?_
        show Steps p.tables e below (s₁.setTop (mkF m 43 L_515 [])) _
        refine XS.lloadN X0.here hx rfl (hb hby at_43) rfl ?_
        show Steps p.tables e below (s₁.setTop (mkF m 44 L_515 [(.long (j0_0 q0 q1 p3))])) _
        refine XS.lstore X0.here hx rfl (hb hby at_44) rfl (l' := L_527) rfl ?_
        have hj528 : (j0_1 q0 q1 q2 p3) = (j0_0 q0 q1 p3) := by first | exact ((if_neg hc523).trans (if_pos hc526)) | (unfold j0_1; first | (rw [if_neg hc523, if_pos hc526]) | (simp only [if_neg hc523, if_pos hc526]))
        dsimp only [L_522] at k
        rw [hj528] at k
        exact k
      · skip
        show Steps p.tables e below (s₁.setTop (mkF m 40 L_515 [(.int (2 : Int32)), (.int (((p3.toUInt32 >>> ((3 : Int32) &&& 31).toUInt32).toInt32) &&& (3 : Int32)))])) _
        refine XS.icmpYes X0.here hx rfl (pc0 := 40) (pc' := 46) rfl (hb hby at_40) rfl (feq hc526).2 (by decide) (by decide) ?_
        have hj529 : (j0_1 q0 q1 q2 p3) = q2 := by first | exact ((if_neg hc523).trans (if_neg hc526)) | (unfold j0_1; first | (rw [if_neg hc523, if_neg hc526]) | (simp only [if_neg hc523, if_neg hc526]))
        dsimp only [L_522] at k
        rw [hj529] at k
        exact k)
  let L_530 : Array Slot := #[.val (.long q0), .second, .val (.long (j0_0 q0 q1 p3)), .second, .val (.long (j0_1 q0 q1 q2 p3)), .second, .val (.int p3), .val (.int (p3 &&& (3 : Int32))), .val (.int (((p3.toUInt32 >>> ((3 : Int32) &&& 31).toUInt32).toInt32) &&& (3 : Int32))), .val (.int (((p3.toUInt32 >>> ((5 : Int32) &&& 31).toUInt32).toInt32) &&& (3 : Int32))), .unset, .unset, .unset, .unset, .unset, .unset]
  let L_531 : Array Slot := #[.val (.long q0), .second, .val (.long (j0_0 q0 q1 p3)), .second, .val (.long (j0_1 q0 q1 q2 p3)), .second, .val (.int p3), .val (.int (p3 &&& (3 : Int32))), .val (.int (((p3.toUInt32 >>> ((3 : Int32) &&& 31).toUInt32).toInt32) &&& (3 : Int32))), .val (.int (((p3.toUInt32 >>> ((5 : Int32) &&& 31).toUInt32).toInt32) &&& (3 : Int32))), .val (.int (((p3.toUInt32 >>> ((7 : Int32) &&& 31).toUInt32).toInt32) &&& (3 : Int32))), .unset, .unset, .unset, .unset, .unset]
  let L_532 : Array Slot := #[.val (.long q0), .second, .val (.long (j0_0 q0 q1 p3)), .second, .val (.long (j0_1 q0 q1 q2 p3)), .second, .val (.int p3), .val (.int (p3 &&& (3 : Int32))), .val (.int (((p3.toUInt32 >>> ((3 : Int32) &&& 31).toUInt32).toInt32) &&& (3 : Int32))), .val (.int (((p3.toUInt32 >>> ((5 : Int32) &&& 31).toUInt32).toInt32) &&& (3 : Int32))), .val (.int (((p3.toUInt32 >>> ((7 : Int32) &&& 31).toUInt32).toInt32) &&& (3 : Int32))), .val (.int (((p3.toUInt32 >>> ((9 : Int32) &&& 31).toUInt32).toInt32) &&& (4194303 : Int32))), .unset, .unset, .unset, .unset]
  obtain ⟨T533, h533, k533, X533, e533, E533, A533, st533⟩ := newP X0 hx hZ (hw _ (List.mem_of_getElem? (i := 1) rfl)) e0 (g := (mkF m 74 L_532 [(.int (3 : Int32))])) rfl (hb hby at_74) rfl (by decide) (cap := 3) (by decide) (by decide) (by decide) (by decide)
  obtain ⟨b533, gg533⟩ : ∃ z, z = h0.size := ⟨_, rfl⟩
  rw [← gg533] at A533 st533
  have g_b533 : n0 ≤ b533 := Nat.le_trans Z0 (Nat.le_of_eq gg533.symm)
  have Z534 := Nat.le_trans Z0 E533.1
  have V533 : Arv Z h533 b533 k533 .long (3 : Int32) [(.long (0 : Int64)), (.long (0 : Int64)), (.long (0 : Int64))] (.long (0 : Int64)) := (Arv.new A533 (by decide)).pad (pad_rep [] (.long (0 : Int64)) 3)
  let L_535 : Array Slot := #[.val (.long q0), .second, .val (.long (j0_0 q0 q1 p3)), .second, .val (.long (j0_1 q0 q1 q2 p3)), .second, .val (.int p3), .val (.int (p3 &&& (3 : Int32))), .val (.int (((p3.toUInt32 >>> ((3 : Int32) &&& 31).toUInt32).toInt32) &&& (3 : Int32))), .val (.int (((p3.toUInt32 >>> ((5 : Int32) &&& 31).toUInt32).toInt32) &&& (3 : Int32))), .val (.int (((p3.toUInt32 >>> ((7 : Int32) &&& 31).toUInt32).toInt32) &&& (3 : Int32))), .val (.int (((p3.toUInt32 >>> ((9 : Int32) &&& 31).toUInt32).toInt32) &&& (4194303 : Int32))), .val (.ref b533), .unset, .unset, .unset]
  obtain ⟨T536, h536, X536, e536, E536, A536, D536, -, st536⟩ := newO X533 hx hZ hown (hw _ (List.mem_of_getElem? (i := 2) rfl)) (hw _ (List.mem_of_getElem? (i := 3) rfl)) (hw _ (List.mem_of_getElem? (i := 4) rfl)) e533 (g := (mkF m 78 L_535 [])) rfl (hb hby at_78) (by decide) (by decide)
  obtain ⟨b536, gg536⟩ : ∃ z, z = h533.size := ⟨_, rfl⟩
  rw [← gg536] at A536 D536 st536
  have f537 := V533.ext E536
  have ne538 : b533 ≠ b536 := Nat.ne_of_lt (Nat.lt_of_lt_of_le V533.lt (Nat.le_of_eq gg536.symm))
  have g_b536 : n0 ≤ b536 := Nat.le_trans Z534 (Nat.le_of_eq gg536.symm)
  have Z539 := Nat.le_trans Z534 E536.1
  have f540 : Fld Z h536 b536 "com/example/pathfield/pathfield/query/LongIntMap" "keys" "[J" .null := D536 (Or.inl (hw _ (List.mem_of_getElem? (i := 12) rfl))) (ty := (.array .long)) (by decide)
  have f541 : Fld Z h536 b536 "com/example/pathfield/pathfield/query/LongIntMap" "values" "[I" .null := D536 (Or.inl (hw _ (List.mem_of_getElem? (i := 15) rfl))) (ty := (.array .int)) (by decide)
  have f542 : Fld Z h536 b536 "com/example/pathfield/pathfield/query/LongIntMap" "size" "I" (.int (0 : Int32)) := D536 (Or.inl (hw _ (List.mem_of_getElem? (i := 26) rfl))) (ty := .int) (by decide)
  obtain ⟨_, _, ⟨T543, L543, k543, n543⟩, -, X543, ⟨Lc543, hQ543, l543, y543, z543⟩, st543⟩ := X536.specialBack hx (y := (⟨"com/example/pathfield/pathfield/query/LongIntMap", "<init>", "()V"⟩ : MethodName)) rfl hown (mvT hZ (hw _ (List.mem_of_getElem? (i := 5) rfl))) (mvT hZ (hw _ (List.mem_of_getElem? (i := 6) rfl))) (mvT hZ (hw _ (List.mem_of_getElem? (i := 7) rfl))) (by decide) (backOf (W := 1) (rm1 l Z aw hw [] b536 h536 n0 Z539 A536 f540 f541 f542 g_b536) hZ (hw _ (List.mem_of_getElem? (i := 7) rfl)) (hw _ (List.mem_of_getElem? (i := 4) rfl)) (by decide) (by decide)) (g := (mkF m 82 L_535 [(.ref b536), (.ref b536)])) rfl (by rw [hml]; rfl) (Steps.refl _) (a := b536) (argsL := []) (rest := [(.ref b536)]) (lenOf pd_5 rfl) rfl (by show 2 * 0 + _ ≤ _; exact Nat.le_of_eq rfl) (hb hby at_82) (fun _ _ => ⟨rfl, e536, (by decide : 2 + 2 ≤ _), (by decide : 6 + 32 ≤ _)⟩)
  dsimp only [Pt.U, Pt.locs, Pt.cells, Pt.slots] at X543 l543 y543 z543 st543 hQ543
  replace l543 := l543.symm
  subst l543 y543 z543
  obtain ⟨h543, e543⟩ : ∃ z, T543.heap = z := ⟨_, rfl⟩
  rw [e543] at hQ543
  obtain ⟨cx0543, cx1543, cy0543, cy1543, rfl, N543q, K543q, g_cx0543, zz_cx0543, g_cx1543, zz_cx1543, nx_cx0543_cx1543, f544, f545, f546, f547, f548, f549⟩ := hQ543
  have f550 := f537.keep K543q (ninS ne538 nin0)
  have f551 := A536.keep K543q
  have ne555 : b533 ≠ cx0543 := Nat.ne_of_lt (Nat.lt_of_lt_of_le f537.lt zz_cx0543)
  have ne556 : b536 ≠ cx0543 := Nat.ne_of_lt (Nat.lt_of_lt_of_le A536.lt zz_cx0543)
  have ne557 : b533 ≠ cx1543 := Nat.ne_of_lt (Nat.lt_of_lt_of_le f537.lt zz_cx1543)
  have ne558 : b536 ≠ cx1543 := Nat.ne_of_lt (Nat.lt_of_lt_of_le A536.lt zz_cx1543)
  have Z543 := Nat.le_trans Z539 K543q.1
  have N543 := Fr.app N0 N543q
  let L_559 : Array Slot := #[.val (.long q0), .second, .val (.long (j0_0 q0 q1 p3)), .second, .val (.long (j0_1 q0 q1 q2 p3)), .second, .val (.int p3), .val (.int (p3 &&& (3 : Int32))), .val (.int (((p3.toUInt32 >>> ((3 : Int32) &&& 31).toUInt32).toInt32) &&& (3 : Int32))), .val (.int (((p3.toUInt32 >>> ((5 : Int32) &&& 31).toUInt32).toInt32) &&& (3 : Int32))), .val (.int (((p3.toUInt32 >>> ((7 : Int32) &&& 31).toUInt32).toInt32) &&& (3 : Int32))), .val (.int (((p3.toUInt32 >>> ((9 : Int32) &&& 31).toUInt32).toInt32) &&& (4194303 : Int32))), .val (.ref b533), .val (.ref b536), .unset, .unset]
  have Vx560 : Arv Z h543 cx0543 cy0543 .long (16 : Int32) (own_k0.map Value.long) (.long (0 : Int64)) := f548
  have Vx561 : Arv Z h543 cx1543 cy1543 .int (16 : Int32) (own_v0.map Value.int) (.int (0 : Int32)) := f549
  have pre563 := fun (t : State) (k : Steps p.tables e below (T543.setTop (mkF m 90 L_559 [(.int (1 : Int32)), (.int (p3 &&& (3 : Int32)))])) t) => pre521 t (by
    show Steps p.tables e below (s₁.setTop (mkF m 46 L_522 [])) _
    refine XS.iload X0.here hx rfl (hb hby at_46) rfl ?_
    show Steps p.tables e below (s₁.setTop (mkF m 48 L_522 [(.int p3)])) _
    refine XS.iconst X0.here hx rfl (hb hby at_48) ?_
    show Steps p.tables e below (s₁.setTop (mkF m 49 L_522 [(.int (5 : Int32)), (.int p3)])) _
    refine XS.iushr X0.here hx rfl (hb hby at_49) rfl ?_
    show Steps p.tables e below (s₁.setTop (mkF m 50 L_522 [(.int ((p3.toUInt32 >>> ((5 : Int32) &&& 31).toUInt32).toInt32))])) _
    refine XS.iconst X0.here hx rfl (hb hby at_50) ?_
    show Steps p.tables e below (s₁.setTop (mkF m 51 L_522 [(.int (3 : Int32)), (.int ((p3.toUInt32 >>> ((5 : Int32) &&& 31).toUInt32).toInt32))])) _
    refine XS.iand X0.here hx rfl (hb hby at_51) rfl ?_
    show Steps p.tables e below (s₁.setTop (mkF m 52 L_522 [(.int (((p3.toUInt32 >>> ((5 : Int32) &&& 31).toUInt32).toInt32) &&& (3 : Int32)))])) _
    refine XS.istore X0.here hx rfl (hb hby at_52) rfl (l' := L_530) rfl ?_
    show Steps p.tables e below (s₁.setTop (mkF m 54 L_530 [])) _
    refine XS.iload X0.here hx rfl (hb hby at_54) rfl ?_
    show Steps p.tables e below (s₁.setTop (mkF m 56 L_530 [(.int p3)])) _
    refine XS.bipush X0.here hx rfl (hb hby at_56) ?_
    show Steps p.tables e below (s₁.setTop (mkF m 58 L_530 [(.int (7 : Int32)), (.int p3)])) _
    refine XS.iushr X0.here hx rfl (hb hby at_58) rfl ?_
    show Steps p.tables e below (s₁.setTop (mkF m 59 L_530 [(.int ((p3.toUInt32 >>> ((7 : Int32) &&& 31).toUInt32).toInt32))])) _
    refine XS.iconst X0.here hx rfl (hb hby at_59) ?_
    show Steps p.tables e below (s₁.setTop (mkF m 60 L_530 [(.int (3 : Int32)), (.int ((p3.toUInt32 >>> ((7 : Int32) &&& 31).toUInt32).toInt32))])) _
    refine XS.iand X0.here hx rfl (hb hby at_60) rfl ?_
    show Steps p.tables e below (s₁.setTop (mkF m 61 L_530 [(.int (((p3.toUInt32 >>> ((7 : Int32) &&& 31).toUInt32).toInt32) &&& (3 : Int32)))])) _
    refine XS.istore X0.here hx rfl (hb hby at_61) rfl (l' := L_531) rfl ?_
    show Steps p.tables e below (s₁.setTop (mkF m 63 L_531 [])) _
    refine XS.iload X0.here hx rfl (hb hby at_63) rfl ?_
    show Steps p.tables e below (s₁.setTop (mkF m 65 L_531 [(.int p3)])) _
    refine XS.bipush X0.here hx rfl (hb hby at_65) ?_
    show Steps p.tables e below (s₁.setTop (mkF m 67 L_531 [(.int (9 : Int32)), (.int p3)])) _
    refine XS.iushr X0.here hx rfl (hb hby at_67) rfl ?_
    show Steps p.tables e below (s₁.setTop (mkF m 68 L_531 [(.int ((p3.toUInt32 >>> ((9 : Int32) &&& 31).toUInt32).toInt32))])) _
    refine X0.ldcInt hx hown (mvT hZ (hw _ (List.mem_of_getElem? (i := 0) rfl))) (g := (mkF m 68 L_531 [(.int ((p3.toUInt32 >>> ((9 : Int32) &&& 31).toUInt32).toInt32))])) rfl (hb hby at_68) _ ?_
    show Steps p.tables e below (s₁.setTop (mkF m 70 L_531 [(.int (4194303 : Int32)), (.int ((p3.toUInt32 >>> ((9 : Int32) &&& 31).toUInt32).toInt32))])) _
    refine XS.iand X0.here hx rfl (hb hby at_70) rfl ?_
    show Steps p.tables e below (s₁.setTop (mkF m 71 L_531 [(.int (((p3.toUInt32 >>> ((9 : Int32) &&& 31).toUInt32).toInt32) &&& (4194303 : Int32)))])) _
    refine XS.istore X0.here hx rfl (hb hby at_71) rfl (l' := L_532) rfl ?_
    show Steps p.tables e below (s₁.setTop (mkF m 73 L_532 [])) _
    refine XS.iconst X0.here hx rfl (hb hby at_73) ?_
    show Steps p.tables e below (s₁.setTop (mkF m 74 L_532 [(.int (3 : Int32))])) _
    refine st533 _ ?_
    show Steps p.tables e below (T533.setTop (mkF m 76 L_532 [(.ref b533)])) _
    refine XS.astore X533.here hx rfl (hb hby at_76) rfl rfl (l' := L_535) rfl ?_
    show Steps p.tables e below (T533.setTop (mkF m 78 L_535 [])) _
    refine st536 _ ?_
    show Steps p.tables e below (T536.setTop (mkF m 81 L_535 [(.ref b536)])) _
    refine XS.dup X536.here hx rfl (hb hby at_81) rfl rfl ?_
    show Steps p.tables e below (T536.setTop (mkF m 82 L_535 [(.ref b536), (.ref b536)])) _
    refine st543.trans ?_
    show Steps p.tables e below (T543.setTop (mkF m 85 L_535 [(.ref b536)])) _
    refine XS.astore X543.here hx rfl (hb hby at_85) rfl rfl (l' := L_559) rfl ?_
    show Steps p.tables e below (T543.setTop (mkF m 87 L_559 [])) _
    refine XS.iload X543.here hx rfl (hb hby at_87) rfl ?_
    show Steps p.tables e below (T543.setTop (mkF m 89 L_559 [(.int (p3 &&& (3 : Int32)))])) _
    refine XS.iconst X543.here hx rfl (hb hby at_89) ?_
    exact k)
  by_cases hc562 : (p3 &&& (3 : Int32)) < (1 : Int32)
  · skip
    obtain ⟨cq564, kq564, q564a, q564b, q564c⟩ := isOf hZ e543 f544
    obtain ⟨_, _, ⟨T564, L564, k564, n564⟩, -, X564, ⟨Lc564, hQ564, l564, y564, z564⟩, st564⟩ := X543.virtualBack hx (y := (⟨"com/example/pathfield/pathfield/query/LongIntMap", "keys", "()[J"⟩ : MethodName)) (z := (⟨"com/example/pathfield/pathfield/query/LongIntMap", "keys", "()[J"⟩ : MethodName)) hown (mvT hZ (hw _ (List.mem_of_getElem? (i := 31) rfl))) (mvT hZ (hw _ (List.mem_of_getElem? (i := 32) rfl))) (notFace_of_selects (args := #[]) (mvT hZ (hw _ (List.mem_of_getElem? (i := 34) rfl)))) (mvT hZ (hw _ (List.mem_of_getElem? (i := 34) rfl))) (mvT hZ (hw _ (List.mem_of_getElem? (i := 33) rfl))) (by decide) (backOf (W := 0) (rm6 l Z aw hw [] b536 cx0543 cx1543 ((0 : Int32)) own_k0 own_v0 cy0543 cy1543 h543 n0 Z543 f544 f545 f546 f547 Vx560 Vx561 own_K0.1 own_K0.2.1 own_K0.2.2) hZ (hw _ (List.mem_of_getElem? (i := 35) rfl)) (hw _ (List.mem_of_getElem? (i := 4) rfl)) (by decide) (by decide)) q564a q564c (g := (mkF m 132 L_559 [(.ref b536)])) rfl (by rw [hml]; rfl) (Steps.refl _) (argsL := []) (rest := []) (lenOf pd_6 rfl) rfl (by show 2 * 0 + _ ≤ _; exact Nat.le_of_eq rfl) (hb hby at_132) (fun _ _ => ⟨rfl, e543, (by decide : 4 + 1 ≤ _), (by decide : 38 + 3 ≤ _)⟩)
    dsimp only [Pt.U, Pt.locs, Pt.cells, Pt.slots] at X564 l564 y564 z564 st564 hQ564
    replace l564 := l564.symm
    subst l564 y564 z564
    obtain ⟨h564, e564⟩ : ∃ z, T564.heap = z := ⟨_, rfl⟩
    rw [e564] at hQ564
    obtain ⟨cx0564, cy0564, rfl, N564q, K564q, g_cx0564, zz_cx0564, f565⟩ := hQ564
    have f566 := f550.keep K564q nin0
    have f567 := f544.keep K564q
    have f568 := f545.keep K564q nin0
    have f569 := f546.keep K564q nin0
    have f570 := f547.keep K564q nin0
    have f571 := Vx560.keep K564q nin0
    have f572 := Vx561.keep K564q nin0
    have ne573 : b533 ≠ cx0564 := Nat.ne_of_lt (Nat.lt_of_lt_of_le f550.lt zz_cx0564)
    have ne574 : b536 ≠ cx0564 := Nat.ne_of_lt (Nat.lt_of_lt_of_le f544.lt zz_cx0564)
    have ne575 : cx0543 ≠ cx0564 := Nat.ne_of_lt (Nat.lt_of_lt_of_le Vx560.lt zz_cx0564)
    have ne576 : cx1543 ≠ cx0564 := Nat.ne_of_lt (Nat.lt_of_lt_of_le Vx561.lt zz_cx0564)
    have Z564 := Nat.le_trans Z543 K564q.1
    have N564 := Fr.app N543 N564q
    let L_577 : Array Slot := #[.val (.long q0), .second, .val (.long (j0_0 q0 q1 p3)), .second, .val (.long (j0_1 q0 q1 q2 p3)), .second, .val (.int p3), .val (.int (p3 &&& (3 : Int32))), .val (.int (((p3.toUInt32 >>> ((3 : Int32) &&& 31).toUInt32).toInt32) &&& (3 : Int32))), .val (.int (((p3.toUInt32 >>> ((5 : Int32) &&& 31).toUInt32).toInt32) &&& (3 : Int32))), .val (.int (((p3.toUInt32 >>> ((7 : Int32) &&& 31).toUInt32).toInt32) &&& (3 : Int32))), .val (.int (((p3.toUInt32 >>> ((9 : Int32) &&& 31).toUInt32).toInt32) &&& (4194303 : Int32))), .val (.ref b533), .val (.ref b536), .val (.ref cx0564), .unset]
    let L_578 : Array Slot := #[.val (.long q0), .second, .val (.long (j0_0 q0 q1 p3)), .second, .val (.long (j0_1 q0 q1 q2 p3)), .second, .val (.int p3), .val (.int (p3 &&& (3 : Int32))), .val (.int (((p3.toUInt32 >>> ((3 : Int32) &&& 31).toUInt32).toInt32) &&& (3 : Int32))), .val (.int (((p3.toUInt32 >>> ((5 : Int32) &&& 31).toUInt32).toInt32) &&& (3 : Int32))), .val (.int (((p3.toUInt32 >>> ((7 : Int32) &&& 31).toUInt32).toInt32) &&& (3 : Int32))), .val (.int (((p3.toUInt32 >>> ((9 : Int32) &&& 31).toUInt32).toInt32) &&& (4194303 : Int32))), .val (.ref b533), .val (.ref b536), .val (.ref cx0564), .val (.int (0 : Int32))]
    obtain ⟨cl579, Ar579, q579, S579, M579, H579, G579⟩ := id f565
    obtain ⟨fs, hr, hrun, hended, hW, hsame⟩ := X564.leave (v := some (.int (1 : Int32))) (fun h => by rw [Bd.returns] at h; cases h) (BodyLoose.notSynchronized Bd)
    refine ⟨_, _, pre563 _ ?_, hrun, hended, _, _, rfl, ?_, ⟨_, rfl⟩, hW, hsame.mono (by decide) (by decide)⟩
    · skip
      show Steps p.tables e below (T543.setTop (mkF m 90 L_559 [(.int (1 : Int32)), (.int (p3 &&& (3 : Int32)))])) _
      refine XS.icmpYes X543.here hx rfl (pc0 := 90) (pc' := 101) rfl (hb hby at_90) rfl (tlt hc562).1 (by decide) (by decide) ?_
      show Steps p.tables e below (T543.setTop (mkF m 101 L_559 [])) _
      refine XS.iload X543.here hx rfl (hb hby at_101) rfl ?_
      show Steps p.tables e below (T543.setTop (mkF m 103 L_559 [(.int (p3 &&& (3 : Int32)))])) _
      refine XS.iconst X543.here hx rfl (hb hby at_103) ?_
      show Steps p.tables e below (T543.setTop (mkF m 104 L_559 [(.int (2 : Int32)), (.int (p3 &&& (3 : Int32)))])) _
      refine XS.icmpYes X543.here hx rfl (pc0 := 104) (pc' := 115) rfl (hb hby at_104) rfl (tlt (own_lm hc562 (by decide))).1 (by decide) (by decide) ?_
      show Steps p.tables e below (T543.setTop (mkF m 115 L_559 [])) _
      refine XS.iload X543.here hx rfl (hb hby at_115) rfl ?_
      show Steps p.tables e below (T543.setTop (mkF m 117 L_559 [(.int (p3 &&& (3 : Int32)))])) _
      refine XS.iconst X543.here hx rfl (hb hby at_117) ?_
      show Steps p.tables e below (T543.setTop (mkF m 118 L_559 [(.int (3 : Int32)), (.int (p3 &&& (3 : Int32)))])) _
      refine XS.icmpYes X543.here hx rfl (pc0 := 118) (pc' := 130) rfl (hb hby at_118) rfl (tlt (own_lm hc562 (by decide))).1 (by decide) (by decide) ?_
      show Steps p.tables e below (T543.setTop (mkF m 130 L_559 [])) _
      refine XS.aload X543.here hx rfl (hb hby at_130) rfl rfl ?_
      show Steps p.tables e below (T543.setTop (mkF m 132 L_559 [(.ref b536)])) _
      refine st564.trans ?_
      show Steps p.tables e below (T564.setTop (mkF m 135 L_559 [(.ref cx0564)])) _
      refine XS.astore X564.here hx rfl (hb hby at_135) rfl rfl (l' := L_577) rfl ?_
      show Steps p.tables e below (T564.setTop (mkF m 137 L_577 [])) _
      refine XS.iconst X564.here hx rfl (hb hby at_137) ?_
      show Steps p.tables e below (T564.setTop (mkF m 138 L_577 [(.int (0 : Int32))])) _
      refine XS.istore X564.here hx rfl (hb hby at_138) rfl (l' := L_578) rfl ?_
      show Steps p.tables e below (T564.setTop (mkF m 140 L_578 [])) _
      refine XS.iload X564.here hx rfl (hb hby at_140) rfl ?_
      show Steps p.tables e below (T564.setTop (mkF m 142 L_578 [(.int (p3 &&& (3 : Int32)))])) _
      refine XS.iconst X564.here hx rfl (hb hby at_142) ?_
      show Steps p.tables e below (T564.setTop (mkF m 143 L_578 [(.int (1 : Int32)), (.int (p3 &&& (3 : Int32)))])) _
      refine XS.icmpYes X564.here hx rfl (pc0 := 143) (pc' := 158) rfl (hb hby at_143) rfl (tlt hc562).1 (by decide) (by decide) ?_
      show Steps p.tables e below (T564.setTop (mkF m 158 L_578 [])) _
      refine XS.iload X564.here hx rfl (hb hby at_158) rfl ?_
      show Steps p.tables e below (T564.setTop (mkF m 160 L_578 [(.int (p3 &&& (3 : Int32)))])) _
      refine XS.iconst X564.here hx rfl (hb hby at_160) ?_
      show Steps p.tables e below (T564.setTop (mkF m 161 L_578 [(.int (2 : Int32)), (.int (p3 &&& (3 : Int32)))])) _
      refine XS.icmpYes X564.here hx rfl (pc0 := 161) (pc' := 182) rfl (hb hby at_161) rfl (tlt (own_lm hc562 (by decide))).1 (by decide) (by decide) ?_
      show Steps p.tables e below (T564.setTop (mkF m 182 L_578 [])) _
      refine XS.iload X564.here hx rfl (hb hby at_182) rfl ?_
      show Steps p.tables e below (T564.setTop (mkF m 184 L_578 [(.int (p3 &&& (3 : Int32)))])) _
      refine XS.iconst X564.here hx rfl (hb hby at_184) ?_
      show Steps p.tables e below (T564.setTop (mkF m 185 L_578 [(.int (3 : Int32)), (.int (p3 &&& (3 : Int32)))])) _
      refine XS.icmpYes X564.here hx rfl (pc0 := 185) (pc' := 215) rfl (hb hby at_185) rfl (tlt (own_lm hc562 (by decide))).1 (by decide) (by decide) ?_
      show Steps p.tables e below (T564.setTop (mkF m 215 L_578 [])) _
      refine XS.aload X564.here hx rfl (hb hby at_215) rfl rfl ?_
      show Steps p.tables e below (T564.setTop (mkF m 217 L_578 [(.ref cx0564)])) _
      refine X564.arraylength hx (by rw [e564]; exact Ar579.1) (State.isArrayOf_alike hZ.alike Ar579.2.1) (g := (mkF m 217 L_578 [(.ref cx0564)])) rfl rfl (hb hby at_217) _ ?_
      rw [len_of S579 M579]
      show Steps p.tables e below (T564.setTop (mkF m 218 L_578 [(.int (0 : Int32))])) _
      refine XS.iload X564.here hx rfl (hb hby at_218) rfl ?_
      show Steps p.tables e below (T564.setTop (mkF m 220 L_578 [(.int (0 : Int32)), (.int (0 : Int32))])) _
      refine XS.icmpYes X564.here hx rfl (pc0 := 220) (pc' := 225) rfl (hb hby at_220) rfl (teq (rfl : (0 : Int32) = (0 : Int32))).1 (by decide) (by decide) ?_
      show Steps p.tables e below (T564.setTop (mkF m 225 L_578 [])) _
      refine XS.iload X564.here hx rfl (hb hby at_225) rfl ?_
      show Steps p.tables e below (T564.setTop (mkF m 227 L_578 [(.int (0 : Int32))])) _
      refine XS.iconst X564.here hx rfl (hb hby at_227) ?_
      show Steps p.tables e below (T564.setTop (mkF m 228 L_578 [(.int (1 : Int32)), (.int (0 : Int32))])) _
      refine XS.icmpYes X564.here hx rfl (pc0 := 228) (pc' := 245) rfl (hb hby at_228) rfl (tlt (by decide : (0 : Int32) < (1 : Int32))).1 (by decide) (by decide) ?_
      show Steps p.tables e below (T564.setTop (mkF m 245 L_578 [])) _
      refine XS.iload X564.here hx rfl (hb hby at_245) rfl ?_
      show Steps p.tables e below (T564.setTop (mkF m 247 L_578 [(.int (0 : Int32))])) _
      refine XS.iconst X564.here hx rfl (hb hby at_247) ?_
      show Steps p.tables e below (T564.setTop (mkF m 248 L_578 [(.int (2 : Int32)), (.int (0 : Int32))])) _
      refine XS.icmpYes X564.here hx rfl (pc0 := 248) (pc' := 265) rfl (hb hby at_248) rfl (tlt (by decide : (0 : Int32) < (2 : Int32))).1 (by decide) (by decide) ?_
      show Steps p.tables e below (T564.setTop (mkF m 265 L_578 [])) _
      refine XS.iload X564.here hx rfl (hb hby at_265) rfl ?_
      show Steps p.tables e below (T564.setTop (mkF m 267 L_578 [(.int (0 : Int32))])) _
      refine XS.iconst X564.here hx rfl (hb hby at_267) ?_
      show Steps p.tables e below (T564.setTop (mkF m 268 L_578 [(.int (3 : Int32)), (.int (0 : Int32))])) _
      refine XS.icmpYes X564.here hx rfl (pc0 := 268) (pc' := 285) rfl (hb hby at_268) rfl (tlt (by decide : (0 : Int32) < (3 : Int32))).1 (by decide) (by decide) ?_
      show Steps p.tables e below (T564.setTop (mkF m 285 L_578 [])) _
      refine XS.iconst X564.here hx rfl (hb hby at_285) ?_
      show Steps p.tables e below (T564.setTop (mkF m 286 L_578 [(.int (1 : Int32))])) _
      exact retN X564 hx (t := .boolean) Bd.returns (by simp) (hb hby at_286) hr
    · show Q0 Z q0 q1 q2 p3 h0 n0 _ T564.heap _
      rw [e564]
      have hv : (1 : Int32) = (v0 q0 q1 q2 p3) := by first | exact (if_pos hc562).symm | (unfold v0; first | (rw [if_pos hc562]) | (simp only [if_pos hc562]))
      exact ⟨(by rw [← hv]), N564⟩
  · skip
    obtain ⟨cq580, kq580, q580a, q580b, q580c⟩ := isOf hZ e543 f544
    obtain ⟨_, _, ⟨T580, L580, k580, n580⟩, -, X580, ⟨Lc580, hQ580, l580, y580, z580⟩, st580⟩ := X543.virtualBack hx (y := (⟨"com/example/pathfield/pathfield/query/LongIntMap", "put", "(JI)V"⟩ : MethodName)) (z := (⟨"com/example/pathfield/pathfield/query/LongIntMap", "put", "(JI)V"⟩ : MethodName)) hown (mvT hZ (hw _ (List.mem_of_getElem? (i := 20) rfl))) (mvT hZ (hw _ (List.mem_of_getElem? (i := 21) rfl))) (notFace_of_selects (args := #[]) (mvT hZ (hw _ (List.mem_of_getElem? (i := 23) rfl)))) (mvT hZ (hw _ (List.mem_of_getElem? (i := 23) rfl))) (mvT hZ (hw _ (List.mem_of_getElem? (i := 22) rfl))) (by decide) (backOf (W := 0) (rm4 l Z aw hw [] b536 q0 ((((p3.toUInt32 >>> ((5 : Int32) &&& 31).toUInt32).toInt32) &&& (3 : Int32))) cx0543 cx1543 ((0 : Int32)) own_k0 own_v0 cy0543 cy1543 h543 n0 Z543 f544 f545 f546 f547 Vx560 Vx561 g_b536 g_cx0543 g_cx1543 ne556 ne558 nx_cx0543_cx1543 own_W0.1 own_W0.2.1 own_W0.2.2.1 (own_W0.2.2.2 _)) hZ (hw _ (List.mem_of_getElem? (i := 24) rfl)) (hw _ (List.mem_of_getElem? (i := 4) rfl)) (by decide) (by decide)) q580a q580c (g := (mkF m 98 L_559 [(.int (((p3.toUInt32 >>> ((5 : Int32) &&& 31).toUInt32).toInt32) &&& (3 : Int32))), (.long q0), (.ref b536)])) rfl (by rw [hml]; rfl) (Steps.refl _) (argsL := [(.long q0), (.int (((p3.toUInt32 >>> ((5 : Int32) &&& 31).toUInt32).toInt32) &&& (3 : Int32)))]) (rest := []) (lenOf pd_7 rfl) rfl (by show 2 * 0 + _ ≤ _; exact Nat.le_of_eq rfl) (hb hby at_98) (fun _ _ => ⟨rfl, e543, (by decide : 4 + 0 ≤ _), (by decide : 38 + 0 ≤ _)⟩)
    dsimp only [Pt.U, Pt.locs, Pt.cells, Pt.slots] at X580 l580 y580 z580 st580 hQ580
    replace l580 := l580.symm
    subst l580 y580 z580
    obtain ⟨h580, e580⟩ : ∃ z, T580.heap = z := ⟨_, rfl⟩
    rw [e580] at hQ580
    obtain ⟨rfl, N580q, K580q, f581, f582, f583, f584, f585, f586⟩ := hQ580
    have f587 := f550.keep K580q (ninS ne538 (ninS ne555 (ninS ne557 nin0)))
    have f588 := f544.keep K580q
    have Z580 := Nat.le_trans Z543 K580q.1
    have N580 := Fr.app N543 N580q
    have pre595 := fun (t : State) (k : Steps p.tables e below (T580.setTop (mkF m 104 L_559 [(.int (2 : Int32)), (.int (p3 &&& (3 : Int32)))])) t) => pre563 t (by
      show Steps p.tables e below (T543.setTop (mkF m 90 L_559 [(.int (1 : Int32)), (.int (p3 &&& (3 : Int32)))])) _
      refine XS.icmpNo X543.here hx rfl (hb hby at_90) rfl (flt hc562).1 ?_
      show Steps p.tables e below (T543.setTop (mkF m 93 L_559 [])) _
      refine XS.aload X543.here hx rfl (hb hby at_93) rfl rfl ?_
      show Steps p.tables e below (T543.setTop (mkF m 95 L_559 [(.ref b536)])) _
      refine XS.lloadN X543.here hx rfl (hb hby at_95) rfl ?_
      show Steps p.tables e below (T543.setTop (mkF m 96 L_559 [(.long q0), (.ref b536)])) _
      refine XS.iload X543.here hx rfl (hb hby at_96) rfl ?_
      show Steps p.tables e below (T543.setTop (mkF m 98 L_559 [(.int (((p3.toUInt32 >>> ((5 : Int32) &&& 31).toUInt32).toInt32) &&& (3 : Int32))), (.long q0), (.ref b536)])) _
      refine st580.trans ?_
      show Steps p.tables e below (T580.setTop (mkF m 101 L_559 [])) _
      refine XS.iload X580.here hx rfl (hb hby at_101) rfl ?_
      show Steps p.tables e below (T580.setTop (mkF m 103 L_559 [(.int (p3 &&& (3 : Int32)))])) _
      refine XS.iconst X580.here hx rfl (hb hby at_103) ?_
      exact k)
    by_cases hc594 : (p3 &&& (3 : Int32)) < (2 : Int32)
    · skip
      obtain ⟨cq596, kq596, q596a, q596b, q596c⟩ := isOf hZ e580 f581
      obtain ⟨_, _, ⟨T596, L596, k596, n596⟩, -, X596, ⟨Lc596, hQ596, l596, y596, z596⟩, st596⟩ := X580.virtualBack hx (y := (⟨"com/example/pathfield/pathfield/query/LongIntMap", "keys", "()[J"⟩ : MethodName)) (z := (⟨"com/example/pathfield/pathfield/query/LongIntMap", "keys", "()[J"⟩ : MethodName)) hown (mvT hZ (hw _ (List.mem_of_getElem? (i := 31) rfl))) (mvT hZ (hw _ (List.mem_of_getElem? (i := 32) rfl))) (notFace_of_selects (args := #[]) (mvT hZ (hw _ (List.mem_of_getElem? (i := 34) rfl)))) (mvT hZ (hw _ (List.mem_of_getElem? (i := 34) rfl))) (mvT hZ (hw _ (List.mem_of_getElem? (i := 33) rfl))) (by decide) (backOf (W := 0) (rm6 l Z aw hw [] b536 cx0543 cx1543 ((j4_0 q0 (0 : Int32) own_k0 own_v0)) ((j4_1 q0 own_k0 own_v0)) ((j4_2 q0 (((p3.toUInt32 >>> ((5 : Int32) &&& 31).toUInt32).toInt32) &&& (3 : Int32)) own_k0 own_v0)) cy0543 cy1543 h580 n0 Z580 f581 f582 f583 f584 f585 f586 (own_K1 q0 _ (own_v3 p3 5)).1 (own_K1 q0 _ (own_v3 p3 5)).2.1 (own_K1 q0 _ (own_v3 p3 5)).2.2) hZ (hw _ (List.mem_of_getElem? (i := 35) rfl)) (hw _ (List.mem_of_getElem? (i := 4) rfl)) (by decide) (by decide)) q596a q596c (g := (mkF m 132 L_559 [(.ref b536)])) rfl (by rw [hml]; rfl) (Steps.refl _) (argsL := []) (rest := []) (lenOf pd_6 rfl) rfl (by show 2 * 0 + _ ≤ _; exact Nat.le_of_eq rfl) (hb hby at_132) (fun _ _ => ⟨rfl, e580, (by decide : 4 + 1 ≤ _), (by decide : 38 + 3 ≤ _)⟩)
      dsimp only [Pt.U, Pt.locs, Pt.cells, Pt.slots] at X596 l596 y596 z596 st596 hQ596
      replace l596 := l596.symm
      subst l596 y596 z596
      obtain ⟨h596, e596⟩ : ∃ z, T596.heap = z := ⟨_, rfl⟩
      rw [e596] at hQ596
      obtain ⟨cx0596, cy0596, rfl, N596q, K596q, g_cx0596, zz_cx0596, f597⟩ := hQ596
      have f598 := f587.keep K596q nin0
      have f599 := f581.keep K596q
      have f600 := f582.keep K596q nin0
      have f601 := f583.keep K596q nin0
      have f602 := f584.keep K596q nin0
      have f603 := f585.keep K596q nin0
      have f604 := f586.keep K596q nin0
      have ne605 : b533 ≠ cx0596 := Nat.ne_of_lt (Nat.lt_of_lt_of_le f587.lt zz_cx0596)
      have ne606 : b536 ≠ cx0596 := Nat.ne_of_lt (Nat.lt_of_lt_of_le f581.lt zz_cx0596)
      have ne607 : cx0543 ≠ cx0596 := Nat.ne_of_lt (Nat.lt_of_lt_of_le f585.lt zz_cx0596)
      have ne608 : cx1543 ≠ cx0596 := Nat.ne_of_lt (Nat.lt_of_lt_of_le f586.lt zz_cx0596)
      have Z596 := Nat.le_trans Z580 K596q.1
      have N596 := Fr.app N580 N596q
      let L_609 : Array Slot := #[.val (.long q0), .second, .val (.long (j0_0 q0 q1 p3)), .second, .val (.long (j0_1 q0 q1 q2 p3)), .second, .val (.int p3), .val (.int (p3 &&& (3 : Int32))), .val (.int (((p3.toUInt32 >>> ((3 : Int32) &&& 31).toUInt32).toInt32) &&& (3 : Int32))), .val (.int (((p3.toUInt32 >>> ((5 : Int32) &&& 31).toUInt32).toInt32) &&& (3 : Int32))), .val (.int (((p3.toUInt32 >>> ((7 : Int32) &&& 31).toUInt32).toInt32) &&& (3 : Int32))), .val (.int (((p3.toUInt32 >>> ((9 : Int32) &&& 31).toUInt32).toInt32) &&& (4194303 : Int32))), .val (.ref b533), .val (.ref b536), .val (.ref cx0596), .unset]
      let L_610 : Array Slot := #[.val (.long q0), .second, .val (.long (j0_0 q0 q1 p3)), .second, .val (.long (j0_1 q0 q1 q2 p3)), .second, .val (.int p3), .val (.int (p3 &&& (3 : Int32))), .val (.int (((p3.toUInt32 >>> ((3 : Int32) &&& 31).toUInt32).toInt32) &&& (3 : Int32))), .val (.int (((p3.toUInt32 >>> ((5 : Int32) &&& 31).toUInt32).toInt32) &&& (3 : Int32))), .val (.int (((p3.toUInt32 >>> ((7 : Int32) &&& 31).toUInt32).toInt32) &&& (3 : Int32))), .val (.int (((p3.toUInt32 >>> ((9 : Int32) &&& 31).toUInt32).toInt32) &&& (4194303 : Int32))), .val (.ref b533), .val (.ref b536), .val (.ref cx0596), .val (.int (0 : Int32))]
      obtain ⟨cl611, Ar611, q611, S611, M611, H611, G611⟩ := id f598
      have hin612 : ¬ ((0 : Int32) < 0 ∨ cl611.slots.size ≤ ((0 : Int32)).toNatClampNeg) := inb_of S611 ⟨by decide, by decide⟩
      obtain ⟨T613, h613, X613, e613, W613, st613⟩ := stJ X596 hx hZ e596 Ar611 (j := (0 : Int32)) hin612 (g := (mkF m 151 L_610 [(.long q0), (.int (0 : Int32)), (.ref b533)])) rfl rfl (hb hby at_151)
      have V613 : Arv Z h613 b533 k533 .long (3 : Int32) [(.long q0), (.long (0 : Int64)), (.long (0 : Int64))] (.long (0 : Int64)) := Arv.set Ar611 q611 S611 M611 H611 G611 rfl W613 0 rfl (Nat.le_of_ble_eq_true rfl)
      have f615 := f599.wr W613
      have f616 := f600.other W613 (Or.inl (Ne.symm ne538))
      have f617 := f601.other W613 (Or.inl (Ne.symm ne538))
      have f618 := f602.other W613 (Or.inl (Ne.symm ne538))
      have f619 := f603.other W613 (Ne.symm ne555)
      have f620 := f604.other W613 (Ne.symm ne557)
      have f621 := f597.other W613 (Ne.symm ne605)
      have Z622 := Nat.le_trans Z596 (Keep.of_wr W613).1
      have N623 := Fr.snoc X613 N596 g_b533
      let L_624 : Array Slot := #[.val (.long q0), .second, .val (.long (j0_0 q0 q1 p3)), .second, .val (.long (j0_1 q0 q1 q2 p3)), .second, .val (.int p3), .val (.int (p3 &&& (3 : Int32))), .val (.int (((p3.toUInt32 >>> ((3 : Int32) &&& 31).toUInt32).toInt32) &&& (3 : Int32))), .val (.int (((p3.toUInt32 >>> ((5 : Int32) &&& 31).toUInt32).toInt32) &&& (3 : Int32))), .val (.int (((p3.toUInt32 >>> ((7 : Int32) &&& 31).toUInt32).toInt32) &&& (3 : Int32))), .val (.int (((p3.toUInt32 >>> ((9 : Int32) &&& 31).toUInt32).toInt32) &&& (4194303 : Int32))), .val (.ref b533), .val (.ref b536), .val (.ref cx0596), .val (.int (1 : Int32))]
      obtain ⟨cl625, Ar625, q625, S625, M625, H625, G625⟩ := id f621
      have pre627 := fun (t : State) (k : Steps p.tables e below (T613.setTop (mkF m 220 L_624 [(.int (1 : Int32)), (.int (j4_0 q0 (0 : Int32) own_k0 own_v0))])) t) => pre595 t (by
        show Steps p.tables e below (T580.setTop (mkF m 104 L_559 [(.int (2 : Int32)), (.int (p3 &&& (3 : Int32)))])) _
        refine XS.icmpYes X580.here hx rfl (pc0 := 104) (pc' := 115) rfl (hb hby at_104) rfl (tlt hc594).1 (by decide) (by decide) ?_
        show Steps p.tables e below (T580.setTop (mkF m 115 L_559 [])) _
        refine XS.iload X580.here hx rfl (hb hby at_115) rfl ?_
        show Steps p.tables e below (T580.setTop (mkF m 117 L_559 [(.int (p3 &&& (3 : Int32)))])) _
        refine XS.iconst X580.here hx rfl (hb hby at_117) ?_
        show Steps p.tables e below (T580.setTop (mkF m 118 L_559 [(.int (3 : Int32)), (.int (p3 &&& (3 : Int32)))])) _
        refine XS.icmpYes X580.here hx rfl (pc0 := 118) (pc' := 130) rfl (hb hby at_118) rfl (tlt (own_lm hc594 (by decide))).1 (by decide) (by decide) ?_
        show Steps p.tables e below (T580.setTop (mkF m 130 L_559 [])) _
        refine XS.aload X580.here hx rfl (hb hby at_130) rfl rfl ?_
        show Steps p.tables e below (T580.setTop (mkF m 132 L_559 [(.ref b536)])) _
        refine st596.trans ?_
        show Steps p.tables e below (T596.setTop (mkF m 135 L_559 [(.ref cx0596)])) _
        refine XS.astore X596.here hx rfl (hb hby at_135) rfl rfl (l' := L_609) rfl ?_
        show Steps p.tables e below (T596.setTop (mkF m 137 L_609 [])) _
        refine XS.iconst X596.here hx rfl (hb hby at_137) ?_
        show Steps p.tables e below (T596.setTop (mkF m 138 L_609 [(.int (0 : Int32))])) _
        refine XS.istore X596.here hx rfl (hb hby at_138) rfl (l' := L_610) rfl ?_
        show Steps p.tables e below (T596.setTop (mkF m 140 L_610 [])) _
        refine XS.iload X596.here hx rfl (hb hby at_140) rfl ?_
        show Steps p.tables e below (T596.setTop (mkF m 142 L_610 [(.int (p3 &&& (3 : Int32)))])) _
        refine XS.iconst X596.here hx rfl (hb hby at_142) ?_
        show Steps p.tables e below (T596.setTop (mkF m 143 L_610 [(.int (1 : Int32)), (.int (p3 &&& (3 : Int32)))])) _
        refine XS.icmpNo X596.here hx rfl (hb hby at_143) rfl (flt hc562).1 ?_
        show Steps p.tables e below (T596.setTop (mkF m 146 L_610 [])) _
        refine XS.aload X596.here hx rfl (hb hby at_146) rfl rfl ?_
        show Steps p.tables e below (T596.setTop (mkF m 148 L_610 [(.ref b533)])) _
        refine XS.iload X596.here hx rfl (hb hby at_148) rfl ?_
        show Steps p.tables e below (T596.setTop (mkF m 150 L_610 [(.int (0 : Int32)), (.ref b533)])) _
        refine XS.lloadN X596.here hx rfl (hb hby at_150) rfl ?_
        show Steps p.tables e below (T596.setTop (mkF m 151 L_610 [(.long q0), (.int (0 : Int32)), (.ref b533)])) _
        refine st613 _ ?_
        show Steps p.tables e below (T613.setTop (mkF m 152 L_610 [])) _
        refine XS.iload X613.here hx rfl (hb hby at_152) rfl ?_
        show Steps p.tables e below (T613.setTop (mkF m 154 L_610 [(.int (0 : Int32))])) _
        refine XS.iconst X613.here hx rfl (hb hby at_154) ?_
        show Steps p.tables e below (T613.setTop (mkF m 155 L_610 [(.int (1 : Int32)), (.int (0 : Int32))])) _
        refine XS.iadd X613.here hx rfl (hb hby at_155) rfl ?_
        show Steps p.tables e below (T613.setTop (mkF m 156 L_610 [(.int (1 : Int32))])) _
        refine XS.istore X613.here hx rfl (hb hby at_156) rfl (l' := L_624) rfl ?_
        show Steps p.tables e below (T613.setTop (mkF m 158 L_624 [])) _
        refine XS.iload X613.here hx rfl (hb hby at_158) rfl ?_
        show Steps p.tables e below (T613.setTop (mkF m 160 L_624 [(.int (p3 &&& (3 : Int32)))])) _
        refine XS.iconst X613.here hx rfl (hb hby at_160) ?_
        show Steps p.tables e below (T613.setTop (mkF m 161 L_624 [(.int (2 : Int32)), (.int (p3 &&& (3 : Int32)))])) _
        refine XS.icmpYes X613.here hx rfl (pc0 := 161) (pc' := 182) rfl (hb hby at_161) rfl (tlt hc594).1 (by decide) (by decide) ?_
        show Steps p.tables e below (T613.setTop (mkF m 182 L_624 [])) _
        refine XS.iload X613.here hx rfl (hb hby at_182) rfl ?_
        show Steps p.tables e below (T613.setTop (mkF m 184 L_624 [(.int (p3 &&& (3 : Int32)))])) _
        refine XS.iconst X613.here hx rfl (hb hby at_184) ?_
        show Steps p.tables e below (T613.setTop (mkF m 185 L_624 [(.int (3 : Int32)), (.int (p3 &&& (3 : Int32)))])) _
        refine XS.icmpYes X613.here hx rfl (pc0 := 185) (pc' := 215) rfl (hb hby at_185) rfl (tlt (own_lm hc594 (by decide))).1 (by decide) (by decide) ?_
        show Steps p.tables e below (T613.setTop (mkF m 215 L_624 [])) _
        refine XS.aload X613.here hx rfl (hb hby at_215) rfl rfl ?_
        show Steps p.tables e below (T613.setTop (mkF m 217 L_624 [(.ref cx0596)])) _
        refine X613.arraylength hx (by rw [e613]; exact Ar625.1) (State.isArrayOf_alike hZ.alike Ar625.2.1) (g := (mkF m 217 L_624 [(.ref cx0596)])) rfl rfl (hb hby at_217) _ ?_
        rw [len_of S625 M625]
        show Steps p.tables e below (T613.setTop (mkF m 218 L_624 [(.int (j4_0 q0 (0 : Int32) own_k0 own_v0))])) _
        refine XS.iload X613.here hx rfl (hb hby at_218) rfl ?_
        exact k)
      by_cases hc626 : (j4_0 q0 (0 : Int32) own_k0 own_v0) = (1 : Int32)
      · skip
        obtain ⟨cl628, Ar628, q628, S628, M628, H628, G628⟩ := id V613
        have hin629 : ¬ ((0 : Int32) < 0 ∨ cl628.slots.size ≤ ((0 : Int32)).toNatClampNeg) := inb_of S628 ⟨by decide, by decide⟩
        have hat630 : cl628.slots[((0 : Int32)).toNatClampNeg]? = some (.long q0) := H628.at hin629 rfl
        obtain ⟨_, _, ⟨T631, L631, k631, n631⟩, -, X631, ⟨Lc631, hQ631, l631, y631, z631⟩, st631⟩ := Jvm.LawKit.callS X613 hx (y := (⟨"com/example/pathfield/pathfield/query/LongIntMapKeysPinLaw", "has", "([JJ)Z"⟩ : MethodName)) hown (mvT hZ (hw _ (List.mem_of_getElem? (i := 36) rfl))) (mvT hZ (hw _ (List.mem_of_getElem? (i := 37) rfl))) (mvT hZ (hw _ (List.mem_of_getElem? (i := 38) rfl))) (mvT hZ (hw _ (List.mem_of_getElem? (i := 39) rfl))) (by decide) (backOf (W := 0) (rm7 l Z aw hw [] cx0596 q0 ((j4_0 q0 (0 : Int32) own_k0 own_v0)) ((own_res (j4_1 q0 own_k0 own_v0) (j4_2 q0 (((p3.toUInt32 >>> ((5 : Int32) &&& 31).toUInt32).toInt32) &&& (3 : Int32)) own_k0 own_v0) 16)) cy0596 h613 n0 Z622 f621) hZ (hw _ (List.mem_of_getElem? (i := 39) rfl)) (hw _ (List.mem_of_getElem? (i := 38) rfl)) (by decide) (by decide)) (g := (mkF m 237 L_624 [(.long q0), (.ref cx0596)])) rfl (by rw [hml]; rfl) (argsL := [(.ref cx0596), (.long q0)]) (rest := []) (lenOf pd_8 rfl) rfl (by show 2 * 0 + _ ≤ _; exact Nat.le_of_eq rfl) (hb hby at_237) (fun _ _ => ⟨rfl, e613, (by decide : 5 + 0 ≤ _), (by decide : 41 + 0 ≤ _)⟩)
        dsimp only [Pt.U, Pt.locs, Pt.cells, Pt.slots] at X631 l631 y631 z631 st631 hQ631
        replace l631 := l631.symm
        subst l631 y631 z631
        obtain ⟨rfl, N631q, e631⟩ := hQ631
        have N631 := Fr.app N623 N631q
        have pre633 := fun (t : State) (k : Steps p.tables e below (T631.setTop (mkF m 240 L_624 [(.int (nar .boolean (j7_0 q0 (j4_0 q0 (0 : Int32) own_k0 own_v0) (own_res (j4_1 q0 own_k0 own_v0) (j4_2 q0 (((p3.toUInt32 >>> ((5 : Int32) &&& 31).toUInt32).toInt32) &&& (3 : Int32)) own_k0 own_v0) 16))))])) t) => pre627 t (by
          show Steps p.tables e below (T613.setTop (mkF m 220 L_624 [(.int (1 : Int32)), (.int (j4_0 q0 (0 : Int32) own_k0 own_v0))])) _
          refine XS.icmpYes X613.here hx rfl (pc0 := 220) (pc' := 225) rfl (hb hby at_220) rfl (teq hc626).1 (by decide) (by decide) ?_
          show Steps p.tables e below (T613.setTop (mkF m 225 L_624 [])) _
          refine XS.iload X613.here hx rfl (hb hby at_225) rfl ?_
          show Steps p.tables e below (T613.setTop (mkF m 227 L_624 [(.int (1 : Int32))])) _
          refine XS.iconst X613.here hx rfl (hb hby at_227) ?_
          show Steps p.tables e below (T613.setTop (mkF m 228 L_624 [(.int (1 : Int32)), (.int (1 : Int32))])) _
          refine XS.icmpNo X613.here hx rfl (hb hby at_228) rfl (flt (by decide : ¬ ((1 : Int32) < (1 : Int32)))).1 ?_
          show Steps p.tables e below (T613.setTop (mkF m 231 L_624 [])) _
          refine XS.aload X613.here hx rfl (hb hby at_231) rfl rfl ?_
          show Steps p.tables e below (T613.setTop (mkF m 233 L_624 [(.ref cx0596)])) _
          refine XS.aload X613.here hx rfl (hb hby at_233) rfl rfl ?_
          show Steps p.tables e below (T613.setTop (mkF m 235 L_624 [(.ref b533), (.ref cx0596)])) _
          refine XS.iconst X613.here hx rfl (hb hby at_235) ?_
          show Steps p.tables e below (T613.setTop (mkF m 236 L_624 [(.int (0 : Int32)), (.ref b533), (.ref cx0596)])) _
          refine X613.laload hx (j := (0 : Int32)) (v := (.long q0)) (by rw [e613]; exact Ar628.1) (State.isArrayOf_alike hZ.alike Ar628.2.1) Ar628.2.2 hin629 hat630 (g := (mkF m 236 L_624 [(.int (0 : Int32)), (.ref b533), (.ref cx0596)])) rfl rfl (hb hby at_236) _ ?_
          show Steps p.tables e below (T613.setTop (mkF m 237 L_624 [(.long q0), (.ref cx0596)])) _
          refine st631 _ ?_
          exact k)
        by_cases hc632 : (nar .boolean (j7_0 q0 (j4_0 q0 (0 : Int32) own_k0 own_v0) (own_res (j4_1 q0 own_k0 own_v0) (j4_2 q0 (((p3.toUInt32 >>> ((5 : Int32) &&& 31).toUInt32).toInt32) &&& (3 : Int32)) own_k0 own_v0) 16))) = (0 : Int32)
        · skip
          obtain ⟨fs, hr, hrun, hended, hW, hsame⟩ := X631.leave (v := some (.int (0 : Int32))) (fun h => by rw [Bd.returns] at h; cases h) (BodyLoose.notSynchronized Bd)
          refine ⟨_, _, pre633 _ ?_, hrun, hended, _, _, rfl, ?_, ⟨_, rfl⟩, hW, hsame.mono (by decide) (by decide)⟩
          · skip
            show Steps p.tables e below (T631.setTop (mkF m 240 L_624 [(.int (nar .boolean (j7_0 q0 (j4_0 q0 (0 : Int32) own_k0 own_v0) (own_res (j4_1 q0 own_k0 own_v0) (j4_2 q0 (((p3.toUInt32 >>> ((5 : Int32) &&& 31).toUInt32).toInt32) &&& (3 : Int32)) own_k0 own_v0) 16))))])) _
            refine XS.ifNo X631.here hx rfl (hb hby at_240) rfl ((if0 _ _).trans (teq hc632).2) ?_
            show Steps p.tables e below (T631.setTop (mkF m 243 L_624 [])) _
            refine XS.iconst X631.here hx rfl (hb hby at_243) ?_
            show Steps p.tables e below (T631.setTop (mkF m 244 L_624 [(.int (0 : Int32))])) _
            exact retN X631 hx (t := .boolean) Bd.returns (by simp) (hb hby at_244) hr
          · show Q0 Z q0 q1 q2 p3 h0 n0 _ T631.heap _
            rw [e631]
            have hv : (0 : Int32) = (v0 q0 q1 q2 p3) := by first | exact ((if_neg hc562).trans ((if_pos hc594).trans ((if_pos hc626).trans (if_pos hc632)))).symm | (unfold v0; first | (rw [if_neg hc562, if_pos hc594, if_pos hc626, if_pos hc632]) | (simp only [if_neg hc562, if_pos hc594, if_pos hc626, if_pos hc632]))
            exact ⟨(by rw [← hv]), N631⟩
        · skip
          obtain ⟨fs, hr, hrun, hended, hW, hsame⟩ := X631.leave (v := some (.int (1 : Int32))) (fun h => by rw [Bd.returns] at h; cases h) (BodyLoose.notSynchronized Bd)
          refine ⟨_, _, pre633 _ ?_, hrun, hended, _, _, rfl, ?_, ⟨_, rfl⟩, hW, hsame.mono (by decide) (by decide)⟩
          · skip
            show Steps p.tables e below (T631.setTop (mkF m 240 L_624 [(.int (nar .boolean (j7_0 q0 (j4_0 q0 (0 : Int32) own_k0 own_v0) (own_res (j4_1 q0 own_k0 own_v0) (j4_2 q0 (((p3.toUInt32 >>> ((5 : Int32) &&& 31).toUInt32).toInt32) &&& (3 : Int32)) own_k0 own_v0) 16))))])) _
            refine XS.ifYes X631.here hx rfl (pc0 := 240) (pc' := 245) rfl (hb hby at_240) rfl ((if0 _ _).trans (feq hc632).2) (by decide) (by decide) ?_
            show Steps p.tables e below (T631.setTop (mkF m 245 L_624 [])) _
            refine XS.iload X631.here hx rfl (hb hby at_245) rfl ?_
            show Steps p.tables e below (T631.setTop (mkF m 247 L_624 [(.int (1 : Int32))])) _
            refine XS.iconst X631.here hx rfl (hb hby at_247) ?_
            show Steps p.tables e below (T631.setTop (mkF m 248 L_624 [(.int (2 : Int32)), (.int (1 : Int32))])) _
            refine XS.icmpYes X631.here hx rfl (pc0 := 248) (pc' := 265) rfl (hb hby at_248) rfl (tlt (by decide : (1 : Int32) < (2 : Int32))).1 (by decide) (by decide) ?_
            show Steps p.tables e below (T631.setTop (mkF m 265 L_624 [])) _
            refine XS.iload X631.here hx rfl (hb hby at_265) rfl ?_
            show Steps p.tables e below (T631.setTop (mkF m 267 L_624 [(.int (1 : Int32))])) _
            refine XS.iconst X631.here hx rfl (hb hby at_267) ?_
            show Steps p.tables e below (T631.setTop (mkF m 268 L_624 [(.int (3 : Int32)), (.int (1 : Int32))])) _
            refine XS.icmpYes X631.here hx rfl (pc0 := 268) (pc' := 285) rfl (hb hby at_268) rfl (tlt (by decide : (1 : Int32) < (3 : Int32))).1 (by decide) (by decide) ?_
            show Steps p.tables e below (T631.setTop (mkF m 285 L_624 [])) _
            refine XS.iconst X631.here hx rfl (hb hby at_285) ?_
            show Steps p.tables e below (T631.setTop (mkF m 286 L_624 [(.int (1 : Int32))])) _
            exact retN X631 hx (t := .boolean) Bd.returns (by simp) (hb hby at_286) hr
          · show Q0 Z q0 q1 q2 p3 h0 n0 _ T631.heap _
            rw [e631]
            have hv : (1 : Int32) = (v0 q0 q1 q2 p3) := by first | exact ((if_neg hc562).trans ((if_pos hc594).trans ((if_pos hc626).trans (if_neg hc632)))).symm | (unfold v0; first | (rw [if_neg hc562, if_pos hc594, if_pos hc626, if_neg hc632]) | (simp only [if_neg hc562, if_pos hc594, if_pos hc626, if_neg hc632]))
            exact ⟨(by rw [← hv]), N631⟩
      · skip
        obtain ⟨fs, hr, hrun, hended, hW, hsame⟩ := X613.leave (v := some (.int (0 : Int32))) (fun h => by rw [Bd.returns] at h; cases h) (BodyLoose.notSynchronized Bd)
        refine ⟨_, _, pre627 _ ?_, hrun, hended, _, _, rfl, ?_, ⟨_, rfl⟩, hW, hsame.mono (by decide) (by decide)⟩
        · skip
          show Steps p.tables e below (T613.setTop (mkF m 220 L_624 [(.int (1 : Int32)), (.int (j4_0 q0 (0 : Int32) own_k0 own_v0))])) _
          refine XS.icmpNo X613.here hx rfl (hb hby at_220) rfl (feq hc626).1 ?_
          show Steps p.tables e below (T613.setTop (mkF m 223 L_624 [])) _
          refine XS.iconst X613.here hx rfl (hb hby at_223) ?_
          show Steps p.tables e below (T613.setTop (mkF m 224 L_624 [(.int (0 : Int32))])) _
          exact retN X613 hx (t := .boolean) Bd.returns (by simp) (hb hby at_224) hr
        · show Q0 Z q0 q1 q2 p3 h0 n0 _ T613.heap _
          rw [e613]
          have hv : (0 : Int32) = (v0 q0 q1 q2 p3) := by first | exact ((if_neg hc562).trans ((if_pos hc594).trans (if_neg hc626))).symm | (unfold v0; first | (rw [if_neg hc562, if_pos hc594, if_neg hc626]) | (simp only [if_neg hc562, if_pos hc594, if_neg hc626]))
          exact ⟨(by rw [← hv]), N623⟩
    · skip
      obtain ⟨cq634, kq634, q634a, q634b, q634c⟩ := isOf hZ e580 f581
      obtain ⟨_, _, ⟨T634, L634, k634, n634⟩, -, X634, ⟨Lc634, hQ634, l634, y634, z634⟩, st634⟩ := X580.virtualBack hx (y := (⟨"com/example/pathfield/pathfield/query/LongIntMap", "put", "(JI)V"⟩ : MethodName)) (z := (⟨"com/example/pathfield/pathfield/query/LongIntMap", "put", "(JI)V"⟩ : MethodName)) hown (mvT hZ (hw _ (List.mem_of_getElem? (i := 20) rfl))) (mvT hZ (hw _ (List.mem_of_getElem? (i := 21) rfl))) (notFace_of_selects (args := #[]) (mvT hZ (hw _ (List.mem_of_getElem? (i := 23) rfl)))) (mvT hZ (hw _ (List.mem_of_getElem? (i := 23) rfl))) (mvT hZ (hw _ (List.mem_of_getElem? (i := 22) rfl))) (by decide) (backOf (W := 0) (rm4 l Z aw hw [] b536 ((j0_0 q0 q1 p3)) ((((p3.toUInt32 >>> ((7 : Int32) &&& 31).toUInt32).toInt32) &&& (3 : Int32))) cx0543 cx1543 ((j4_0 q0 (0 : Int32) own_k0 own_v0)) ((j4_1 q0 own_k0 own_v0)) ((j4_2 q0 (((p3.toUInt32 >>> ((5 : Int32) &&& 31).toUInt32).toInt32) &&& (3 : Int32)) own_k0 own_v0)) cy0543 cy1543 h580 n0 Z580 f581 f582 f583 f584 f585 f586 g_b536 g_cx0543 g_cx1543 ne556 ne558 nx_cx0543_cx1543 (own_W1 q0 _ (own_v3 p3 5)).1 (own_W1 q0 _ (own_v3 p3 5)).2.1 (own_W1 q0 _ (own_v3 p3 5)).2.2.1 ((own_W1 q0 _ (own_v3 p3 5)).2.2.2 _)) hZ (hw _ (List.mem_of_getElem? (i := 24) rfl)) (hw _ (List.mem_of_getElem? (i := 4) rfl)) (by decide) (by decide)) q634a q634c (g := (mkF m 112 L_559 [(.int (((p3.toUInt32 >>> ((7 : Int32) &&& 31).toUInt32).toInt32) &&& (3 : Int32))), (.long (j0_0 q0 q1 p3)), (.ref b536)])) rfl (by rw [hml]; rfl) (Steps.refl _) (argsL := [(.long (j0_0 q0 q1 p3)), (.int (((p3.toUInt32 >>> ((7 : Int32) &&& 31).toUInt32).toInt32) &&& (3 : Int32)))]) (rest := []) (lenOf pd_7 rfl) rfl (by show 2 * 0 + _ ≤ _; exact Nat.le_of_eq rfl) (hb hby at_112) (fun _ _ => ⟨rfl, e580, (by decide : 4 + 0 ≤ _), (by decide : 38 + 0 ≤ _)⟩)
      dsimp only [Pt.U, Pt.locs, Pt.cells, Pt.slots] at X634 l634 y634 z634 st634 hQ634
      replace l634 := l634.symm
      subst l634 y634 z634
      obtain ⟨h634, e634⟩ : ∃ z, T634.heap = z := ⟨_, rfl⟩
      rw [e634] at hQ634
      obtain ⟨rfl, N634q, K634q, f635, f636, f637, f638, f639, f640⟩ := hQ634
      have f641 := f587.keep K634q (ninS ne538 (ninS ne555 (ninS ne557 nin0)))
      have f642 := f581.keep K634q
      have Z634 := Nat.le_trans Z580 K634q.1
      have N634 := Fr.app N580 N634q
      have pre649 := fun (t : State) (k : Steps p.tables e below (T634.setTop (mkF m 118 L_559 [(.int (3 : Int32)), (.int (p3 &&& (3 : Int32)))])) t) => pre595 t (by
        show Steps p.tables e below (T580.setTop (mkF m 104 L_559 [(.int (2 : Int32)), (.int (p3 &&& (3 : Int32)))])) _
        refine XS.icmpNo X580.here hx rfl (hb hby at_104) rfl (flt hc594).1 ?_
        show Steps p.tables e below (T580.setTop (mkF m 107 L_559 [])) _
        refine XS.aload X580.here hx rfl (hb hby at_107) rfl rfl ?_
        show Steps p.tables e below (T580.setTop (mkF m 109 L_559 [(.ref b536)])) _
        refine XS.lloadN X580.here hx rfl (hb hby at_109) rfl ?_
        show Steps p.tables e below (T580.setTop (mkF m 110 L_559 [(.long (j0_0 q0 q1 p3)), (.ref b536)])) _
        refine XS.iload X580.here hx rfl (hb hby at_110) rfl ?_
        show Steps p.tables e below (T580.setTop (mkF m 112 L_559 [(.int (((p3.toUInt32 >>> ((7 : Int32) &&& 31).toUInt32).toInt32) &&& (3 : Int32))), (.long (j0_0 q0 q1 p3)), (.ref b536)])) _
        refine st634.trans ?_
        show Steps p.tables e below (T634.setTop (mkF m 115 L_559 [])) _
        refine XS.iload X634.here hx rfl (hb hby at_115) rfl ?_
        show Steps p.tables e below (T634.setTop (mkF m 117 L_559 [(.int (p3 &&& (3 : Int32)))])) _
        refine XS.iconst X634.here hx rfl (hb hby at_117) ?_
        exact k)
      by_cases hc648 : (p3 &&& (3 : Int32)) < (3 : Int32)
      · skip
        obtain ⟨cq650, kq650, q650a, q650b, q650c⟩ := isOf hZ e634 f635
        obtain ⟨_, _, ⟨T650, L650, k650, n650⟩, -, X650, ⟨Lc650, hQ650, l650, y650, z650⟩, st650⟩ := X634.virtualBack hx (y := (⟨"com/example/pathfield/pathfield/query/LongIntMap", "keys", "()[J"⟩ : MethodName)) (z := (⟨"com/example/pathfield/pathfield/query/LongIntMap", "keys", "()[J"⟩ : MethodName)) hown (mvT hZ (hw _ (List.mem_of_getElem? (i := 31) rfl))) (mvT hZ (hw _ (List.mem_of_getElem? (i := 32) rfl))) (notFace_of_selects (args := #[]) (mvT hZ (hw _ (List.mem_of_getElem? (i := 34) rfl)))) (mvT hZ (hw _ (List.mem_of_getElem? (i := 34) rfl))) (mvT hZ (hw _ (List.mem_of_getElem? (i := 33) rfl))) (by decide) (backOf (W := 0) (rm6 l Z aw hw [] b536 cx0543 cx1543 ((j4_0 (j0_0 q0 q1 p3) (j4_0 q0 (0 : Int32) own_k0 own_v0) (j4_1 q0 own_k0 own_v0) (j4_2 q0 (((p3.toUInt32 >>> ((5 : Int32) &&& 31).toUInt32).toInt32) &&& (3 : Int32)) own_k0 own_v0))) ((j4_1 (j0_0 q0 q1 p3) (j4_1 q0 own_k0 own_v0) (j4_2 q0 (((p3.toUInt32 >>> ((5 : Int32) &&& 31).toUInt32).toInt32) &&& (3 : Int32)) own_k0 own_v0))) ((j4_2 (j0_0 q0 q1 p3) (((p3.toUInt32 >>> ((7 : Int32) &&& 31).toUInt32).toInt32) &&& (3 : Int32)) (j4_1 q0 own_k0 own_v0) (j4_2 q0 (((p3.toUInt32 >>> ((5 : Int32) &&& 31).toUInt32).toInt32) &&& (3 : Int32)) own_k0 own_v0))) cy0543 cy1543 h634 n0 Z634 f635 f636 f637 f638 f639 f640 (own_K2 q0 _ (own_v3 p3 5) (j0_0 q0 q1 p3) _ (own_v3 p3 7)).1 (own_K2 q0 _ (own_v3 p3 5) (j0_0 q0 q1 p3) _ (own_v3 p3 7)).2.1 (own_K2 q0 _ (own_v3 p3 5) (j0_0 q0 q1 p3) _ (own_v3 p3 7)).2.2) hZ (hw _ (List.mem_of_getElem? (i := 35) rfl)) (hw _ (List.mem_of_getElem? (i := 4) rfl)) (by decide) (by decide)) q650a q650c (g := (mkF m 132 L_559 [(.ref b536)])) rfl (by rw [hml]; rfl) (Steps.refl _) (argsL := []) (rest := []) (lenOf pd_6 rfl) rfl (by show 2 * 0 + _ ≤ _; exact Nat.le_of_eq rfl) (hb hby at_132) (fun _ _ => ⟨rfl, e634, (by decide : 4 + 1 ≤ _), (by decide : 38 + 3 ≤ _)⟩)
        dsimp only [Pt.U, Pt.locs, Pt.cells, Pt.slots] at X650 l650 y650 z650 st650 hQ650
        replace l650 := l650.symm
        subst l650 y650 z650
        obtain ⟨h650, e650⟩ : ∃ z, T650.heap = z := ⟨_, rfl⟩
        rw [e650] at hQ650
        obtain ⟨cx0650, cy0650, rfl, N650q, K650q, g_cx0650, zz_cx0650, f651⟩ := hQ650
        have f652 := f641.keep K650q nin0
        have f653 := f635.keep K650q
        have f654 := f636.keep K650q nin0
        have f655 := f637.keep K650q nin0
        have f656 := f638.keep K650q nin0
        have f657 := f639.keep K650q nin0
        have f658 := f640.keep K650q nin0
        have ne659 : b533 ≠ cx0650 := Nat.ne_of_lt (Nat.lt_of_lt_of_le f641.lt zz_cx0650)
        have ne660 : b536 ≠ cx0650 := Nat.ne_of_lt (Nat.lt_of_lt_of_le f635.lt zz_cx0650)
        have ne661 : cx0543 ≠ cx0650 := Nat.ne_of_lt (Nat.lt_of_lt_of_le f639.lt zz_cx0650)
        have ne662 : cx1543 ≠ cx0650 := Nat.ne_of_lt (Nat.lt_of_lt_of_le f640.lt zz_cx0650)
        have Z650 := Nat.le_trans Z634 K650q.1
        have N650 := Fr.app N634 N650q
        let L_663 : Array Slot := #[.val (.long q0), .second, .val (.long (j0_0 q0 q1 p3)), .second, .val (.long (j0_1 q0 q1 q2 p3)), .second, .val (.int p3), .val (.int (p3 &&& (3 : Int32))), .val (.int (((p3.toUInt32 >>> ((3 : Int32) &&& 31).toUInt32).toInt32) &&& (3 : Int32))), .val (.int (((p3.toUInt32 >>> ((5 : Int32) &&& 31).toUInt32).toInt32) &&& (3 : Int32))), .val (.int (((p3.toUInt32 >>> ((7 : Int32) &&& 31).toUInt32).toInt32) &&& (3 : Int32))), .val (.int (((p3.toUInt32 >>> ((9 : Int32) &&& 31).toUInt32).toInt32) &&& (4194303 : Int32))), .val (.ref b533), .val (.ref b536), .val (.ref cx0650), .unset]
        let L_664 : Array Slot := #[.val (.long q0), .second, .val (.long (j0_0 q0 q1 p3)), .second, .val (.long (j0_1 q0 q1 q2 p3)), .second, .val (.int p3), .val (.int (p3 &&& (3 : Int32))), .val (.int (((p3.toUInt32 >>> ((3 : Int32) &&& 31).toUInt32).toInt32) &&& (3 : Int32))), .val (.int (((p3.toUInt32 >>> ((5 : Int32) &&& 31).toUInt32).toInt32) &&& (3 : Int32))), .val (.int (((p3.toUInt32 >>> ((7 : Int32) &&& 31).toUInt32).toInt32) &&& (3 : Int32))), .val (.int (((p3.toUInt32 >>> ((9 : Int32) &&& 31).toUInt32).toInt32) &&& (4194303 : Int32))), .val (.ref b533), .val (.ref b536), .val (.ref cx0650), .val (.int (0 : Int32))]
        obtain ⟨cl665, Ar665, q665, S665, M665, H665, G665⟩ := id f652
        have hin666 : ¬ ((0 : Int32) < 0 ∨ cl665.slots.size ≤ ((0 : Int32)).toNatClampNeg) := inb_of S665 ⟨by decide, by decide⟩
        obtain ⟨T667, h667, X667, e667, W667, st667⟩ := stJ X650 hx hZ e650 Ar665 (j := (0 : Int32)) hin666 (g := (mkF m 151 L_664 [(.long q0), (.int (0 : Int32)), (.ref b533)])) rfl rfl (hb hby at_151)
        have V667 : Arv Z h667 b533 k533 .long (3 : Int32) [(.long q0), (.long (0 : Int64)), (.long (0 : Int64))] (.long (0 : Int64)) := Arv.set Ar665 q665 S665 M665 H665 G665 rfl W667 0 rfl (Nat.le_of_ble_eq_true rfl)
        have f669 := f653.wr W667
        have f670 := f654.other W667 (Or.inl (Ne.symm ne538))
        have f671 := f655.other W667 (Or.inl (Ne.symm ne538))
        have f672 := f656.other W667 (Or.inl (Ne.symm ne538))
        have f673 := f657.other W667 (Ne.symm ne555)
        have f674 := f658.other W667 (Ne.symm ne557)
        have f675 := f651.other W667 (Ne.symm ne659)
        have Z676 := Nat.le_trans Z650 (Keep.of_wr W667).1
        have N677 := Fr.snoc X667 N650 g_b533
        let L_678 : Array Slot := #[.val (.long q0), .second, .val (.long (j0_0 q0 q1 p3)), .second, .val (.long (j0_1 q0 q1 q2 p3)), .second, .val (.int p3), .val (.int (p3 &&& (3 : Int32))), .val (.int (((p3.toUInt32 >>> ((3 : Int32) &&& 31).toUInt32).toInt32) &&& (3 : Int32))), .val (.int (((p3.toUInt32 >>> ((5 : Int32) &&& 31).toUInt32).toInt32) &&& (3 : Int32))), .val (.int (((p3.toUInt32 >>> ((7 : Int32) &&& 31).toUInt32).toInt32) &&& (3 : Int32))), .val (.int (((p3.toUInt32 >>> ((9 : Int32) &&& 31).toUInt32).toInt32) &&& (4194303 : Int32))), .val (.ref b533), .val (.ref b536), .val (.ref cx0650), .val (.int (1 : Int32))]
        have pre680 := fun (t : State) (k : Steps p.tables e below (T667.setTop (mkF m 167 L_678 [(.int (lcmpW (j0_0 q0 q1 p3) q0))])) t) => pre649 t (by
          show Steps p.tables e below (T634.setTop (mkF m 118 L_559 [(.int (3 : Int32)), (.int (p3 &&& (3 : Int32)))])) _
          refine XS.icmpYes X634.here hx rfl (pc0 := 118) (pc' := 130) rfl (hb hby at_118) rfl (tlt hc648).1 (by decide) (by decide) ?_
          show Steps p.tables e below (T634.setTop (mkF m 130 L_559 [])) _
          refine XS.aload X634.here hx rfl (hb hby at_130) rfl rfl ?_
          show Steps p.tables e below (T634.setTop (mkF m 132 L_559 [(.ref b536)])) _
          refine st650.trans ?_
          show Steps p.tables e below (T650.setTop (mkF m 135 L_559 [(.ref cx0650)])) _
          refine XS.astore X650.here hx rfl (hb hby at_135) rfl rfl (l' := L_663) rfl ?_
          show Steps p.tables e below (T650.setTop (mkF m 137 L_663 [])) _
          refine XS.iconst X650.here hx rfl (hb hby at_137) ?_
          show Steps p.tables e below (T650.setTop (mkF m 138 L_663 [(.int (0 : Int32))])) _
          refine XS.istore X650.here hx rfl (hb hby at_138) rfl (l' := L_664) rfl ?_
          show Steps p.tables e below (T650.setTop (mkF m 140 L_664 [])) _
          refine XS.iload X650.here hx rfl (hb hby at_140) rfl ?_
          show Steps p.tables e below (T650.setTop (mkF m 142 L_664 [(.int (p3 &&& (3 : Int32)))])) _
          refine XS.iconst X650.here hx rfl (hb hby at_142) ?_
          show Steps p.tables e below (T650.setTop (mkF m 143 L_664 [(.int (1 : Int32)), (.int (p3 &&& (3 : Int32)))])) _
          refine XS.icmpNo X650.here hx rfl (hb hby at_143) rfl (flt hc562).1 ?_
          show Steps p.tables e below (T650.setTop (mkF m 146 L_664 [])) _
          refine XS.aload X650.here hx rfl (hb hby at_146) rfl rfl ?_
          show Steps p.tables e below (T650.setTop (mkF m 148 L_664 [(.ref b533)])) _
          refine XS.iload X650.here hx rfl (hb hby at_148) rfl ?_
          show Steps p.tables e below (T650.setTop (mkF m 150 L_664 [(.int (0 : Int32)), (.ref b533)])) _
          refine XS.lloadN X650.here hx rfl (hb hby at_150) rfl ?_
          show Steps p.tables e below (T650.setTop (mkF m 151 L_664 [(.long q0), (.int (0 : Int32)), (.ref b533)])) _
          refine st667 _ ?_
          show Steps p.tables e below (T667.setTop (mkF m 152 L_664 [])) _
          refine XS.iload X667.here hx rfl (hb hby at_152) rfl ?_
          show Steps p.tables e below (T667.setTop (mkF m 154 L_664 [(.int (0 : Int32))])) _
          refine XS.iconst X667.here hx rfl (hb hby at_154) ?_
          show Steps p.tables e below (T667.setTop (mkF m 155 L_664 [(.int (1 : Int32)), (.int (0 : Int32))])) _
          refine XS.iadd X667.here hx rfl (hb hby at_155) rfl ?_
          show Steps p.tables e below (T667.setTop (mkF m 156 L_664 [(.int (1 : Int32))])) _
          refine XS.istore X667.here hx rfl (hb hby at_156) rfl (l' := L_678) rfl ?_
          show Steps p.tables e below (T667.setTop (mkF m 158 L_678 [])) _
          refine XS.iload X667.here hx rfl (hb hby at_158) rfl ?_
          show Steps p.tables e below (T667.setTop (mkF m 160 L_678 [(.int (p3 &&& (3 : Int32)))])) _
          refine XS.iconst X667.here hx rfl (hb hby at_160) ?_
          show Steps p.tables e below (T667.setTop (mkF m 161 L_678 [(.int (2 : Int32)), (.int (p3 &&& (3 : Int32)))])) _
          refine XS.icmpNo X667.here hx rfl (hb hby at_161) rfl (flt hc594).1 ?_
          show Steps p.tables e below (T667.setTop (mkF m 164 L_678 [])) _
          refine XS.lloadN X667.here hx rfl (hb hby at_164) rfl ?_
          show Steps p.tables e below (T667.setTop (mkF m 165 L_678 [(.long (j0_0 q0 q1 p3))])) _
          refine XS.lloadN X667.here hx rfl (hb hby at_165) rfl ?_
          show Steps p.tables e below (T667.setTop (mkF m 166 L_678 [(.long q0), (.long (j0_0 q0 q1 p3))])) _
          refine XS.lcmp X667.here hx rfl (hb hby at_166) rfl ?_
          exact k)
        by_cases hc679 : (j0_0 q0 q1 p3) = q0
        · skip
          obtain ⟨cl681, Ar681, q681, S681, M681, H681, G681⟩ := id f675
          have pre683 := fun (t : State) (k : Steps p.tables e below (T667.setTop (mkF m 220 L_678 [(.int (1 : Int32)), (.int (j4_0 (j0_0 q0 q1 p3) (j4_0 q0 (0 : Int32) own_k0 own_v0) (j4_1 q0 own_k0 own_v0) (j4_2 q0 (((p3.toUInt32 >>> ((5 : Int32) &&& 31).toUInt32).toInt32) &&& (3 : Int32)) own_k0 own_v0)))])) t) => pre680 t (by
            show Steps p.tables e below (T667.setTop (mkF m 167 L_678 [(.int (lcmpW (j0_0 q0 q1 p3) q0))])) _
            refine XS.ifYes X667.here hx rfl (pc0 := 167) (pc' := 182) rfl (hb hby at_167) rfl ((if0 _ _).trans (teq ((own_eq (j0_0 q0 q1 p3) q0).mpr hc679)).1) (by decide) (by decide) ?_
            show Steps p.tables e below (T667.setTop (mkF m 182 L_678 [])) _
            refine XS.iload X667.here hx rfl (hb hby at_182) rfl ?_
            show Steps p.tables e below (T667.setTop (mkF m 184 L_678 [(.int (p3 &&& (3 : Int32)))])) _
            refine XS.iconst X667.here hx rfl (hb hby at_184) ?_
            show Steps p.tables e below (T667.setTop (mkF m 185 L_678 [(.int (3 : Int32)), (.int (p3 &&& (3 : Int32)))])) _
            refine XS.icmpYes X667.here hx rfl (pc0 := 185) (pc' := 215) rfl (hb hby at_185) rfl (tlt hc648).1 (by decide) (by decide) ?_
            show Steps p.tables e below (T667.setTop (mkF m 215 L_678 [])) _
            refine XS.aload X667.here hx rfl (hb hby at_215) rfl rfl ?_
            show Steps p.tables e below (T667.setTop (mkF m 217 L_678 [(.ref cx0650)])) _
            refine X667.arraylength hx (by rw [e667]; exact Ar681.1) (State.isArrayOf_alike hZ.alike Ar681.2.1) (g := (mkF m 217 L_678 [(.ref cx0650)])) rfl rfl (hb hby at_217) _ ?_
            rw [len_of S681 M681]
            show Steps p.tables e below (T667.setTop (mkF m 218 L_678 [(.int (j4_0 (j0_0 q0 q1 p3) (j4_0 q0 (0 : Int32) own_k0 own_v0) (j4_1 q0 own_k0 own_v0) (j4_2 q0 (((p3.toUInt32 >>> ((5 : Int32) &&& 31).toUInt32).toInt32) &&& (3 : Int32)) own_k0 own_v0)))])) _
            refine XS.iload X667.here hx rfl (hb hby at_218) rfl ?_
            exact k)
          by_cases hc682 : (j4_0 (j0_0 q0 q1 p3) (j4_0 q0 (0 : Int32) own_k0 own_v0) (j4_1 q0 own_k0 own_v0) (j4_2 q0 (((p3.toUInt32 >>> ((5 : Int32) &&& 31).toUInt32).toInt32) &&& (3 : Int32)) own_k0 own_v0)) = (1 : Int32)
          · skip
            obtain ⟨cl684, Ar684, q684, S684, M684, H684, G684⟩ := id V667
            have hin685 : ¬ ((0 : Int32) < 0 ∨ cl684.slots.size ≤ ((0 : Int32)).toNatClampNeg) := inb_of S684 ⟨by decide, by decide⟩
            have hat686 : cl684.slots[((0 : Int32)).toNatClampNeg]? = some (.long q0) := H684.at hin685 rfl
            obtain ⟨_, _, ⟨T687, L687, k687, n687⟩, -, X687, ⟨Lc687, hQ687, l687, y687, z687⟩, st687⟩ := Jvm.LawKit.callS X667 hx (y := (⟨"com/example/pathfield/pathfield/query/LongIntMapKeysPinLaw", "has", "([JJ)Z"⟩ : MethodName)) hown (mvT hZ (hw _ (List.mem_of_getElem? (i := 36) rfl))) (mvT hZ (hw _ (List.mem_of_getElem? (i := 37) rfl))) (mvT hZ (hw _ (List.mem_of_getElem? (i := 38) rfl))) (mvT hZ (hw _ (List.mem_of_getElem? (i := 39) rfl))) (by decide) (backOf (W := 0) (rm7 l Z aw hw [] cx0650 q0 ((j4_0 (j0_0 q0 q1 p3) (j4_0 q0 (0 : Int32) own_k0 own_v0) (j4_1 q0 own_k0 own_v0) (j4_2 q0 (((p3.toUInt32 >>> ((5 : Int32) &&& 31).toUInt32).toInt32) &&& (3 : Int32)) own_k0 own_v0))) ((own_res (j4_1 (j0_0 q0 q1 p3) (j4_1 q0 own_k0 own_v0) (j4_2 q0 (((p3.toUInt32 >>> ((5 : Int32) &&& 31).toUInt32).toInt32) &&& (3 : Int32)) own_k0 own_v0)) (j4_2 (j0_0 q0 q1 p3) (((p3.toUInt32 >>> ((7 : Int32) &&& 31).toUInt32).toInt32) &&& (3 : Int32)) (j4_1 q0 own_k0 own_v0) (j4_2 q0 (((p3.toUInt32 >>> ((5 : Int32) &&& 31).toUInt32).toInt32) &&& (3 : Int32)) own_k0 own_v0)) 16)) cy0650 h667 n0 Z676 f675) hZ (hw _ (List.mem_of_getElem? (i := 39) rfl)) (hw _ (List.mem_of_getElem? (i := 38) rfl)) (by decide) (by decide)) (g := (mkF m 237 L_678 [(.long q0), (.ref cx0650)])) rfl (by rw [hml]; rfl) (argsL := [(.ref cx0650), (.long q0)]) (rest := []) (lenOf pd_8 rfl) rfl (by show 2 * 0 + _ ≤ _; exact Nat.le_of_eq rfl) (hb hby at_237) (fun _ _ => ⟨rfl, e667, (by decide : 5 + 0 ≤ _), (by decide : 41 + 0 ≤ _)⟩)
            dsimp only [Pt.U, Pt.locs, Pt.cells, Pt.slots] at X687 l687 y687 z687 st687 hQ687
            replace l687 := l687.symm
            subst l687 y687 z687
            obtain ⟨rfl, N687q, e687⟩ := hQ687
            have N687 := Fr.app N677 N687q
            have pre689 := fun (t : State) (k : Steps p.tables e below (T687.setTop (mkF m 240 L_678 [(.int (nar .boolean (j7_0 q0 (j4_0 (j0_0 q0 q1 p3) (j4_0 q0 (0 : Int32) own_k0 own_v0) (j4_1 q0 own_k0 own_v0) (j4_2 q0 (((p3.toUInt32 >>> ((5 : Int32) &&& 31).toUInt32).toInt32) &&& (3 : Int32)) own_k0 own_v0)) (own_res (j4_1 (j0_0 q0 q1 p3) (j4_1 q0 own_k0 own_v0) (j4_2 q0 (((p3.toUInt32 >>> ((5 : Int32) &&& 31).toUInt32).toInt32) &&& (3 : Int32)) own_k0 own_v0)) (j4_2 (j0_0 q0 q1 p3) (((p3.toUInt32 >>> ((7 : Int32) &&& 31).toUInt32).toInt32) &&& (3 : Int32)) (j4_1 q0 own_k0 own_v0) (j4_2 q0 (((p3.toUInt32 >>> ((5 : Int32) &&& 31).toUInt32).toInt32) &&& (3 : Int32)) own_k0 own_v0)) 16))))])) t) => pre683 t (by
              show Steps p.tables e below (T667.setTop (mkF m 220 L_678 [(.int (1 : Int32)), (.int (j4_0 (j0_0 q0 q1 p3) (j4_0 q0 (0 : Int32) own_k0 own_v0) (j4_1 q0 own_k0 own_v0) (j4_2 q0 (((p3.toUInt32 >>> ((5 : Int32) &&& 31).toUInt32).toInt32) &&& (3 : Int32)) own_k0 own_v0)))])) _
              refine XS.icmpYes X667.here hx rfl (pc0 := 220) (pc' := 225) rfl (hb hby at_220) rfl (teq hc682).1 (by decide) (by decide) ?_
              show Steps p.tables e below (T667.setTop (mkF m 225 L_678 [])) _
              refine XS.iload X667.here hx rfl (hb hby at_225) rfl ?_
              show Steps p.tables e below (T667.setTop (mkF m 227 L_678 [(.int (1 : Int32))])) _
              refine XS.iconst X667.here hx rfl (hb hby at_227) ?_
              show Steps p.tables e below (T667.setTop (mkF m 228 L_678 [(.int (1 : Int32)), (.int (1 : Int32))])) _
              refine XS.icmpNo X667.here hx rfl (hb hby at_228) rfl (flt (by decide : ¬ ((1 : Int32) < (1 : Int32)))).1 ?_
              show Steps p.tables e below (T667.setTop (mkF m 231 L_678 [])) _
              refine XS.aload X667.here hx rfl (hb hby at_231) rfl rfl ?_
              show Steps p.tables e below (T667.setTop (mkF m 233 L_678 [(.ref cx0650)])) _
              refine XS.aload X667.here hx rfl (hb hby at_233) rfl rfl ?_
              show Steps p.tables e below (T667.setTop (mkF m 235 L_678 [(.ref b533), (.ref cx0650)])) _
              refine XS.iconst X667.here hx rfl (hb hby at_235) ?_
              show Steps p.tables e below (T667.setTop (mkF m 236 L_678 [(.int (0 : Int32)), (.ref b533), (.ref cx0650)])) _
              refine X667.laload hx (j := (0 : Int32)) (v := (.long q0)) (by rw [e667]; exact Ar684.1) (State.isArrayOf_alike hZ.alike Ar684.2.1) Ar684.2.2 hin685 hat686 (g := (mkF m 236 L_678 [(.int (0 : Int32)), (.ref b533), (.ref cx0650)])) rfl rfl (hb hby at_236) _ ?_
              show Steps p.tables e below (T667.setTop (mkF m 237 L_678 [(.long q0), (.ref cx0650)])) _
              refine st687 _ ?_
              exact k)
            by_cases hc688 : (nar .boolean (j7_0 q0 (j4_0 (j0_0 q0 q1 p3) (j4_0 q0 (0 : Int32) own_k0 own_v0) (j4_1 q0 own_k0 own_v0) (j4_2 q0 (((p3.toUInt32 >>> ((5 : Int32) &&& 31).toUInt32).toInt32) &&& (3 : Int32)) own_k0 own_v0)) (own_res (j4_1 (j0_0 q0 q1 p3) (j4_1 q0 own_k0 own_v0) (j4_2 q0 (((p3.toUInt32 >>> ((5 : Int32) &&& 31).toUInt32).toInt32) &&& (3 : Int32)) own_k0 own_v0)) (j4_2 (j0_0 q0 q1 p3) (((p3.toUInt32 >>> ((7 : Int32) &&& 31).toUInt32).toInt32) &&& (3 : Int32)) (j4_1 q0 own_k0 own_v0) (j4_2 q0 (((p3.toUInt32 >>> ((5 : Int32) &&& 31).toUInt32).toInt32) &&& (3 : Int32)) own_k0 own_v0)) 16))) = (0 : Int32)
            · skip
              obtain ⟨fs, hr, hrun, hended, hW, hsame⟩ := X687.leave (v := some (.int (0 : Int32))) (fun h => by rw [Bd.returns] at h; cases h) (BodyLoose.notSynchronized Bd)
              refine ⟨_, _, pre689 _ ?_, hrun, hended, _, _, rfl, ?_, ⟨_, rfl⟩, hW, hsame.mono (by decide) (by decide)⟩
              · skip
                show Steps p.tables e below (T687.setTop (mkF m 240 L_678 [(.int (nar .boolean (j7_0 q0 (j4_0 (j0_0 q0 q1 p3) (j4_0 q0 (0 : Int32) own_k0 own_v0) (j4_1 q0 own_k0 own_v0) (j4_2 q0 (((p3.toUInt32 >>> ((5 : Int32) &&& 31).toUInt32).toInt32) &&& (3 : Int32)) own_k0 own_v0)) (own_res (j4_1 (j0_0 q0 q1 p3) (j4_1 q0 own_k0 own_v0) (j4_2 q0 (((p3.toUInt32 >>> ((5 : Int32) &&& 31).toUInt32).toInt32) &&& (3 : Int32)) own_k0 own_v0)) (j4_2 (j0_0 q0 q1 p3) (((p3.toUInt32 >>> ((7 : Int32) &&& 31).toUInt32).toInt32) &&& (3 : Int32)) (j4_1 q0 own_k0 own_v0) (j4_2 q0 (((p3.toUInt32 >>> ((5 : Int32) &&& 31).toUInt32).toInt32) &&& (3 : Int32)) own_k0 own_v0)) 16))))])) _
                refine XS.ifNo X687.here hx rfl (hb hby at_240) rfl ((if0 _ _).trans (teq hc688).2) ?_
                show Steps p.tables e below (T687.setTop (mkF m 243 L_678 [])) _
                refine XS.iconst X687.here hx rfl (hb hby at_243) ?_
                show Steps p.tables e below (T687.setTop (mkF m 244 L_678 [(.int (0 : Int32))])) _
                exact retN X687 hx (t := .boolean) Bd.returns (by simp) (hb hby at_244) hr
              · show Q0 Z q0 q1 q2 p3 h0 n0 _ T687.heap _
                rw [e687]
                have hv : (0 : Int32) = (v0 q0 q1 q2 p3) := by first | exact ((if_neg hc562).trans ((if_neg hc594).trans ((if_pos hc648).trans ((if_pos hc679).trans ((if_pos hc682).trans (if_pos hc688)))))).symm | (unfold v0; first | (rw [if_neg hc562, if_neg hc594, if_pos hc648, if_pos hc679, if_pos hc682, if_pos hc688]) | (simp only [if_neg hc562, if_neg hc594, if_pos hc648, if_pos hc679, if_pos hc682, if_pos hc688]))
                exact ⟨(by rw [← hv]), N687⟩
            · skip
              obtain ⟨fs, hr, hrun, hended, hW, hsame⟩ := X687.leave (v := some (.int (1 : Int32))) (fun h => by rw [Bd.returns] at h; cases h) (BodyLoose.notSynchronized Bd)
              refine ⟨_, _, pre689 _ ?_, hrun, hended, _, _, rfl, ?_, ⟨_, rfl⟩, hW, hsame.mono (by decide) (by decide)⟩
              · skip
                show Steps p.tables e below (T687.setTop (mkF m 240 L_678 [(.int (nar .boolean (j7_0 q0 (j4_0 (j0_0 q0 q1 p3) (j4_0 q0 (0 : Int32) own_k0 own_v0) (j4_1 q0 own_k0 own_v0) (j4_2 q0 (((p3.toUInt32 >>> ((5 : Int32) &&& 31).toUInt32).toInt32) &&& (3 : Int32)) own_k0 own_v0)) (own_res (j4_1 (j0_0 q0 q1 p3) (j4_1 q0 own_k0 own_v0) (j4_2 q0 (((p3.toUInt32 >>> ((5 : Int32) &&& 31).toUInt32).toInt32) &&& (3 : Int32)) own_k0 own_v0)) (j4_2 (j0_0 q0 q1 p3) (((p3.toUInt32 >>> ((7 : Int32) &&& 31).toUInt32).toInt32) &&& (3 : Int32)) (j4_1 q0 own_k0 own_v0) (j4_2 q0 (((p3.toUInt32 >>> ((5 : Int32) &&& 31).toUInt32).toInt32) &&& (3 : Int32)) own_k0 own_v0)) 16))))])) _
                refine XS.ifYes X687.here hx rfl (pc0 := 240) (pc' := 245) rfl (hb hby at_240) rfl ((if0 _ _).trans (feq hc688).2) (by decide) (by decide) ?_
                show Steps p.tables e below (T687.setTop (mkF m 245 L_678 [])) _
                refine XS.iload X687.here hx rfl (hb hby at_245) rfl ?_
                show Steps p.tables e below (T687.setTop (mkF m 247 L_678 [(.int (1 : Int32))])) _
                refine XS.iconst X687.here hx rfl (hb hby at_247) ?_
                show Steps p.tables e below (T687.setTop (mkF m 248 L_678 [(.int (2 : Int32)), (.int (1 : Int32))])) _
                refine XS.icmpYes X687.here hx rfl (pc0 := 248) (pc' := 265) rfl (hb hby at_248) rfl (tlt (by decide : (1 : Int32) < (2 : Int32))).1 (by decide) (by decide) ?_
                show Steps p.tables e below (T687.setTop (mkF m 265 L_678 [])) _
                refine XS.iload X687.here hx rfl (hb hby at_265) rfl ?_
                show Steps p.tables e below (T687.setTop (mkF m 267 L_678 [(.int (1 : Int32))])) _
                refine XS.iconst X687.here hx rfl (hb hby at_267) ?_
                show Steps p.tables e below (T687.setTop (mkF m 268 L_678 [(.int (3 : Int32)), (.int (1 : Int32))])) _
                refine XS.icmpYes X687.here hx rfl (pc0 := 268) (pc' := 285) rfl (hb hby at_268) rfl (tlt (by decide : (1 : Int32) < (3 : Int32))).1 (by decide) (by decide) ?_
                show Steps p.tables e below (T687.setTop (mkF m 285 L_678 [])) _
                refine XS.iconst X687.here hx rfl (hb hby at_285) ?_
                show Steps p.tables e below (T687.setTop (mkF m 286 L_678 [(.int (1 : Int32))])) _
                exact retN X687 hx (t := .boolean) Bd.returns (by simp) (hb hby at_286) hr
              · show Q0 Z q0 q1 q2 p3 h0 n0 _ T687.heap _
                rw [e687]
                have hv : (1 : Int32) = (v0 q0 q1 q2 p3) := by first | exact ((if_neg hc562).trans ((if_neg hc594).trans ((if_pos hc648).trans ((if_pos hc679).trans ((if_pos hc682).trans (if_neg hc688)))))).symm | (unfold v0; first | (rw [if_neg hc562, if_neg hc594, if_pos hc648, if_pos hc679, if_pos hc682, if_neg hc688]) | (simp only [if_neg hc562, if_neg hc594, if_pos hc648, if_pos hc679, if_pos hc682, if_neg hc688]))
                exact ⟨(by rw [← hv]), N687⟩
          · skip
            obtain ⟨fs, hr, hrun, hended, hW, hsame⟩ := X667.leave (v := some (.int (0 : Int32))) (fun h => by rw [Bd.returns] at h; cases h) (BodyLoose.notSynchronized Bd)
            refine ⟨_, _, pre683 _ ?_, hrun, hended, _, _, rfl, ?_, ⟨_, rfl⟩, hW, hsame.mono (by decide) (by decide)⟩
            · skip
              show Steps p.tables e below (T667.setTop (mkF m 220 L_678 [(.int (1 : Int32)), (.int (j4_0 (j0_0 q0 q1 p3) (j4_0 q0 (0 : Int32) own_k0 own_v0) (j4_1 q0 own_k0 own_v0) (j4_2 q0 (((p3.toUInt32 >>> ((5 : Int32) &&& 31).toUInt32).toInt32) &&& (3 : Int32)) own_k0 own_v0)))])) _
              refine XS.icmpNo X667.here hx rfl (hb hby at_220) rfl (feq hc682).1 ?_
              show Steps p.tables e below (T667.setTop (mkF m 223 L_678 [])) _
              refine XS.iconst X667.here hx rfl (hb hby at_223) ?_
              show Steps p.tables e below (T667.setTop (mkF m 224 L_678 [(.int (0 : Int32))])) _
              exact retN X667 hx (t := .boolean) Bd.returns (by simp) (hb hby at_224) hr
            · show Q0 Z q0 q1 q2 p3 h0 n0 _ T667.heap _
              rw [e667]
              have hv : (0 : Int32) = (v0 q0 q1 q2 p3) := by first | exact ((if_neg hc562).trans ((if_neg hc594).trans ((if_pos hc648).trans ((if_pos hc679).trans (if_neg hc682))))).symm | (unfold v0; first | (rw [if_neg hc562, if_neg hc594, if_pos hc648, if_pos hc679, if_neg hc682]) | (simp only [if_neg hc562, if_neg hc594, if_pos hc648, if_pos hc679, if_neg hc682]))
              exact ⟨(by rw [← hv]), N677⟩
        · skip
          obtain ⟨cl690, Ar690, q690, S690, M690, H690, G690⟩ := id V667
          have hin691 : ¬ ((1 : Int32) < 0 ∨ cl690.slots.size ≤ ((1 : Int32)).toNatClampNeg) := inb_of S690 ⟨by decide, by decide⟩
          obtain ⟨T692, h692, X692, e692, W692, st692⟩ := stJ X667 hx hZ e667 Ar690 (j := (1 : Int32)) hin691 (g := (mkF m 175 L_678 [(.long (j0_0 q0 q1 p3)), (.int (1 : Int32)), (.ref b533)])) rfl rfl (hb hby at_175)
          have V692 : Arv Z h692 b533 k533 .long (3 : Int32) [(.long q0), (.long (j0_0 q0 q1 p3)), (.long (0 : Int64))] (.long (0 : Int64)) := Arv.set Ar690 q690 S690 M690 H690 G690 rfl W692 1 rfl (Nat.le_of_ble_eq_true rfl)
          have f694 := f669.wr W692
          have f695 := f670.other W692 (Or.inl (Ne.symm ne538))
          have f696 := f671.other W692 (Or.inl (Ne.symm ne538))
          have f697 := f672.other W692 (Or.inl (Ne.symm ne538))
          have f698 := f673.other W692 (Ne.symm ne555)
          have f699 := f674.other W692 (Ne.symm ne557)
          have f700 := f675.other W692 (Ne.symm ne659)
          have Z701 := Nat.le_trans Z676 (Keep.of_wr W692).1
          have N702 := Fr.snoc X692 N677 g_b533
          let L_703 : Array Slot := #[.val (.long q0), .second, .val (.long (j0_0 q0 q1 p3)), .second, .val (.long (j0_1 q0 q1 q2 p3)), .second, .val (.int p3), .val (.int (p3 &&& (3 : Int32))), .val (.int (((p3.toUInt32 >>> ((3 : Int32) &&& 31).toUInt32).toInt32) &&& (3 : Int32))), .val (.int (((p3.toUInt32 >>> ((5 : Int32) &&& 31).toUInt32).toInt32) &&& (3 : Int32))), .val (.int (((p3.toUInt32 >>> ((7 : Int32) &&& 31).toUInt32).toInt32) &&& (3 : Int32))), .val (.int (((p3.toUInt32 >>> ((9 : Int32) &&& 31).toUInt32).toInt32) &&& (4194303 : Int32))), .val (.ref b533), .val (.ref b536), .val (.ref cx0650), .val (.int (2 : Int32))]
          obtain ⟨cl704, Ar704, q704, S704, M704, H704, G704⟩ := id f700
          have pre706 := fun (t : State) (k : Steps p.tables e below (T692.setTop (mkF m 220 L_703 [(.int (2 : Int32)), (.int (j4_0 (j0_0 q0 q1 p3) (j4_0 q0 (0 : Int32) own_k0 own_v0) (j4_1 q0 own_k0 own_v0) (j4_2 q0 (((p3.toUInt32 >>> ((5 : Int32) &&& 31).toUInt32).toInt32) &&& (3 : Int32)) own_k0 own_v0)))])) t) => pre680 t (by
            show Steps p.tables e below (T667.setTop (mkF m 167 L_678 [(.int (lcmpW (j0_0 q0 q1 p3) q0))])) _
            refine XS.ifNo X667.here hx rfl (hb hby at_167) rfl ((if0 _ _).trans (feq (mt (own_eq (j0_0 q0 q1 p3) q0).mp hc679)).1) ?_
            show Steps p.tables e below (T667.setTop (mkF m 170 L_678 [])) _
            refine XS.aload X667.here hx rfl (hb hby at_170) rfl rfl ?_
            show Steps p.tables e below (T667.setTop (mkF m 172 L_678 [(.ref b533)])) _
            refine XS.iload X667.here hx rfl (hb hby at_172) rfl ?_
            show Steps p.tables e below (T667.setTop (mkF m 174 L_678 [(.int (1 : Int32)), (.ref b533)])) _
            refine XS.lloadN X667.here hx rfl (hb hby at_174) rfl ?_
            show Steps p.tables e below (T667.setTop (mkF m 175 L_678 [(.long (j0_0 q0 q1 p3)), (.int (1 : Int32)), (.ref b533)])) _
            refine st692 _ ?_
            show Steps p.tables e below (T692.setTop (mkF m 176 L_678 [])) _
            refine XS.iload X692.here hx rfl (hb hby at_176) rfl ?_
            show Steps p.tables e below (T692.setTop (mkF m 178 L_678 [(.int (1 : Int32))])) _
            refine XS.iconst X692.here hx rfl (hb hby at_178) ?_
            show Steps p.tables e below (T692.setTop (mkF m 179 L_678 [(.int (1 : Int32)), (.int (1 : Int32))])) _
            refine XS.iadd X692.here hx rfl (hb hby at_179) rfl ?_
            show Steps p.tables e below (T692.setTop (mkF m 180 L_678 [(.int (2 : Int32))])) _
            refine XS.istore X692.here hx rfl (hb hby at_180) rfl (l' := L_703) rfl ?_
            show Steps p.tables e below (T692.setTop (mkF m 182 L_703 [])) _
            refine XS.iload X692.here hx rfl (hb hby at_182) rfl ?_
            show Steps p.tables e below (T692.setTop (mkF m 184 L_703 [(.int (p3 &&& (3 : Int32)))])) _
            refine XS.iconst X692.here hx rfl (hb hby at_184) ?_
            show Steps p.tables e below (T692.setTop (mkF m 185 L_703 [(.int (3 : Int32)), (.int (p3 &&& (3 : Int32)))])) _
            refine XS.icmpYes X692.here hx rfl (pc0 := 185) (pc' := 215) rfl (hb hby at_185) rfl (tlt hc648).1 (by decide) (by decide) ?_
            show Steps p.tables e below (T692.setTop (mkF m 215 L_703 [])) _
            refine XS.aload X692.here hx rfl (hb hby at_215) rfl rfl ?_
            show Steps p.tables e below (T692.setTop (mkF m 217 L_703 [(.ref cx0650)])) _
            refine X692.arraylength hx (by rw [e692]; exact Ar704.1) (State.isArrayOf_alike hZ.alike Ar704.2.1) (g := (mkF m 217 L_703 [(.ref cx0650)])) rfl rfl (hb hby at_217) _ ?_
            rw [len_of S704 M704]
            show Steps p.tables e below (T692.setTop (mkF m 218 L_703 [(.int (j4_0 (j0_0 q0 q1 p3) (j4_0 q0 (0 : Int32) own_k0 own_v0) (j4_1 q0 own_k0 own_v0) (j4_2 q0 (((p3.toUInt32 >>> ((5 : Int32) &&& 31).toUInt32).toInt32) &&& (3 : Int32)) own_k0 own_v0)))])) _
            refine XS.iload X692.here hx rfl (hb hby at_218) rfl ?_
            exact k)
          by_cases hc705 : (j4_0 (j0_0 q0 q1 p3) (j4_0 q0 (0 : Int32) own_k0 own_v0) (j4_1 q0 own_k0 own_v0) (j4_2 q0 (((p3.toUInt32 >>> ((5 : Int32) &&& 31).toUInt32).toInt32) &&& (3 : Int32)) own_k0 own_v0)) = (2 : Int32)
          · skip
            obtain ⟨cl707, Ar707, q707, S707, M707, H707, G707⟩ := id V692
            have hin708 : ¬ ((0 : Int32) < 0 ∨ cl707.slots.size ≤ ((0 : Int32)).toNatClampNeg) := inb_of S707 ⟨by decide, by decide⟩
            have hat709 : cl707.slots[((0 : Int32)).toNatClampNeg]? = some (.long q0) := H707.at hin708 rfl
            obtain ⟨_, _, ⟨T710, L710, k710, n710⟩, -, X710, ⟨Lc710, hQ710, l710, y710, z710⟩, st710⟩ := Jvm.LawKit.callS X692 hx (y := (⟨"com/example/pathfield/pathfield/query/LongIntMapKeysPinLaw", "has", "([JJ)Z"⟩ : MethodName)) hown (mvT hZ (hw _ (List.mem_of_getElem? (i := 36) rfl))) (mvT hZ (hw _ (List.mem_of_getElem? (i := 37) rfl))) (mvT hZ (hw _ (List.mem_of_getElem? (i := 38) rfl))) (mvT hZ (hw _ (List.mem_of_getElem? (i := 39) rfl))) (by decide) (backOf (W := 0) (rm7 l Z aw hw [] cx0650 q0 ((j4_0 (j0_0 q0 q1 p3) (j4_0 q0 (0 : Int32) own_k0 own_v0) (j4_1 q0 own_k0 own_v0) (j4_2 q0 (((p3.toUInt32 >>> ((5 : Int32) &&& 31).toUInt32).toInt32) &&& (3 : Int32)) own_k0 own_v0))) ((own_res (j4_1 (j0_0 q0 q1 p3) (j4_1 q0 own_k0 own_v0) (j4_2 q0 (((p3.toUInt32 >>> ((5 : Int32) &&& 31).toUInt32).toInt32) &&& (3 : Int32)) own_k0 own_v0)) (j4_2 (j0_0 q0 q1 p3) (((p3.toUInt32 >>> ((7 : Int32) &&& 31).toUInt32).toInt32) &&& (3 : Int32)) (j4_1 q0 own_k0 own_v0) (j4_2 q0 (((p3.toUInt32 >>> ((5 : Int32) &&& 31).toUInt32).toInt32) &&& (3 : Int32)) own_k0 own_v0)) 16)) cy0650 h692 n0 Z701 f700) hZ (hw _ (List.mem_of_getElem? (i := 39) rfl)) (hw _ (List.mem_of_getElem? (i := 38) rfl)) (by decide) (by decide)) (g := (mkF m 237 L_703 [(.long q0), (.ref cx0650)])) rfl (by rw [hml]; rfl) (argsL := [(.ref cx0650), (.long q0)]) (rest := []) (lenOf pd_8 rfl) rfl (by show 2 * 0 + _ ≤ _; exact Nat.le_of_eq rfl) (hb hby at_237) (fun _ _ => ⟨rfl, e692, (by decide : 5 + 0 ≤ _), (by decide : 41 + 0 ≤ _)⟩)
            dsimp only [Pt.U, Pt.locs, Pt.cells, Pt.slots] at X710 l710 y710 z710 st710 hQ710
            replace l710 := l710.symm
            subst l710 y710 z710
            obtain ⟨rfl, N710q, e710⟩ := hQ710
            have N710 := Fr.app N702 N710q
            have pre712 := fun (t : State) (k : Steps p.tables e below (T710.setTop (mkF m 240 L_703 [(.int (nar .boolean (j7_0 q0 (j4_0 (j0_0 q0 q1 p3) (j4_0 q0 (0 : Int32) own_k0 own_v0) (j4_1 q0 own_k0 own_v0) (j4_2 q0 (((p3.toUInt32 >>> ((5 : Int32) &&& 31).toUInt32).toInt32) &&& (3 : Int32)) own_k0 own_v0)) (own_res (j4_1 (j0_0 q0 q1 p3) (j4_1 q0 own_k0 own_v0) (j4_2 q0 (((p3.toUInt32 >>> ((5 : Int32) &&& 31).toUInt32).toInt32) &&& (3 : Int32)) own_k0 own_v0)) (j4_2 (j0_0 q0 q1 p3) (((p3.toUInt32 >>> ((7 : Int32) &&& 31).toUInt32).toInt32) &&& (3 : Int32)) (j4_1 q0 own_k0 own_v0) (j4_2 q0 (((p3.toUInt32 >>> ((5 : Int32) &&& 31).toUInt32).toInt32) &&& (3 : Int32)) own_k0 own_v0)) 16))))])) t) => pre706 t (by
              show Steps p.tables e below (T692.setTop (mkF m 220 L_703 [(.int (2 : Int32)), (.int (j4_0 (j0_0 q0 q1 p3) (j4_0 q0 (0 : Int32) own_k0 own_v0) (j4_1 q0 own_k0 own_v0) (j4_2 q0 (((p3.toUInt32 >>> ((5 : Int32) &&& 31).toUInt32).toInt32) &&& (3 : Int32)) own_k0 own_v0)))])) _
              refine XS.icmpYes X692.here hx rfl (pc0 := 220) (pc' := 225) rfl (hb hby at_220) rfl (teq hc705).1 (by decide) (by decide) ?_
              show Steps p.tables e below (T692.setTop (mkF m 225 L_703 [])) _
              refine XS.iload X692.here hx rfl (hb hby at_225) rfl ?_
              show Steps p.tables e below (T692.setTop (mkF m 227 L_703 [(.int (2 : Int32))])) _
              refine XS.iconst X692.here hx rfl (hb hby at_227) ?_
              show Steps p.tables e below (T692.setTop (mkF m 228 L_703 [(.int (1 : Int32)), (.int (2 : Int32))])) _
              refine XS.icmpNo X692.here hx rfl (hb hby at_228) rfl (flt (by decide : ¬ ((2 : Int32) < (1 : Int32)))).1 ?_
              show Steps p.tables e below (T692.setTop (mkF m 231 L_703 [])) _
              refine XS.aload X692.here hx rfl (hb hby at_231) rfl rfl ?_
              show Steps p.tables e below (T692.setTop (mkF m 233 L_703 [(.ref cx0650)])) _
              refine XS.aload X692.here hx rfl (hb hby at_233) rfl rfl ?_
              show Steps p.tables e below (T692.setTop (mkF m 235 L_703 [(.ref b533), (.ref cx0650)])) _
              refine XS.iconst X692.here hx rfl (hb hby at_235) ?_
              show Steps p.tables e below (T692.setTop (mkF m 236 L_703 [(.int (0 : Int32)), (.ref b533), (.ref cx0650)])) _
              refine X692.laload hx (j := (0 : Int32)) (v := (.long q0)) (by rw [e692]; exact Ar707.1) (State.isArrayOf_alike hZ.alike Ar707.2.1) Ar707.2.2 hin708 hat709 (g := (mkF m 236 L_703 [(.int (0 : Int32)), (.ref b533), (.ref cx0650)])) rfl rfl (hb hby at_236) _ ?_
              show Steps p.tables e below (T692.setTop (mkF m 237 L_703 [(.long q0), (.ref cx0650)])) _
              refine st710 _ ?_
              exact k)
            by_cases hc711 : (nar .boolean (j7_0 q0 (j4_0 (j0_0 q0 q1 p3) (j4_0 q0 (0 : Int32) own_k0 own_v0) (j4_1 q0 own_k0 own_v0) (j4_2 q0 (((p3.toUInt32 >>> ((5 : Int32) &&& 31).toUInt32).toInt32) &&& (3 : Int32)) own_k0 own_v0)) (own_res (j4_1 (j0_0 q0 q1 p3) (j4_1 q0 own_k0 own_v0) (j4_2 q0 (((p3.toUInt32 >>> ((5 : Int32) &&& 31).toUInt32).toInt32) &&& (3 : Int32)) own_k0 own_v0)) (j4_2 (j0_0 q0 q1 p3) (((p3.toUInt32 >>> ((7 : Int32) &&& 31).toUInt32).toInt32) &&& (3 : Int32)) (j4_1 q0 own_k0 own_v0) (j4_2 q0 (((p3.toUInt32 >>> ((5 : Int32) &&& 31).toUInt32).toInt32) &&& (3 : Int32)) own_k0 own_v0)) 16))) = (0 : Int32)
            · skip
              obtain ⟨fs, hr, hrun, hended, hW, hsame⟩ := X710.leave (v := some (.int (0 : Int32))) (fun h => by rw [Bd.returns] at h; cases h) (BodyLoose.notSynchronized Bd)
              refine ⟨_, _, pre712 _ ?_, hrun, hended, _, _, rfl, ?_, ⟨_, rfl⟩, hW, hsame.mono (by decide) (by decide)⟩
              · skip
                show Steps p.tables e below (T710.setTop (mkF m 240 L_703 [(.int (nar .boolean (j7_0 q0 (j4_0 (j0_0 q0 q1 p3) (j4_0 q0 (0 : Int32) own_k0 own_v0) (j4_1 q0 own_k0 own_v0) (j4_2 q0 (((p3.toUInt32 >>> ((5 : Int32) &&& 31).toUInt32).toInt32) &&& (3 : Int32)) own_k0 own_v0)) (own_res (j4_1 (j0_0 q0 q1 p3) (j4_1 q0 own_k0 own_v0) (j4_2 q0 (((p3.toUInt32 >>> ((5 : Int32) &&& 31).toUInt32).toInt32) &&& (3 : Int32)) own_k0 own_v0)) (j4_2 (j0_0 q0 q1 p3) (((p3.toUInt32 >>> ((7 : Int32) &&& 31).toUInt32).toInt32) &&& (3 : Int32)) (j4_1 q0 own_k0 own_v0) (j4_2 q0 (((p3.toUInt32 >>> ((5 : Int32) &&& 31).toUInt32).toInt32) &&& (3 : Int32)) own_k0 own_v0)) 16))))])) _
                refine XS.ifNo X710.here hx rfl (hb hby at_240) rfl ((if0 _ _).trans (teq hc711).2) ?_
                show Steps p.tables e below (T710.setTop (mkF m 243 L_703 [])) _
                refine XS.iconst X710.here hx rfl (hb hby at_243) ?_
                show Steps p.tables e below (T710.setTop (mkF m 244 L_703 [(.int (0 : Int32))])) _
                exact retN X710 hx (t := .boolean) Bd.returns (by simp) (hb hby at_244) hr
              · show Q0 Z q0 q1 q2 p3 h0 n0 _ T710.heap _
                rw [e710]
                have hv : (0 : Int32) = (v0 q0 q1 q2 p3) := by first | exact ((if_neg hc562).trans ((if_neg hc594).trans ((if_pos hc648).trans ((if_neg hc679).trans ((if_pos hc705).trans (if_pos hc711)))))).symm | (unfold v0; first | (rw [if_neg hc562, if_neg hc594, if_pos hc648, if_neg hc679, if_pos hc705, if_pos hc711]) | (simp only [if_neg hc562, if_neg hc594, if_pos hc648, if_neg hc679, if_pos hc705, if_pos hc711]))
                exact ⟨(by rw [← hv]), N710⟩
            · skip
              obtain ⟨cl713, Ar713, q713, S713, M713, H713, G713⟩ := id V692
              have hin714 : ¬ ((1 : Int32) < 0 ∨ cl713.slots.size ≤ ((1 : Int32)).toNatClampNeg) := inb_of S713 ⟨by decide, by decide⟩
              have hat715 : cl713.slots[((1 : Int32)).toNatClampNeg]? = some (.long (j0_0 q0 q1 p3)) := H713.at hin714 rfl
              obtain ⟨_, _, ⟨T716, L716, k716, n716⟩, -, X716, ⟨Lc716, hQ716, l716, y716, z716⟩, st716⟩ := Jvm.LawKit.callS X710 hx (y := (⟨"com/example/pathfield/pathfield/query/LongIntMapKeysPinLaw", "has", "([JJ)Z"⟩ : MethodName)) hown (mvT hZ (hw _ (List.mem_of_getElem? (i := 36) rfl))) (mvT hZ (hw _ (List.mem_of_getElem? (i := 37) rfl))) (mvT hZ (hw _ (List.mem_of_getElem? (i := 38) rfl))) (mvT hZ (hw _ (List.mem_of_getElem? (i := 39) rfl))) (by decide) (backOf (W := 0) (rm7 l Z aw hw [] cx0650 ((j0_0 q0 q1 p3)) ((j4_0 (j0_0 q0 q1 p3) (j4_0 q0 (0 : Int32) own_k0 own_v0) (j4_1 q0 own_k0 own_v0) (j4_2 q0 (((p3.toUInt32 >>> ((5 : Int32) &&& 31).toUInt32).toInt32) &&& (3 : Int32)) own_k0 own_v0))) ((own_res (j4_1 (j0_0 q0 q1 p3) (j4_1 q0 own_k0 own_v0) (j4_2 q0 (((p3.toUInt32 >>> ((5 : Int32) &&& 31).toUInt32).toInt32) &&& (3 : Int32)) own_k0 own_v0)) (j4_2 (j0_0 q0 q1 p3) (((p3.toUInt32 >>> ((7 : Int32) &&& 31).toUInt32).toInt32) &&& (3 : Int32)) (j4_1 q0 own_k0 own_v0) (j4_2 q0 (((p3.toUInt32 >>> ((5 : Int32) &&& 31).toUInt32).toInt32) &&& (3 : Int32)) own_k0 own_v0)) 16)) cy0650 h692 n0 Z701 f700) hZ (hw _ (List.mem_of_getElem? (i := 39) rfl)) (hw _ (List.mem_of_getElem? (i := 38) rfl)) (by decide) (by decide)) (g := (mkF m 257 L_703 [(.long (j0_0 q0 q1 p3)), (.ref cx0650)])) rfl (by rw [hml]; rfl) (argsL := [(.ref cx0650), (.long (j0_0 q0 q1 p3))]) (rest := []) (lenOf pd_8 rfl) rfl (by show 2 * 0 + _ ≤ _; exact Nat.le_of_eq rfl) (hb hby at_257) (fun _ _ => ⟨rfl, e710, (by decide : 5 + 0 ≤ _), (by decide : 41 + 0 ≤ _)⟩)
              dsimp only [Pt.U, Pt.locs, Pt.cells, Pt.slots] at X716 l716 y716 z716 st716 hQ716
              replace l716 := l716.symm
              subst l716 y716 z716
              obtain ⟨rfl, N716q, e716⟩ := hQ716
              have N716 := Fr.app N710 N716q
              have pre718 := fun (t : State) (k : Steps p.tables e below (T716.setTop (mkF m 260 L_703 [(.int (nar .boolean (j7_0 (j0_0 q0 q1 p3) (j4_0 (j0_0 q0 q1 p3) (j4_0 q0 (0 : Int32) own_k0 own_v0) (j4_1 q0 own_k0 own_v0) (j4_2 q0 (((p3.toUInt32 >>> ((5 : Int32) &&& 31).toUInt32).toInt32) &&& (3 : Int32)) own_k0 own_v0)) (own_res (j4_1 (j0_0 q0 q1 p3) (j4_1 q0 own_k0 own_v0) (j4_2 q0 (((p3.toUInt32 >>> ((5 : Int32) &&& 31).toUInt32).toInt32) &&& (3 : Int32)) own_k0 own_v0)) (j4_2 (j0_0 q0 q1 p3) (((p3.toUInt32 >>> ((7 : Int32) &&& 31).toUInt32).toInt32) &&& (3 : Int32)) (j4_1 q0 own_k0 own_v0) (j4_2 q0 (((p3.toUInt32 >>> ((5 : Int32) &&& 31).toUInt32).toInt32) &&& (3 : Int32)) own_k0 own_v0)) 16))))])) t) => pre712 t (by
                show Steps p.tables e below (T710.setTop (mkF m 240 L_703 [(.int (nar .boolean (j7_0 q0 (j4_0 (j0_0 q0 q1 p3) (j4_0 q0 (0 : Int32) own_k0 own_v0) (j4_1 q0 own_k0 own_v0) (j4_2 q0 (((p3.toUInt32 >>> ((5 : Int32) &&& 31).toUInt32).toInt32) &&& (3 : Int32)) own_k0 own_v0)) (own_res (j4_1 (j0_0 q0 q1 p3) (j4_1 q0 own_k0 own_v0) (j4_2 q0 (((p3.toUInt32 >>> ((5 : Int32) &&& 31).toUInt32).toInt32) &&& (3 : Int32)) own_k0 own_v0)) (j4_2 (j0_0 q0 q1 p3) (((p3.toUInt32 >>> ((7 : Int32) &&& 31).toUInt32).toInt32) &&& (3 : Int32)) (j4_1 q0 own_k0 own_v0) (j4_2 q0 (((p3.toUInt32 >>> ((5 : Int32) &&& 31).toUInt32).toInt32) &&& (3 : Int32)) own_k0 own_v0)) 16))))])) _
                refine XS.ifYes X710.here hx rfl (pc0 := 240) (pc' := 245) rfl (hb hby at_240) rfl ((if0 _ _).trans (feq hc711).2) (by decide) (by decide) ?_
                show Steps p.tables e below (T710.setTop (mkF m 245 L_703 [])) _
                refine XS.iload X710.here hx rfl (hb hby at_245) rfl ?_
                show Steps p.tables e below (T710.setTop (mkF m 247 L_703 [(.int (2 : Int32))])) _
                refine XS.iconst X710.here hx rfl (hb hby at_247) ?_
                show Steps p.tables e below (T710.setTop (mkF m 248 L_703 [(.int (2 : Int32)), (.int (2 : Int32))])) _
                refine XS.icmpNo X710.here hx rfl (hb hby at_248) rfl (flt (by decide : ¬ ((2 : Int32) < (2 : Int32)))).1 ?_
                show Steps p.tables e below (T710.setTop (mkF m 251 L_703 [])) _
                refine XS.aload X710.here hx rfl (hb hby at_251) rfl rfl ?_
                show Steps p.tables e below (T710.setTop (mkF m 253 L_703 [(.ref cx0650)])) _
                refine XS.aload X710.here hx rfl (hb hby at_253) rfl rfl ?_
                show Steps p.tables e below (T710.setTop (mkF m 255 L_703 [(.ref b533), (.ref cx0650)])) _
                refine XS.iconst X710.here hx rfl (hb hby at_255) ?_
                show Steps p.tables e below (T710.setTop (mkF m 256 L_703 [(.int (1 : Int32)), (.ref b533), (.ref cx0650)])) _
                refine X710.laload hx (j := (1 : Int32)) (v := (.long (j0_0 q0 q1 p3))) (by rw [e710]; exact Ar713.1) (State.isArrayOf_alike hZ.alike Ar713.2.1) Ar713.2.2 hin714 hat715 (g := (mkF m 256 L_703 [(.int (1 : Int32)), (.ref b533), (.ref cx0650)])) rfl rfl (hb hby at_256) _ ?_
                show Steps p.tables e below (T710.setTop (mkF m 257 L_703 [(.long (j0_0 q0 q1 p3)), (.ref cx0650)])) _
                refine st716 _ ?_
                exact k)
              by_cases hc717 : (nar .boolean (j7_0 (j0_0 q0 q1 p3) (j4_0 (j0_0 q0 q1 p3) (j4_0 q0 (0 : Int32) own_k0 own_v0) (j4_1 q0 own_k0 own_v0) (j4_2 q0 (((p3.toUInt32 >>> ((5 : Int32) &&& 31).toUInt32).toInt32) &&& (3 : Int32)) own_k0 own_v0)) (own_res (j4_1 (j0_0 q0 q1 p3) (j4_1 q0 own_k0 own_v0) (j4_2 q0 (((p3.toUInt32 >>> ((5 : Int32) &&& 31).toUInt32).toInt32) &&& (3 : Int32)) own_k0 own_v0)) (j4_2 (j0_0 q0 q1 p3) (((p3.toUInt32 >>> ((7 : Int32) &&& 31).toUInt32).toInt32) &&& (3 : Int32)) (j4_1 q0 own_k0 own_v0) (j4_2 q0 (((p3.toUInt32 >>> ((5 : Int32) &&& 31).toUInt32).toInt32) &&& (3 : Int32)) own_k0 own_v0)) 16))) = (0 : Int32)
              · skip
                obtain ⟨fs, hr, hrun, hended, hW, hsame⟩ := X716.leave (v := some (.int (0 : Int32))) (fun h => by rw [Bd.returns] at h; cases h) (BodyLoose.notSynchronized Bd)
                refine ⟨_, _, pre718 _ ?_, hrun, hended, _, _, rfl, ?_, ⟨_, rfl⟩, hW, hsame.mono (by decide) (by decide)⟩
                · skip
                  show Steps p.tables e below (T716.setTop (mkF m 260 L_703 [(.int (nar .boolean (j7_0 (j0_0 q0 q1 p3) (j4_0 (j0_0 q0 q1 p3) (j4_0 q0 (0 : Int32) own_k0 own_v0) (j4_1 q0 own_k0 own_v0) (j4_2 q0 (((p3.toUInt32 >>> ((5 : Int32) &&& 31).toUInt32).toInt32) &&& (3 : Int32)) own_k0 own_v0)) (own_res (j4_1 (j0_0 q0 q1 p3) (j4_1 q0 own_k0 own_v0) (j4_2 q0 (((p3.toUInt32 >>> ((5 : Int32) &&& 31).toUInt32).toInt32) &&& (3 : Int32)) own_k0 own_v0)) (j4_2 (j0_0 q0 q1 p3) (((p3.toUInt32 >>> ((7 : Int32) &&& 31).toUInt32).toInt32) &&& (3 : Int32)) (j4_1 q0 own_k0 own_v0) (j4_2 q0 (((p3.toUInt32 >>> ((5 : Int32) &&& 31).toUInt32).toInt32) &&& (3 : Int32)) own_k0 own_v0)) 16))))])) _
                  refine XS.ifNo X716.here hx rfl (hb hby at_260) rfl ((if0 _ _).trans (teq hc717).2) ?_
                  show Steps p.tables e below (T716.setTop (mkF m 263 L_703 [])) _
                  refine XS.iconst X716.here hx rfl (hb hby at_263) ?_
                  show Steps p.tables e below (T716.setTop (mkF m 264 L_703 [(.int (0 : Int32))])) _
                  exact retN X716 hx (t := .boolean) Bd.returns (by simp) (hb hby at_264) hr
                · show Q0 Z q0 q1 q2 p3 h0 n0 _ T716.heap _
                  rw [e716]
                  have hv : (0 : Int32) = (v0 q0 q1 q2 p3) := by first | exact ((if_neg hc562).trans ((if_neg hc594).trans ((if_pos hc648).trans ((if_neg hc679).trans ((if_pos hc705).trans ((if_neg hc711).trans (if_pos hc717))))))).symm | (unfold v0; first | (rw [if_neg hc562, if_neg hc594, if_pos hc648, if_neg hc679, if_pos hc705, if_neg hc711, if_pos hc717]) | (simp only [if_neg hc562, if_neg hc594, if_pos hc648, if_neg hc679, if_pos hc705, if_neg hc711, if_pos hc717]))
                  exact ⟨(by rw [← hv]), N716⟩
              · skip
                obtain ⟨fs, hr, hrun, hended, hW, hsame⟩ := X716.leave (v := some (.int (1 : Int32))) (fun h => by rw [Bd.returns] at h; cases h) (BodyLoose.notSynchronized Bd)
                refine ⟨_, _, pre718 _ ?_, hrun, hended, _, _, rfl, ?_, ⟨_, rfl⟩, hW, hsame.mono (by decide) (by decide)⟩
                · skip
                  show Steps p.tables e below (T716.setTop (mkF m 260 L_703 [(.int (nar .boolean (j7_0 (j0_0 q0 q1 p3) (j4_0 (j0_0 q0 q1 p3) (j4_0 q0 (0 : Int32) own_k0 own_v0) (j4_1 q0 own_k0 own_v0) (j4_2 q0 (((p3.toUInt32 >>> ((5 : Int32) &&& 31).toUInt32).toInt32) &&& (3 : Int32)) own_k0 own_v0)) (own_res (j4_1 (j0_0 q0 q1 p3) (j4_1 q0 own_k0 own_v0) (j4_2 q0 (((p3.toUInt32 >>> ((5 : Int32) &&& 31).toUInt32).toInt32) &&& (3 : Int32)) own_k0 own_v0)) (j4_2 (j0_0 q0 q1 p3) (((p3.toUInt32 >>> ((7 : Int32) &&& 31).toUInt32).toInt32) &&& (3 : Int32)) (j4_1 q0 own_k0 own_v0) (j4_2 q0 (((p3.toUInt32 >>> ((5 : Int32) &&& 31).toUInt32).toInt32) &&& (3 : Int32)) own_k0 own_v0)) 16))))])) _
                  refine XS.ifYes X716.here hx rfl (pc0 := 260) (pc' := 265) rfl (hb hby at_260) rfl ((if0 _ _).trans (feq hc717).2) (by decide) (by decide) ?_
                  show Steps p.tables e below (T716.setTop (mkF m 265 L_703 [])) _
                  refine XS.iload X716.here hx rfl (hb hby at_265) rfl ?_
                  show Steps p.tables e below (T716.setTop (mkF m 267 L_703 [(.int (2 : Int32))])) _
                  refine XS.iconst X716.here hx rfl (hb hby at_267) ?_
                  show Steps p.tables e below (T716.setTop (mkF m 268 L_703 [(.int (3 : Int32)), (.int (2 : Int32))])) _
                  refine XS.icmpYes X716.here hx rfl (pc0 := 268) (pc' := 285) rfl (hb hby at_268) rfl (tlt (by decide : (2 : Int32) < (3 : Int32))).1 (by decide) (by decide) ?_
                  show Steps p.tables e below (T716.setTop (mkF m 285 L_703 [])) _
                  refine XS.iconst X716.here hx rfl (hb hby at_285) ?_
                  show Steps p.tables e below (T716.setTop (mkF m 286 L_703 [(.int (1 : Int32))])) _
                  exact retN X716 hx (t := .boolean) Bd.returns (by simp) (hb hby at_286) hr
                · show Q0 Z q0 q1 q2 p3 h0 n0 _ T716.heap _
                  rw [e716]
                  have hv : (1 : Int32) = (v0 q0 q1 q2 p3) := by first | exact ((if_neg hc562).trans ((if_neg hc594).trans ((if_pos hc648).trans ((if_neg hc679).trans ((if_pos hc705).trans ((if_neg hc711).trans (if_neg hc717))))))).symm | (unfold v0; first | (rw [if_neg hc562, if_neg hc594, if_pos hc648, if_neg hc679, if_pos hc705, if_neg hc711, if_neg hc717]) | (simp only [if_neg hc562, if_neg hc594, if_pos hc648, if_neg hc679, if_pos hc705, if_neg hc711, if_neg hc717]))
                  exact ⟨(by rw [← hv]), N716⟩
          · skip
            obtain ⟨fs, hr, hrun, hended, hW, hsame⟩ := X692.leave (v := some (.int (0 : Int32))) (fun h => by rw [Bd.returns] at h; cases h) (BodyLoose.notSynchronized Bd)
            refine ⟨_, _, pre706 _ ?_, hrun, hended, _, _, rfl, ?_, ⟨_, rfl⟩, hW, hsame.mono (by decide) (by decide)⟩
            · skip
              show Steps p.tables e below (T692.setTop (mkF m 220 L_703 [(.int (2 : Int32)), (.int (j4_0 (j0_0 q0 q1 p3) (j4_0 q0 (0 : Int32) own_k0 own_v0) (j4_1 q0 own_k0 own_v0) (j4_2 q0 (((p3.toUInt32 >>> ((5 : Int32) &&& 31).toUInt32).toInt32) &&& (3 : Int32)) own_k0 own_v0)))])) _
              refine XS.icmpNo X692.here hx rfl (hb hby at_220) rfl (feq hc705).1 ?_
              show Steps p.tables e below (T692.setTop (mkF m 223 L_703 [])) _
              refine XS.iconst X692.here hx rfl (hb hby at_223) ?_
              show Steps p.tables e below (T692.setTop (mkF m 224 L_703 [(.int (0 : Int32))])) _
              exact retN X692 hx (t := .boolean) Bd.returns (by simp) (hb hby at_224) hr
            · show Q0 Z q0 q1 q2 p3 h0 n0 _ T692.heap _
              rw [e692]
              have hv : (0 : Int32) = (v0 q0 q1 q2 p3) := by first | exact ((if_neg hc562).trans ((if_neg hc594).trans ((if_pos hc648).trans ((if_neg hc679).trans (if_neg hc705))))).symm | (unfold v0; first | (rw [if_neg hc562, if_neg hc594, if_pos hc648, if_neg hc679, if_neg hc705]) | (simp only [if_neg hc562, if_neg hc594, if_pos hc648, if_neg hc679, if_neg hc705]))
              exact ⟨(by rw [← hv]), N702⟩
      · skip
        obtain ⟨cq719, kq719, q719a, q719b, q719c⟩ := isOf hZ e634 f635
        obtain ⟨_, _, ⟨T719, L719, k719, n719⟩, -, X719, ⟨Lc719, hQ719, l719, y719, z719⟩, st719⟩ := X634.virtualBack hx (y := (⟨"com/example/pathfield/pathfield/query/LongIntMap", "put", "(JI)V"⟩ : MethodName)) (z := (⟨"com/example/pathfield/pathfield/query/LongIntMap", "put", "(JI)V"⟩ : MethodName)) hown (mvT hZ (hw _ (List.mem_of_getElem? (i := 20) rfl))) (mvT hZ (hw _ (List.mem_of_getElem? (i := 21) rfl))) (notFace_of_selects (args := #[]) (mvT hZ (hw _ (List.mem_of_getElem? (i := 23) rfl)))) (mvT hZ (hw _ (List.mem_of_getElem? (i := 23) rfl))) (mvT hZ (hw _ (List.mem_of_getElem? (i := 22) rfl))) (by decide) (backOf (W := 0) (rm4 l Z aw hw [] b536 ((j0_1 q0 q1 q2 p3)) ((((p3.toUInt32 >>> ((9 : Int32) &&& 31).toUInt32).toInt32) &&& (4194303 : Int32))) cx0543 cx1543 ((j4_0 (j0_0 q0 q1 p3) (j4_0 q0 (0 : Int32) own_k0 own_v0) (j4_1 q0 own_k0 own_v0) (j4_2 q0 (((p3.toUInt32 >>> ((5 : Int32) &&& 31).toUInt32).toInt32) &&& (3 : Int32)) own_k0 own_v0))) ((j4_1 (j0_0 q0 q1 p3) (j4_1 q0 own_k0 own_v0) (j4_2 q0 (((p3.toUInt32 >>> ((5 : Int32) &&& 31).toUInt32).toInt32) &&& (3 : Int32)) own_k0 own_v0))) ((j4_2 (j0_0 q0 q1 p3) (((p3.toUInt32 >>> ((7 : Int32) &&& 31).toUInt32).toInt32) &&& (3 : Int32)) (j4_1 q0 own_k0 own_v0) (j4_2 q0 (((p3.toUInt32 >>> ((5 : Int32) &&& 31).toUInt32).toInt32) &&& (3 : Int32)) own_k0 own_v0))) cy0543 cy1543 h634 n0 Z634 f635 f636 f637 f638 f639 f640 g_b536 g_cx0543 g_cx1543 ne556 ne558 nx_cx0543_cx1543 (own_W2 q0 _ (own_v3 p3 5) (j0_0 q0 q1 p3) _ (own_v3 p3 7)).1 (own_W2 q0 _ (own_v3 p3 5) (j0_0 q0 q1 p3) _ (own_v3 p3 7)).2.1 (own_W2 q0 _ (own_v3 p3 5) (j0_0 q0 q1 p3) _ (own_v3 p3 7)).2.2.1 ((own_W2 q0 _ (own_v3 p3 5) (j0_0 q0 q1 p3) _ (own_v3 p3 7)).2.2.2 _)) hZ (hw _ (List.mem_of_getElem? (i := 24) rfl)) (hw _ (List.mem_of_getElem? (i := 4) rfl)) (by decide) (by decide)) q719a q719c (g := (mkF m 127 L_559 [(.int (((p3.toUInt32 >>> ((9 : Int32) &&& 31).toUInt32).toInt32) &&& (4194303 : Int32))), (.long (j0_1 q0 q1 q2 p3)), (.ref b536)])) rfl (by rw [hml]; rfl) (Steps.refl _) (argsL := [(.long (j0_1 q0 q1 q2 p3)), (.int (((p3.toUInt32 >>> ((9 : Int32) &&& 31).toUInt32).toInt32) &&& (4194303 : Int32)))]) (rest := []) (lenOf pd_7 rfl) rfl (by show 2 * 0 + _ ≤ _; exact Nat.le_of_eq rfl) (hb hby at_127) (fun _ _ => ⟨rfl, e634, (by decide : 4 + 0 ≤ _), (by decide : 38 + 0 ≤ _)⟩)
        dsimp only [Pt.U, Pt.locs, Pt.cells, Pt.slots] at X719 l719 y719 z719 st719 hQ719
        replace l719 := l719.symm
        subst l719 y719 z719
        obtain ⟨h719, e719⟩ : ∃ z, T719.heap = z := ⟨_, rfl⟩
        rw [e719] at hQ719
        obtain ⟨rfl, N719q, K719q, f720, f721, f722, f723, f724, f725⟩ := hQ719
        have f726 := f641.keep K719q (ninS ne538 (ninS ne555 (ninS ne557 nin0)))
        have f727 := f635.keep K719q
        have Z719 := Nat.le_trans Z634 K719q.1
        have N719 := Fr.app N634 N719q
        obtain ⟨cq733, kq733, q733a, q733b, q733c⟩ := isOf hZ e719 f720
        obtain ⟨_, _, ⟨T733, L733, k733, n733⟩, -, X733, ⟨Lc733, hQ733, l733, y733, z733⟩, st733⟩ := X719.virtualBack hx (y := (⟨"com/example/pathfield/pathfield/query/LongIntMap", "keys", "()[J"⟩ : MethodName)) (z := (⟨"com/example/pathfield/pathfield/query/LongIntMap", "keys", "()[J"⟩ : MethodName)) hown (mvT hZ (hw _ (List.mem_of_getElem? (i := 31) rfl))) (mvT hZ (hw _ (List.mem_of_getElem? (i := 32) rfl))) (notFace_of_selects (args := #[]) (mvT hZ (hw _ (List.mem_of_getElem? (i := 34) rfl)))) (mvT hZ (hw _ (List.mem_of_getElem? (i := 34) rfl))) (mvT hZ (hw _ (List.mem_of_getElem? (i := 33) rfl))) (by decide) (backOf (W := 0) (rm6 l Z aw hw [] b536 cx0543 cx1543 ((j4_0 (j0_1 q0 q1 q2 p3) (j4_0 (j0_0 q0 q1 p3) (j4_0 q0 (0 : Int32) own_k0 own_v0) (j4_1 q0 own_k0 own_v0) (j4_2 q0 (((p3.toUInt32 >>> ((5 : Int32) &&& 31).toUInt32).toInt32) &&& (3 : Int32)) own_k0 own_v0)) (j4_1 (j0_0 q0 q1 p3) (j4_1 q0 own_k0 own_v0) (j4_2 q0 (((p3.toUInt32 >>> ((5 : Int32) &&& 31).toUInt32).toInt32) &&& (3 : Int32)) own_k0 own_v0)) (j4_2 (j0_0 q0 q1 p3) (((p3.toUInt32 >>> ((7 : Int32) &&& 31).toUInt32).toInt32) &&& (3 : Int32)) (j4_1 q0 own_k0 own_v0) (j4_2 q0 (((p3.toUInt32 >>> ((5 : Int32) &&& 31).toUInt32).toInt32) &&& (3 : Int32)) own_k0 own_v0)))) ((j4_1 (j0_1 q0 q1 q2 p3) (j4_1 (j0_0 q0 q1 p3) (j4_1 q0 own_k0 own_v0) (j4_2 q0 (((p3.toUInt32 >>> ((5 : Int32) &&& 31).toUInt32).toInt32) &&& (3 : Int32)) own_k0 own_v0)) (j4_2 (j0_0 q0 q1 p3) (((p3.toUInt32 >>> ((7 : Int32) &&& 31).toUInt32).toInt32) &&& (3 : Int32)) (j4_1 q0 own_k0 own_v0) (j4_2 q0 (((p3.toUInt32 >>> ((5 : Int32) &&& 31).toUInt32).toInt32) &&& (3 : Int32)) own_k0 own_v0)))) ((j4_2 (j0_1 q0 q1 q2 p3) (((p3.toUInt32 >>> ((9 : Int32) &&& 31).toUInt32).toInt32) &&& (4194303 : Int32)) (j4_1 (j0_0 q0 q1 p3) (j4_1 q0 own_k0 own_v0) (j4_2 q0 (((p3.toUInt32 >>> ((5 : Int32) &&& 31).toUInt32).toInt32) &&& (3 : Int32)) own_k0 own_v0)) (j4_2 (j0_0 q0 q1 p3) (((p3.toUInt32 >>> ((7 : Int32) &&& 31).toUInt32).toInt32) &&& (3 : Int32)) (j4_1 q0 own_k0 own_v0) (j4_2 q0 (((p3.toUInt32 >>> ((5 : Int32) &&& 31).toUInt32).toInt32) &&& (3 : Int32)) own_k0 own_v0)))) cy0543 cy1543 h719 n0 Z719 f720 f721 f722 f723 f724 f725 (own_K3 q0 _ (own_v3 p3 5) (j0_0 q0 q1 p3) _ (own_v3 p3 7) (j0_1 q0 q1 q2 p3) _ (own_v22 p3 9)).1 (own_K3 q0 _ (own_v3 p3 5) (j0_0 q0 q1 p3) _ (own_v3 p3 7) (j0_1 q0 q1 q2 p3) _ (own_v22 p3 9)).2.1 (own_K3 q0 _ (own_v3 p3 5) (j0_0 q0 q1 p3) _ (own_v3 p3 7) (j0_1 q0 q1 q2 p3) _ (own_v22 p3 9)).2.2) hZ (hw _ (List.mem_of_getElem? (i := 35) rfl)) (hw _ (List.mem_of_getElem? (i := 4) rfl)) (by decide) (by decide)) q733a q733c (g := (mkF m 132 L_559 [(.ref b536)])) rfl (by rw [hml]; rfl) (Steps.refl _) (argsL := []) (rest := []) (lenOf pd_6 rfl) rfl (by show 2 * 0 + _ ≤ _; exact Nat.le_of_eq rfl) (hb hby at_132) (fun _ _ => ⟨rfl, e719, (by decide : 4 + 1 ≤ _), (by decide : 38 + 3 ≤ _)⟩)
        dsimp only [Pt.U, Pt.locs, Pt.cells, Pt.slots] at X733 l733 y733 z733 st733 hQ733
        replace l733 := l733.symm
        subst l733 y733 z733
        obtain ⟨h733, e733⟩ : ∃ z, T733.heap = z := ⟨_, rfl⟩
        rw [e733] at hQ733
        obtain ⟨cx0733, cy0733, rfl, N733q, K733q, g_cx0733, zz_cx0733, f734⟩ := hQ733
        have f735 := f726.keep K733q nin0
        have f736 := f720.keep K733q
        have f737 := f721.keep K733q nin0
        have f738 := f722.keep K733q nin0
        have f739 := f723.keep K733q nin0
        have f740 := f724.keep K733q nin0
        have f741 := f725.keep K733q nin0
        have ne742 : b533 ≠ cx0733 := Nat.ne_of_lt (Nat.lt_of_lt_of_le f726.lt zz_cx0733)
        have ne743 : b536 ≠ cx0733 := Nat.ne_of_lt (Nat.lt_of_lt_of_le f720.lt zz_cx0733)
        have ne744 : cx0543 ≠ cx0733 := Nat.ne_of_lt (Nat.lt_of_lt_of_le f724.lt zz_cx0733)
        have ne745 : cx1543 ≠ cx0733 := Nat.ne_of_lt (Nat.lt_of_lt_of_le f725.lt zz_cx0733)
        have Z733 := Nat.le_trans Z719 K733q.1
        have N733 := Fr.app N719 N733q
        let L_746 : Array Slot := #[.val (.long q0), .second, .val (.long (j0_0 q0 q1 p3)), .second, .val (.long (j0_1 q0 q1 q2 p3)), .second, .val (.int p3), .val (.int (p3 &&& (3 : Int32))), .val (.int (((p3.toUInt32 >>> ((3 : Int32) &&& 31).toUInt32).toInt32) &&& (3 : Int32))), .val (.int (((p3.toUInt32 >>> ((5 : Int32) &&& 31).toUInt32).toInt32) &&& (3 : Int32))), .val (.int (((p3.toUInt32 >>> ((7 : Int32) &&& 31).toUInt32).toInt32) &&& (3 : Int32))), .val (.int (((p3.toUInt32 >>> ((9 : Int32) &&& 31).toUInt32).toInt32) &&& (4194303 : Int32))), .val (.ref b533), .val (.ref b536), .val (.ref cx0733), .unset]
        let L_747 : Array Slot := #[.val (.long q0), .second, .val (.long (j0_0 q0 q1 p3)), .second, .val (.long (j0_1 q0 q1 q2 p3)), .second, .val (.int p3), .val (.int (p3 &&& (3 : Int32))), .val (.int (((p3.toUInt32 >>> ((3 : Int32) &&& 31).toUInt32).toInt32) &&& (3 : Int32))), .val (.int (((p3.toUInt32 >>> ((5 : Int32) &&& 31).toUInt32).toInt32) &&& (3 : Int32))), .val (.int (((p3.toUInt32 >>> ((7 : Int32) &&& 31).toUInt32).toInt32) &&& (3 : Int32))), .val (.int (((p3.toUInt32 >>> ((9 : Int32) &&& 31).toUInt32).toInt32) &&& (4194303 : Int32))), .val (.ref b533), .val (.ref b536), .val (.ref cx0733), .val (.int (0 : Int32))]
        obtain ⟨cl748, Ar748, q748, S748, M748, H748, G748⟩ := id f735
        have hin749 : ¬ ((0 : Int32) < 0 ∨ cl748.slots.size ≤ ((0 : Int32)).toNatClampNeg) := inb_of S748 ⟨by decide, by decide⟩
        obtain ⟨T750, h750, X750, e750, W750, st750⟩ := stJ X733 hx hZ e733 Ar748 (j := (0 : Int32)) hin749 (g := (mkF m 151 L_747 [(.long q0), (.int (0 : Int32)), (.ref b533)])) rfl rfl (hb hby at_151)
        have V750 : Arv Z h750 b533 k533 .long (3 : Int32) [(.long q0), (.long (0 : Int64)), (.long (0 : Int64))] (.long (0 : Int64)) := Arv.set Ar748 q748 S748 M748 H748 G748 rfl W750 0 rfl (Nat.le_of_ble_eq_true rfl)
        have f752 := f736.wr W750
        have f753 := f737.other W750 (Or.inl (Ne.symm ne538))
        have f754 := f738.other W750 (Or.inl (Ne.symm ne538))
        have f755 := f739.other W750 (Or.inl (Ne.symm ne538))
        have f756 := f740.other W750 (Ne.symm ne555)
        have f757 := f741.other W750 (Ne.symm ne557)
        have f758 := f734.other W750 (Ne.symm ne742)
        have Z759 := Nat.le_trans Z733 (Keep.of_wr W750).1
        have N760 := Fr.snoc X750 N733 g_b533
        let L_761 : Array Slot := #[.val (.long q0), .second, .val (.long (j0_0 q0 q1 p3)), .second, .val (.long (j0_1 q0 q1 q2 p3)), .second, .val (.int p3), .val (.int (p3 &&& (3 : Int32))), .val (.int (((p3.toUInt32 >>> ((3 : Int32) &&& 31).toUInt32).toInt32) &&& (3 : Int32))), .val (.int (((p3.toUInt32 >>> ((5 : Int32) &&& 31).toUInt32).toInt32) &&& (3 : Int32))), .val (.int (((p3.toUInt32 >>> ((7 : Int32) &&& 31).toUInt32).toInt32) &&& (3 : Int32))), .val (.int (((p3.toUInt32 >>> ((9 : Int32) &&& 31).toUInt32).toInt32) &&& (4194303 : Int32))), .val (.ref b533), .val (.ref b536), .val (.ref cx0733), .val (.int (1 : Int32))]
        have pre763 := fun (t : State) (k : Steps p.tables e below (T750.setTop (mkF m 167 L_761 [(.int (lcmpW (j0_0 q0 q1 p3) q0))])) t) => pre649 t (by
          show Steps p.tables e below (T634.setTop (mkF m 118 L_559 [(.int (3 : Int32)), (.int (p3 &&& (3 : Int32)))])) _
          refine XS.icmpNo X634.here hx rfl (hb hby at_118) rfl (flt hc648).1 ?_
          show Steps p.tables e below (T634.setTop (mkF m 121 L_559 [])) _
          refine XS.aload X634.here hx rfl (hb hby at_121) rfl rfl ?_
          show Steps p.tables e below (T634.setTop (mkF m 123 L_559 [(.ref b536)])) _
          refine XS.lload X634.here hx rfl (hb hby at_123) rfl ?_
          show Steps p.tables e below (T634.setTop (mkF m 125 L_559 [(.long (j0_1 q0 q1 q2 p3)), (.ref b536)])) _
          refine XS.iload X634.here hx rfl (hb hby at_125) rfl ?_
          show Steps p.tables e below (T634.setTop (mkF m 127 L_559 [(.int (((p3.toUInt32 >>> ((9 : Int32) &&& 31).toUInt32).toInt32) &&& (4194303 : Int32))), (.long (j0_1 q0 q1 q2 p3)), (.ref b536)])) _
          refine st719.trans ?_
          show Steps p.tables e below (T719.setTop (mkF m 130 L_559 [])) _
          refine XS.aload X719.here hx rfl (hb hby at_130) rfl rfl ?_
          show Steps p.tables e below (T719.setTop (mkF m 132 L_559 [(.ref b536)])) _
          refine st733.trans ?_
          show Steps p.tables e below (T733.setTop (mkF m 135 L_559 [(.ref cx0733)])) _
          refine XS.astore X733.here hx rfl (hb hby at_135) rfl rfl (l' := L_746) rfl ?_
          show Steps p.tables e below (T733.setTop (mkF m 137 L_746 [])) _
          refine XS.iconst X733.here hx rfl (hb hby at_137) ?_
          show Steps p.tables e below (T733.setTop (mkF m 138 L_746 [(.int (0 : Int32))])) _
          refine XS.istore X733.here hx rfl (hb hby at_138) rfl (l' := L_747) rfl ?_
          show Steps p.tables e below (T733.setTop (mkF m 140 L_747 [])) _
          refine XS.iload X733.here hx rfl (hb hby at_140) rfl ?_
          show Steps p.tables e below (T733.setTop (mkF m 142 L_747 [(.int (p3 &&& (3 : Int32)))])) _
          refine XS.iconst X733.here hx rfl (hb hby at_142) ?_
          show Steps p.tables e below (T733.setTop (mkF m 143 L_747 [(.int (1 : Int32)), (.int (p3 &&& (3 : Int32)))])) _
          refine XS.icmpNo X733.here hx rfl (hb hby at_143) rfl (flt hc562).1 ?_
          show Steps p.tables e below (T733.setTop (mkF m 146 L_747 [])) _
          refine XS.aload X733.here hx rfl (hb hby at_146) rfl rfl ?_
          show Steps p.tables e below (T733.setTop (mkF m 148 L_747 [(.ref b533)])) _
          refine XS.iload X733.here hx rfl (hb hby at_148) rfl ?_
          show Steps p.tables e below (T733.setTop (mkF m 150 L_747 [(.int (0 : Int32)), (.ref b533)])) _
          refine XS.lloadN X733.here hx rfl (hb hby at_150) rfl ?_
          show Steps p.tables e below (T733.setTop (mkF m 151 L_747 [(.long q0), (.int (0 : Int32)), (.ref b533)])) _
          refine st750 _ ?_
          show Steps p.tables e below (T750.setTop (mkF m 152 L_747 [])) _
          refine XS.iload X750.here hx rfl (hb hby at_152) rfl ?_
          show Steps p.tables e below (T750.setTop (mkF m 154 L_747 [(.int (0 : Int32))])) _
          refine XS.iconst X750.here hx rfl (hb hby at_154) ?_
          show Steps p.tables e below (T750.setTop (mkF m 155 L_747 [(.int (1 : Int32)), (.int (0 : Int32))])) _
          refine XS.iadd X750.here hx rfl (hb hby at_155) rfl ?_
          show Steps p.tables e below (T750.setTop (mkF m 156 L_747 [(.int (1 : Int32))])) _
          refine XS.istore X750.here hx rfl (hb hby at_156) rfl (l' := L_761) rfl ?_
          show Steps p.tables e below (T750.setTop (mkF m 158 L_761 [])) _
          refine XS.iload X750.here hx rfl (hb hby at_158) rfl ?_
          show Steps p.tables e below (T750.setTop (mkF m 160 L_761 [(.int (p3 &&& (3 : Int32)))])) _
          refine XS.iconst X750.here hx rfl (hb hby at_160) ?_
          show Steps p.tables e below (T750.setTop (mkF m 161 L_761 [(.int (2 : Int32)), (.int (p3 &&& (3 : Int32)))])) _
          refine XS.icmpNo X750.here hx rfl (hb hby at_161) rfl (flt hc594).1 ?_
          show Steps p.tables e below (T750.setTop (mkF m 164 L_761 [])) _
          refine XS.lloadN X750.here hx rfl (hb hby at_164) rfl ?_
          show Steps p.tables e below (T750.setTop (mkF m 165 L_761 [(.long (j0_0 q0 q1 p3))])) _
          refine XS.lloadN X750.here hx rfl (hb hby at_165) rfl ?_
          show Steps p.tables e below (T750.setTop (mkF m 166 L_761 [(.long q0), (.long (j0_0 q0 q1 p3))])) _
          refine XS.lcmp X750.here hx rfl (hb hby at_166) rfl ?_
          exact k)
        by_cases hc762 : (j0_0 q0 q1 p3) = q0
        · skip
          have pre765 := fun (t : State) (k : Steps p.tables e below (T750.setTop (mkF m 192 L_761 [(.int (lcmpW (j0_1 q0 q1 q2 p3) q0))])) t) => pre763 t (by
            show Steps p.tables e below (T750.setTop (mkF m 167 L_761 [(.int (lcmpW (j0_0 q0 q1 p3) q0))])) _
            refine XS.ifYes X750.here hx rfl (pc0 := 167) (pc' := 182) rfl (hb hby at_167) rfl ((if0 _ _).trans (teq ((own_eq (j0_0 q0 q1 p3) q0).mpr hc762)).1) (by decide) (by decide) ?_
            show Steps p.tables e below (T750.setTop (mkF m 182 L_761 [])) _
            refine XS.iload X750.here hx rfl (hb hby at_182) rfl ?_
            show Steps p.tables e below (T750.setTop (mkF m 184 L_761 [(.int (p3 &&& (3 : Int32)))])) _
            refine XS.iconst X750.here hx rfl (hb hby at_184) ?_
            show Steps p.tables e below (T750.setTop (mkF m 185 L_761 [(.int (3 : Int32)), (.int (p3 &&& (3 : Int32)))])) _
            refine XS.icmpNo X750.here hx rfl (hb hby at_185) rfl (flt hc648).1 ?_
            show Steps p.tables e below (T750.setTop (mkF m 188 L_761 [])) _
            refine XS.lload X750.here hx rfl (hb hby at_188) rfl ?_
            show Steps p.tables e below (T750.setTop (mkF m 190 L_761 [(.long (j0_1 q0 q1 q2 p3))])) _
            refine XS.lloadN X750.here hx rfl (hb hby at_190) rfl ?_
            show Steps p.tables e below (T750.setTop (mkF m 191 L_761 [(.long q0), (.long (j0_1 q0 q1 q2 p3))])) _
            refine XS.lcmp X750.here hx rfl (hb hby at_191) rfl ?_
            exact k)
          by_cases hc764 : (j0_1 q0 q1 q2 p3) = q0
          · skip
            obtain ⟨cl766, Ar766, q766, S766, M766, H766, G766⟩ := id f758
            have pre768 := fun (t : State) (k : Steps p.tables e below (T750.setTop (mkF m 220 L_761 [(.int (1 : Int32)), (.int (j4_0 (j0_1 q0 q1 q2 p3) (j4_0 (j0_0 q0 q1 p3) (j4_0 q0 (0 : Int32) own_k0 own_v0) (j4_1 q0 own_k0 own_v0) (j4_2 q0 (((p3.toUInt32 >>> ((5 : Int32) &&& 31).toUInt32).toInt32) &&& (3 : Int32)) own_k0 own_v0)) (j4_1 (j0_0 q0 q1 p3) (j4_1 q0 own_k0 own_v0) (j4_2 q0 (((p3.toUInt32 >>> ((5 : Int32) &&& 31).toUInt32).toInt32) &&& (3 : Int32)) own_k0 own_v0)) (j4_2 (j0_0 q0 q1 p3) (((p3.toUInt32 >>> ((7 : Int32) &&& 31).toUInt32).toInt32) &&& (3 : Int32)) (j4_1 q0 own_k0 own_v0) (j4_2 q0 (((p3.toUInt32 >>> ((5 : Int32) &&& 31).toUInt32).toInt32) &&& (3 : Int32)) own_k0 own_v0))))])) t) => pre765 t (by
              show Steps p.tables e below (T750.setTop (mkF m 192 L_761 [(.int (lcmpW (j0_1 q0 q1 q2 p3) q0))])) _
              refine XS.ifYes X750.here hx rfl (pc0 := 192) (pc' := 215) rfl (hb hby at_192) rfl ((if0 _ _).trans (teq ((own_eq (j0_1 q0 q1 q2 p3) q0).mpr hc764)).1) (by decide) (by decide) ?_
              show Steps p.tables e below (T750.setTop (mkF m 215 L_761 [])) _
              refine XS.aload X750.here hx rfl (hb hby at_215) rfl rfl ?_
              show Steps p.tables e below (T750.setTop (mkF m 217 L_761 [(.ref cx0733)])) _
              refine X750.arraylength hx (by rw [e750]; exact Ar766.1) (State.isArrayOf_alike hZ.alike Ar766.2.1) (g := (mkF m 217 L_761 [(.ref cx0733)])) rfl rfl (hb hby at_217) _ ?_
              rw [len_of S766 M766]
              show Steps p.tables e below (T750.setTop (mkF m 218 L_761 [(.int (j4_0 (j0_1 q0 q1 q2 p3) (j4_0 (j0_0 q0 q1 p3) (j4_0 q0 (0 : Int32) own_k0 own_v0) (j4_1 q0 own_k0 own_v0) (j4_2 q0 (((p3.toUInt32 >>> ((5 : Int32) &&& 31).toUInt32).toInt32) &&& (3 : Int32)) own_k0 own_v0)) (j4_1 (j0_0 q0 q1 p3) (j4_1 q0 own_k0 own_v0) (j4_2 q0 (((p3.toUInt32 >>> ((5 : Int32) &&& 31).toUInt32).toInt32) &&& (3 : Int32)) own_k0 own_v0)) (j4_2 (j0_0 q0 q1 p3) (((p3.toUInt32 >>> ((7 : Int32) &&& 31).toUInt32).toInt32) &&& (3 : Int32)) (j4_1 q0 own_k0 own_v0) (j4_2 q0 (((p3.toUInt32 >>> ((5 : Int32) &&& 31).toUInt32).toInt32) &&& (3 : Int32)) own_k0 own_v0))))])) _
              refine XS.iload X750.here hx rfl (hb hby at_218) rfl ?_
              exact k)
            by_cases hc767 : (j4_0 (j0_1 q0 q1 q2 p3) (j4_0 (j0_0 q0 q1 p3) (j4_0 q0 (0 : Int32) own_k0 own_v0) (j4_1 q0 own_k0 own_v0) (j4_2 q0 (((p3.toUInt32 >>> ((5 : Int32) &&& 31).toUInt32).toInt32) &&& (3 : Int32)) own_k0 own_v0)) (j4_1 (j0_0 q0 q1 p3) (j4_1 q0 own_k0 own_v0) (j4_2 q0 (((p3.toUInt32 >>> ((5 : Int32) &&& 31).toUInt32).toInt32) &&& (3 : Int32)) own_k0 own_v0)) (j4_2 (j0_0 q0 q1 p3) (((p3.toUInt32 >>> ((7 : Int32) &&& 31).toUInt32).toInt32) &&& (3 : Int32)) (j4_1 q0 own_k0 own_v0) (j4_2 q0 (((p3.toUInt32 >>> ((5 : Int32) &&& 31).toUInt32).toInt32) &&& (3 : Int32)) own_k0 own_v0))) = (1 : Int32)
            · skip
              obtain ⟨cl769, Ar769, q769, S769, M769, H769, G769⟩ := id V750
              have hin770 : ¬ ((0 : Int32) < 0 ∨ cl769.slots.size ≤ ((0 : Int32)).toNatClampNeg) := inb_of S769 ⟨by decide, by decide⟩
              have hat771 : cl769.slots[((0 : Int32)).toNatClampNeg]? = some (.long q0) := H769.at hin770 rfl
              obtain ⟨_, _, ⟨T772, L772, k772, n772⟩, -, X772, ⟨Lc772, hQ772, l772, y772, z772⟩, st772⟩ := Jvm.LawKit.callS X750 hx (y := (⟨"com/example/pathfield/pathfield/query/LongIntMapKeysPinLaw", "has", "([JJ)Z"⟩ : MethodName)) hown (mvT hZ (hw _ (List.mem_of_getElem? (i := 36) rfl))) (mvT hZ (hw _ (List.mem_of_getElem? (i := 37) rfl))) (mvT hZ (hw _ (List.mem_of_getElem? (i := 38) rfl))) (mvT hZ (hw _ (List.mem_of_getElem? (i := 39) rfl))) (by decide) (backOf (W := 0) (rm7 l Z aw hw [] cx0733 q0 ((j4_0 (j0_1 q0 q1 q2 p3) (j4_0 (j0_0 q0 q1 p3) (j4_0 q0 (0 : Int32) own_k0 own_v0) (j4_1 q0 own_k0 own_v0) (j4_2 q0 (((p3.toUInt32 >>> ((5 : Int32) &&& 31).toUInt32).toInt32) &&& (3 : Int32)) own_k0 own_v0)) (j4_1 (j0_0 q0 q1 p3) (j4_1 q0 own_k0 own_v0) (j4_2 q0 (((p3.toUInt32 >>> ((5 : Int32) &&& 31).toUInt32).toInt32) &&& (3 : Int32)) own_k0 own_v0)) (j4_2 (j0_0 q0 q1 p3) (((p3.toUInt32 >>> ((7 : Int32) &&& 31).toUInt32).toInt32) &&& (3 : Int32)) (j4_1 q0 own_k0 own_v0) (j4_2 q0 (((p3.toUInt32 >>> ((5 : Int32) &&& 31).toUInt32).toInt32) &&& (3 : Int32)) own_k0 own_v0)))) ((own_res (j4_1 (j0_1 q0 q1 q2 p3) (j4_1 (j0_0 q0 q1 p3) (j4_1 q0 own_k0 own_v0) (j4_2 q0 (((p3.toUInt32 >>> ((5 : Int32) &&& 31).toUInt32).toInt32) &&& (3 : Int32)) own_k0 own_v0)) (j4_2 (j0_0 q0 q1 p3) (((p3.toUInt32 >>> ((7 : Int32) &&& 31).toUInt32).toInt32) &&& (3 : Int32)) (j4_1 q0 own_k0 own_v0) (j4_2 q0 (((p3.toUInt32 >>> ((5 : Int32) &&& 31).toUInt32).toInt32) &&& (3 : Int32)) own_k0 own_v0))) (j4_2 (j0_1 q0 q1 q2 p3) (((p3.toUInt32 >>> ((9 : Int32) &&& 31).toUInt32).toInt32) &&& (4194303 : Int32)) (j4_1 (j0_0 q0 q1 p3) (j4_1 q0 own_k0 own_v0) (j4_2 q0 (((p3.toUInt32 >>> ((5 : Int32) &&& 31).toUInt32).toInt32) &&& (3 : Int32)) own_k0 own_v0)) (j4_2 (j0_0 q0 q1 p3) (((p3.toUInt32 >>> ((7 : Int32) &&& 31).toUInt32).toInt32) &&& (3 : Int32)) (j4_1 q0 own_k0 own_v0) (j4_2 q0 (((p3.toUInt32 >>> ((5 : Int32) &&& 31).toUInt32).toInt32) &&& (3 : Int32)) own_k0 own_v0))) 16)) cy0733 h750 n0 Z759 f758) hZ (hw _ (List.mem_of_getElem? (i := 39) rfl)) (hw _ (List.mem_of_getElem? (i := 38) rfl)) (by decide) (by decide)) (g := (mkF m 237 L_761 [(.long q0), (.ref cx0733)])) rfl (by rw [hml]; rfl) (argsL := [(.ref cx0733), (.long q0)]) (rest := []) (lenOf pd_8 rfl) rfl (by show 2 * 0 + _ ≤ _; exact Nat.le_of_eq rfl) (hb hby at_237) (fun _ _ => ⟨rfl, e750, (by decide : 5 + 0 ≤ _), (by decide : 41 + 0 ≤ _)⟩)
              dsimp only [Pt.U, Pt.locs, Pt.cells, Pt.slots] at X772 l772 y772 z772 st772 hQ772
              replace l772 := l772.symm
              subst l772 y772 z772
              obtain ⟨rfl, N772q, e772⟩ := hQ772
              have N772 := Fr.app N760 N772q
              have pre774 := fun (t : State) (k : Steps p.tables e below (T772.setTop (mkF m 240 L_761 [(.int (nar .boolean (j7_0 q0 (j4_0 (j0_1 q0 q1 q2 p3) (j4_0 (j0_0 q0 q1 p3) (j4_0 q0 (0 : Int32) own_k0 own_v0) (j4_1 q0 own_k0 own_v0) (j4_2 q0 (((p3.toUInt32 >>> ((5 : Int32) &&& 31).toUInt32).toInt32) &&& (3 : Int32)) own_k0 own_v0)) (j4_1 (j0_0 q0 q1 p3) (j4_1 q0 own_k0 own_v0) (j4_2 q0 (((p3.toUInt32 >>> ((5 : Int32) &&& 31).toUInt32).toInt32) &&& (3 : Int32)) own_k0 own_v0)) (j4_2 (j0_0 q0 q1 p3) (((p3.toUInt32 >>> ((7 : Int32) &&& 31).toUInt32).toInt32) &&& (3 : Int32)) (j4_1 q0 own_k0 own_v0) (j4_2 q0 (((p3.toUInt32 >>> ((5 : Int32) &&& 31).toUInt32).toInt32) &&& (3 : Int32)) own_k0 own_v0))) (own_res (j4_1 (j0_1 q0 q1 q2 p3) (j4_1 (j0_0 q0 q1 p3) (j4_1 q0 own_k0 own_v0) (j4_2 q0 (((p3.toUInt32 >>> ((5 : Int32) &&& 31).toUInt32).toInt32) &&& (3 : Int32)) own_k0 own_v0)) (j4_2 (j0_0 q0 q1 p3) (((p3.toUInt32 >>> ((7 : Int32) &&& 31).toUInt32).toInt32) &&& (3 : Int32)) (j4_1 q0 own_k0 own_v0) (j4_2 q0 (((p3.toUInt32 >>> ((5 : Int32) &&& 31).toUInt32).toInt32) &&& (3 : Int32)) own_k0 own_v0))) (j4_2 (j0_1 q0 q1 q2 p3) (((p3.toUInt32 >>> ((9 : Int32) &&& 31).toUInt32).toInt32) &&& (4194303 : Int32)) (j4_1 (j0_0 q0 q1 p3) (j4_1 q0 own_k0 own_v0) (j4_2 q0 (((p3.toUInt32 >>> ((5 : Int32) &&& 31).toUInt32).toInt32) &&& (3 : Int32)) own_k0 own_v0)) (j4_2 (j0_0 q0 q1 p3) (((p3.toUInt32 >>> ((7 : Int32) &&& 31).toUInt32).toInt32) &&& (3 : Int32)) (j4_1 q0 own_k0 own_v0) (j4_2 q0 (((p3.toUInt32 >>> ((5 : Int32) &&& 31).toUInt32).toInt32) &&& (3 : Int32)) own_k0 own_v0))) 16))))])) t) => pre768 t (by
                show Steps p.tables e below (T750.setTop (mkF m 220 L_761 [(.int (1 : Int32)), (.int (j4_0 (j0_1 q0 q1 q2 p3) (j4_0 (j0_0 q0 q1 p3) (j4_0 q0 (0 : Int32) own_k0 own_v0) (j4_1 q0 own_k0 own_v0) (j4_2 q0 (((p3.toUInt32 >>> ((5 : Int32) &&& 31).toUInt32).toInt32) &&& (3 : Int32)) own_k0 own_v0)) (j4_1 (j0_0 q0 q1 p3) (j4_1 q0 own_k0 own_v0) (j4_2 q0 (((p3.toUInt32 >>> ((5 : Int32) &&& 31).toUInt32).toInt32) &&& (3 : Int32)) own_k0 own_v0)) (j4_2 (j0_0 q0 q1 p3) (((p3.toUInt32 >>> ((7 : Int32) &&& 31).toUInt32).toInt32) &&& (3 : Int32)) (j4_1 q0 own_k0 own_v0) (j4_2 q0 (((p3.toUInt32 >>> ((5 : Int32) &&& 31).toUInt32).toInt32) &&& (3 : Int32)) own_k0 own_v0))))])) _
                refine XS.icmpYes X750.here hx rfl (pc0 := 220) (pc' := 225) rfl (hb hby at_220) rfl (teq hc767).1 (by decide) (by decide) ?_
                show Steps p.tables e below (T750.setTop (mkF m 225 L_761 [])) _
                refine XS.iload X750.here hx rfl (hb hby at_225) rfl ?_
                show Steps p.tables e below (T750.setTop (mkF m 227 L_761 [(.int (1 : Int32))])) _
                refine XS.iconst X750.here hx rfl (hb hby at_227) ?_
                show Steps p.tables e below (T750.setTop (mkF m 228 L_761 [(.int (1 : Int32)), (.int (1 : Int32))])) _
                refine XS.icmpNo X750.here hx rfl (hb hby at_228) rfl (flt (by decide : ¬ ((1 : Int32) < (1 : Int32)))).1 ?_
                show Steps p.tables e below (T750.setTop (mkF m 231 L_761 [])) _
                refine XS.aload X750.here hx rfl (hb hby at_231) rfl rfl ?_
                show Steps p.tables e below (T750.setTop (mkF m 233 L_761 [(.ref cx0733)])) _
                refine XS.aload X750.here hx rfl (hb hby at_233) rfl rfl ?_
                show Steps p.tables e below (T750.setTop (mkF m 235 L_761 [(.ref b533), (.ref cx0733)])) _
                refine XS.iconst X750.here hx rfl (hb hby at_235) ?_
                show Steps p.tables e below (T750.setTop (mkF m 236 L_761 [(.int (0 : Int32)), (.ref b533), (.ref cx0733)])) _
                refine X750.laload hx (j := (0 : Int32)) (v := (.long q0)) (by rw [e750]; exact Ar769.1) (State.isArrayOf_alike hZ.alike Ar769.2.1) Ar769.2.2 hin770 hat771 (g := (mkF m 236 L_761 [(.int (0 : Int32)), (.ref b533), (.ref cx0733)])) rfl rfl (hb hby at_236) _ ?_
                show Steps p.tables e below (T750.setTop (mkF m 237 L_761 [(.long q0), (.ref cx0733)])) _
                refine st772 _ ?_
                exact k)
              by_cases hc773 : (nar .boolean (j7_0 q0 (j4_0 (j0_1 q0 q1 q2 p3) (j4_0 (j0_0 q0 q1 p3) (j4_0 q0 (0 : Int32) own_k0 own_v0) (j4_1 q0 own_k0 own_v0) (j4_2 q0 (((p3.toUInt32 >>> ((5 : Int32) &&& 31).toUInt32).toInt32) &&& (3 : Int32)) own_k0 own_v0)) (j4_1 (j0_0 q0 q1 p3) (j4_1 q0 own_k0 own_v0) (j4_2 q0 (((p3.toUInt32 >>> ((5 : Int32) &&& 31).toUInt32).toInt32) &&& (3 : Int32)) own_k0 own_v0)) (j4_2 (j0_0 q0 q1 p3) (((p3.toUInt32 >>> ((7 : Int32) &&& 31).toUInt32).toInt32) &&& (3 : Int32)) (j4_1 q0 own_k0 own_v0) (j4_2 q0 (((p3.toUInt32 >>> ((5 : Int32) &&& 31).toUInt32).toInt32) &&& (3 : Int32)) own_k0 own_v0))) (own_res (j4_1 (j0_1 q0 q1 q2 p3) (j4_1 (j0_0 q0 q1 p3) (j4_1 q0 own_k0 own_v0) (j4_2 q0 (((p3.toUInt32 >>> ((5 : Int32) &&& 31).toUInt32).toInt32) &&& (3 : Int32)) own_k0 own_v0)) (j4_2 (j0_0 q0 q1 p3) (((p3.toUInt32 >>> ((7 : Int32) &&& 31).toUInt32).toInt32) &&& (3 : Int32)) (j4_1 q0 own_k0 own_v0) (j4_2 q0 (((p3.toUInt32 >>> ((5 : Int32) &&& 31).toUInt32).toInt32) &&& (3 : Int32)) own_k0 own_v0))) (j4_2 (j0_1 q0 q1 q2 p3) (((p3.toUInt32 >>> ((9 : Int32) &&& 31).toUInt32).toInt32) &&& (4194303 : Int32)) (j4_1 (j0_0 q0 q1 p3) (j4_1 q0 own_k0 own_v0) (j4_2 q0 (((p3.toUInt32 >>> ((5 : Int32) &&& 31).toUInt32).toInt32) &&& (3 : Int32)) own_k0 own_v0)) (j4_2 (j0_0 q0 q1 p3) (((p3.toUInt32 >>> ((7 : Int32) &&& 31).toUInt32).toInt32) &&& (3 : Int32)) (j4_1 q0 own_k0 own_v0) (j4_2 q0 (((p3.toUInt32 >>> ((5 : Int32) &&& 31).toUInt32).toInt32) &&& (3 : Int32)) own_k0 own_v0))) 16))) = (0 : Int32)
              · skip
                obtain ⟨fs, hr, hrun, hended, hW, hsame⟩ := X772.leave (v := some (.int (0 : Int32))) (fun h => by rw [Bd.returns] at h; cases h) (BodyLoose.notSynchronized Bd)
                refine ⟨_, _, pre774 _ ?_, hrun, hended, _, _, rfl, ?_, ⟨_, rfl⟩, hW, hsame.mono (by decide) (by decide)⟩
                · skip
                  show Steps p.tables e below (T772.setTop (mkF m 240 L_761 [(.int (nar .boolean (j7_0 q0 (j4_0 (j0_1 q0 q1 q2 p3) (j4_0 (j0_0 q0 q1 p3) (j4_0 q0 (0 : Int32) own_k0 own_v0) (j4_1 q0 own_k0 own_v0) (j4_2 q0 (((p3.toUInt32 >>> ((5 : Int32) &&& 31).toUInt32).toInt32) &&& (3 : Int32)) own_k0 own_v0)) (j4_1 (j0_0 q0 q1 p3) (j4_1 q0 own_k0 own_v0) (j4_2 q0 (((p3.toUInt32 >>> ((5 : Int32) &&& 31).toUInt32).toInt32) &&& (3 : Int32)) own_k0 own_v0)) (j4_2 (j0_0 q0 q1 p3) (((p3.toUInt32 >>> ((7 : Int32) &&& 31).toUInt32).toInt32) &&& (3 : Int32)) (j4_1 q0 own_k0 own_v0) (j4_2 q0 (((p3.toUInt32 >>> ((5 : Int32) &&& 31).toUInt32).toInt32) &&& (3 : Int32)) own_k0 own_v0))) (own_res (j4_1 (j0_1 q0 q1 q2 p3) (j4_1 (j0_0 q0 q1 p3) (j4_1 q0 own_k0 own_v0) (j4_2 q0 (((p3.toUInt32 >>> ((5 : Int32) &&& 31).toUInt32).toInt32) &&& (3 : Int32)) own_k0 own_v0)) (j4_2 (j0_0 q0 q1 p3) (((p3.toUInt32 >>> ((7 : Int32) &&& 31).toUInt32).toInt32) &&& (3 : Int32)) (j4_1 q0 own_k0 own_v0) (j4_2 q0 (((p3.toUInt32 >>> ((5 : Int32) &&& 31).toUInt32).toInt32) &&& (3 : Int32)) own_k0 own_v0))) (j4_2 (j0_1 q0 q1 q2 p3) (((p3.toUInt32 >>> ((9 : Int32) &&& 31).toUInt32).toInt32) &&& (4194303 : Int32)) (j4_1 (j0_0 q0 q1 p3) (j4_1 q0 own_k0 own_v0) (j4_2 q0 (((p3.toUInt32 >>> ((5 : Int32) &&& 31).toUInt32).toInt32) &&& (3 : Int32)) own_k0 own_v0)) (j4_2 (j0_0 q0 q1 p3) (((p3.toUInt32 >>> ((7 : Int32) &&& 31).toUInt32).toInt32) &&& (3 : Int32)) (j4_1 q0 own_k0 own_v0) (j4_2 q0 (((p3.toUInt32 >>> ((5 : Int32) &&& 31).toUInt32).toInt32) &&& (3 : Int32)) own_k0 own_v0))) 16))))])) _
                  refine XS.ifNo X772.here hx rfl (hb hby at_240) rfl ((if0 _ _).trans (teq hc773).2) ?_
                  show Steps p.tables e below (T772.setTop (mkF m 243 L_761 [])) _
                  refine XS.iconst X772.here hx rfl (hb hby at_243) ?_
                  show Steps p.tables e below (T772.setTop (mkF m 244 L_761 [(.int (0 : Int32))])) _
                  exact retN X772 hx (t := .boolean) Bd.returns (by simp) (hb hby at_244) hr
                · show Q0 Z q0 q1 q2 p3 h0 n0 _ T772.heap _
                  rw [e772]
                  have hv : (0 : Int32) = (v0 q0 q1 q2 p3) := by first | exact ((if_neg hc562).trans ((if_neg hc594).trans ((if_neg hc648).trans ((if_pos hc762).trans ((if_pos hc764).trans ((if_pos hc767).trans (if_pos hc773))))))).symm | (unfold v0; first | (rw [if_neg hc562, if_neg hc594, if_neg hc648, if_pos hc762, if_pos hc764, if_pos hc767, if_pos hc773]) | (simp only [if_neg hc562, if_neg hc594, if_neg hc648, if_pos hc762, if_pos hc764, if_pos hc767, if_pos hc773]))
                  exact ⟨(by rw [← hv]), N772⟩
              · skip
                obtain ⟨fs, hr, hrun, hended, hW, hsame⟩ := X772.leave (v := some (.int (1 : Int32))) (fun h => by rw [Bd.returns] at h; cases h) (BodyLoose.notSynchronized Bd)
                refine ⟨_, _, pre774 _ ?_, hrun, hended, _, _, rfl, ?_, ⟨_, rfl⟩, hW, hsame.mono (by decide) (by decide)⟩
                · skip
                  show Steps p.tables e below (T772.setTop (mkF m 240 L_761 [(.int (nar .boolean (j7_0 q0 (j4_0 (j0_1 q0 q1 q2 p3) (j4_0 (j0_0 q0 q1 p3) (j4_0 q0 (0 : Int32) own_k0 own_v0) (j4_1 q0 own_k0 own_v0) (j4_2 q0 (((p3.toUInt32 >>> ((5 : Int32) &&& 31).toUInt32).toInt32) &&& (3 : Int32)) own_k0 own_v0)) (j4_1 (j0_0 q0 q1 p3) (j4_1 q0 own_k0 own_v0) (j4_2 q0 (((p3.toUInt32 >>> ((5 : Int32) &&& 31).toUInt32).toInt32) &&& (3 : Int32)) own_k0 own_v0)) (j4_2 (j0_0 q0 q1 p3) (((p3.toUInt32 >>> ((7 : Int32) &&& 31).toUInt32).toInt32) &&& (3 : Int32)) (j4_1 q0 own_k0 own_v0) (j4_2 q0 (((p3.toUInt32 >>> ((5 : Int32) &&& 31).toUInt32).toInt32) &&& (3 : Int32)) own_k0 own_v0))) (own_res (j4_1 (j0_1 q0 q1 q2 p3) (j4_1 (j0_0 q0 q1 p3) (j4_1 q0 own_k0 own_v0) (j4_2 q0 (((p3.toUInt32 >>> ((5 : Int32) &&& 31).toUInt32).toInt32) &&& (3 : Int32)) own_k0 own_v0)) (j4_2 (j0_0 q0 q1 p3) (((p3.toUInt32 >>> ((7 : Int32) &&& 31).toUInt32).toInt32) &&& (3 : Int32)) (j4_1 q0 own_k0 own_v0) (j4_2 q0 (((p3.toUInt32 >>> ((5 : Int32) &&& 31).toUInt32).toInt32) &&& (3 : Int32)) own_k0 own_v0))) (j4_2 (j0_1 q0 q1 q2 p3) (((p3.toUInt32 >>> ((9 : Int32) &&& 31).toUInt32).toInt32) &&& (4194303 : Int32)) (j4_1 (j0_0 q0 q1 p3) (j4_1 q0 own_k0 own_v0) (j4_2 q0 (((p3.toUInt32 >>> ((5 : Int32) &&& 31).toUInt32).toInt32) &&& (3 : Int32)) own_k0 own_v0)) (j4_2 (j0_0 q0 q1 p3) (((p3.toUInt32 >>> ((7 : Int32) &&& 31).toUInt32).toInt32) &&& (3 : Int32)) (j4_1 q0 own_k0 own_v0) (j4_2 q0 (((p3.toUInt32 >>> ((5 : Int32) &&& 31).toUInt32).toInt32) &&& (3 : Int32)) own_k0 own_v0))) 16))))])) _
                  refine XS.ifYes X772.here hx rfl (pc0 := 240) (pc' := 245) rfl (hb hby at_240) rfl ((if0 _ _).trans (feq hc773).2) (by decide) (by decide) ?_
                  show Steps p.tables e below (T772.setTop (mkF m 245 L_761 [])) _
                  refine XS.iload X772.here hx rfl (hb hby at_245) rfl ?_
                  show Steps p.tables e below (T772.setTop (mkF m 247 L_761 [(.int (1 : Int32))])) _
                  refine XS.iconst X772.here hx rfl (hb hby at_247) ?_
                  show Steps p.tables e below (T772.setTop (mkF m 248 L_761 [(.int (2 : Int32)), (.int (1 : Int32))])) _
                  refine XS.icmpYes X772.here hx rfl (pc0 := 248) (pc' := 265) rfl (hb hby at_248) rfl (tlt (by decide : (1 : Int32) < (2 : Int32))).1 (by decide) (by decide) ?_
                  show Steps p.tables e below (T772.setTop (mkF m 265 L_761 [])) _
                  refine XS.iload X772.here hx rfl (hb hby at_265) rfl ?_
                  show Steps p.tables e below (T772.setTop (mkF m 267 L_761 [(.int (1 : Int32))])) _
                  refine XS.iconst X772.here hx rfl (hb hby at_267) ?_
                  show Steps p.tables e below (T772.setTop (mkF m 268 L_761 [(.int (3 : Int32)), (.int (1 : Int32))])) _
                  refine XS.icmpYes X772.here hx rfl (pc0 := 268) (pc' := 285) rfl (hb hby at_268) rfl (tlt (by decide : (1 : Int32) < (3 : Int32))).1 (by decide) (by decide) ?_
                  show Steps p.tables e below (T772.setTop (mkF m 285 L_761 [])) _
                  refine XS.iconst X772.here hx rfl (hb hby at_285) ?_
                  show Steps p.tables e below (T772.setTop (mkF m 286 L_761 [(.int (1 : Int32))])) _
                  exact retN X772 hx (t := .boolean) Bd.returns (by simp) (hb hby at_286) hr
                · show Q0 Z q0 q1 q2 p3 h0 n0 _ T772.heap _
                  rw [e772]
                  have hv : (1 : Int32) = (v0 q0 q1 q2 p3) := by first | exact ((if_neg hc562).trans ((if_neg hc594).trans ((if_neg hc648).trans ((if_pos hc762).trans ((if_pos hc764).trans ((if_pos hc767).trans (if_neg hc773))))))).symm | (unfold v0; first | (rw [if_neg hc562, if_neg hc594, if_neg hc648, if_pos hc762, if_pos hc764, if_pos hc767, if_neg hc773]) | (simp only [if_neg hc562, if_neg hc594, if_neg hc648, if_pos hc762, if_pos hc764, if_pos hc767, if_neg hc773]))
                  exact ⟨(by rw [← hv]), N772⟩
            · skip
              obtain ⟨fs, hr, hrun, hended, hW, hsame⟩ := X750.leave (v := some (.int (0 : Int32))) (fun h => by rw [Bd.returns] at h; cases h) (BodyLoose.notSynchronized Bd)
              refine ⟨_, _, pre768 _ ?_, hrun, hended, _, _, rfl, ?_, ⟨_, rfl⟩, hW, hsame.mono (by decide) (by decide)⟩
              · skip
                show Steps p.tables e below (T750.setTop (mkF m 220 L_761 [(.int (1 : Int32)), (.int (j4_0 (j0_1 q0 q1 q2 p3) (j4_0 (j0_0 q0 q1 p3) (j4_0 q0 (0 : Int32) own_k0 own_v0) (j4_1 q0 own_k0 own_v0) (j4_2 q0 (((p3.toUInt32 >>> ((5 : Int32) &&& 31).toUInt32).toInt32) &&& (3 : Int32)) own_k0 own_v0)) (j4_1 (j0_0 q0 q1 p3) (j4_1 q0 own_k0 own_v0) (j4_2 q0 (((p3.toUInt32 >>> ((5 : Int32) &&& 31).toUInt32).toInt32) &&& (3 : Int32)) own_k0 own_v0)) (j4_2 (j0_0 q0 q1 p3) (((p3.toUInt32 >>> ((7 : Int32) &&& 31).toUInt32).toInt32) &&& (3 : Int32)) (j4_1 q0 own_k0 own_v0) (j4_2 q0 (((p3.toUInt32 >>> ((5 : Int32) &&& 31).toUInt32).toInt32) &&& (3 : Int32)) own_k0 own_v0))))])) _
                refine XS.icmpNo X750.here hx rfl (hb hby at_220) rfl (feq hc767).1 ?_
                show Steps p.tables e below (T750.setTop (mkF m 223 L_761 [])) _
                refine XS.iconst X750.here hx rfl (hb hby at_223) ?_
                show Steps p.tables e below (T750.setTop (mkF m 224 L_761 [(.int (0 : Int32))])) _
                exact retN X750 hx (t := .boolean) Bd.returns (by simp) (hb hby at_224) hr
              · show Q0 Z q0 q1 q2 p3 h0 n0 _ T750.heap _
                rw [e750]
                have hv : (0 : Int32) = (v0 q0 q1 q2 p3) := by first | exact ((if_neg hc562).trans ((if_neg hc594).trans ((if_neg hc648).trans ((if_pos hc762).trans ((if_pos hc764).trans (if_neg hc767)))))).symm | (unfold v0; first | (rw [if_neg hc562, if_neg hc594, if_neg hc648, if_pos hc762, if_pos hc764, if_neg hc767]) | (simp only [if_neg hc562, if_neg hc594, if_neg hc648, if_pos hc762, if_pos hc764, if_neg hc767]))
                exact ⟨(by rw [← hv]), N760⟩
          · skip
            have pre776 := fun (t : State) (k : Steps p.tables e below (T750.setTop (mkF m 199 L_761 [(.int (lcmpW (j0_1 q0 q1 q2 p3) (j0_0 q0 q1 p3)))])) t) => pre765 t (by
              show Steps p.tables e below (T750.setTop (mkF m 192 L_761 [(.int (lcmpW (j0_1 q0 q1 q2 p3) q0))])) _
              refine XS.ifNo X750.here hx rfl (hb hby at_192) rfl ((if0 _ _).trans (feq (mt (own_eq (j0_1 q0 q1 q2 p3) q0).mp hc764)).1) ?_
              show Steps p.tables e below (T750.setTop (mkF m 195 L_761 [])) _
              refine XS.lload X750.here hx rfl (hb hby at_195) rfl ?_
              show Steps p.tables e below (T750.setTop (mkF m 197 L_761 [(.long (j0_1 q0 q1 q2 p3))])) _
              refine XS.lloadN X750.here hx rfl (hb hby at_197) rfl ?_
              show Steps p.tables e below (T750.setTop (mkF m 198 L_761 [(.long (j0_0 q0 q1 p3)), (.long (j0_1 q0 q1 q2 p3))])) _
              refine XS.lcmp X750.here hx rfl (hb hby at_198) rfl ?_
              exact k)
            by_cases hc775 : (j0_1 q0 q1 q2 p3) = (j0_0 q0 q1 p3)
            · skip
              obtain ⟨cl777, Ar777, q777, S777, M777, H777, G777⟩ := id f758
              have pre779 := fun (t : State) (k : Steps p.tables e below (T750.setTop (mkF m 220 L_761 [(.int (1 : Int32)), (.int (j4_0 (j0_1 q0 q1 q2 p3) (j4_0 (j0_0 q0 q1 p3) (j4_0 q0 (0 : Int32) own_k0 own_v0) (j4_1 q0 own_k0 own_v0) (j4_2 q0 (((p3.toUInt32 >>> ((5 : Int32) &&& 31).toUInt32).toInt32) &&& (3 : Int32)) own_k0 own_v0)) (j4_1 (j0_0 q0 q1 p3) (j4_1 q0 own_k0 own_v0) (j4_2 q0 (((p3.toUInt32 >>> ((5 : Int32) &&& 31).toUInt32).toInt32) &&& (3 : Int32)) own_k0 own_v0)) (j4_2 (j0_0 q0 q1 p3) (((p3.toUInt32 >>> ((7 : Int32) &&& 31).toUInt32).toInt32) &&& (3 : Int32)) (j4_1 q0 own_k0 own_v0) (j4_2 q0 (((p3.toUInt32 >>> ((5 : Int32) &&& 31).toUInt32).toInt32) &&& (3 : Int32)) own_k0 own_v0))))])) t) => pre776 t (by
                show Steps p.tables e below (T750.setTop (mkF m 199 L_761 [(.int (lcmpW (j0_1 q0 q1 q2 p3) (j0_0 q0 q1 p3)))])) _
                refine XS.ifYes X750.here hx rfl (pc0 := 199) (pc' := 215) rfl (hb hby at_199) rfl ((if0 _ _).trans (teq ((own_eq (j0_1 q0 q1 q2 p3) (j0_0 q0 q1 p3)).mpr hc775)).1) (by decide) (by decide) ?_
                show Steps p.tables e below (T750.setTop (mkF m 215 L_761 [])) _
                refine XS.aload X750.here hx rfl (hb hby at_215) rfl rfl ?_
                show Steps p.tables e below (T750.setTop (mkF m 217 L_761 [(.ref cx0733)])) _
                refine X750.arraylength hx (by rw [e750]; exact Ar777.1) (State.isArrayOf_alike hZ.alike Ar777.2.1) (g := (mkF m 217 L_761 [(.ref cx0733)])) rfl rfl (hb hby at_217) _ ?_
                rw [len_of S777 M777]
                show Steps p.tables e below (T750.setTop (mkF m 218 L_761 [(.int (j4_0 (j0_1 q0 q1 q2 p3) (j4_0 (j0_0 q0 q1 p3) (j4_0 q0 (0 : Int32) own_k0 own_v0) (j4_1 q0 own_k0 own_v0) (j4_2 q0 (((p3.toUInt32 >>> ((5 : Int32) &&& 31).toUInt32).toInt32) &&& (3 : Int32)) own_k0 own_v0)) (j4_1 (j0_0 q0 q1 p3) (j4_1 q0 own_k0 own_v0) (j4_2 q0 (((p3.toUInt32 >>> ((5 : Int32) &&& 31).toUInt32).toInt32) &&& (3 : Int32)) own_k0 own_v0)) (j4_2 (j0_0 q0 q1 p3) (((p3.toUInt32 >>> ((7 : Int32) &&& 31).toUInt32).toInt32) &&& (3 : Int32)) (j4_1 q0 own_k0 own_v0) (j4_2 q0 (((p3.toUInt32 >>> ((5 : Int32) &&& 31).toUInt32).toInt32) &&& (3 : Int32)) own_k0 own_v0))))])) _
                refine XS.iload X750.here hx rfl (hb hby at_218) rfl ?_
                exact k)
              by_cases hc778 : (j4_0 (j0_1 q0 q1 q2 p3) (j4_0 (j0_0 q0 q1 p3) (j4_0 q0 (0 : Int32) own_k0 own_v0) (j4_1 q0 own_k0 own_v0) (j4_2 q0 (((p3.toUInt32 >>> ((5 : Int32) &&& 31).toUInt32).toInt32) &&& (3 : Int32)) own_k0 own_v0)) (j4_1 (j0_0 q0 q1 p3) (j4_1 q0 own_k0 own_v0) (j4_2 q0 (((p3.toUInt32 >>> ((5 : Int32) &&& 31).toUInt32).toInt32) &&& (3 : Int32)) own_k0 own_v0)) (j4_2 (j0_0 q0 q1 p3) (((p3.toUInt32 >>> ((7 : Int32) &&& 31).toUInt32).toInt32) &&& (3 : Int32)) (j4_1 q0 own_k0 own_v0) (j4_2 q0 (((p3.toUInt32 >>> ((5 : Int32) &&& 31).toUInt32).toInt32) &&& (3 : Int32)) own_k0 own_v0))) = (1 : Int32)
              · skip
                obtain ⟨cl780, Ar780, q780, S780, M780, H780, G780⟩ := id V750
                have hin781 : ¬ ((0 : Int32) < 0 ∨ cl780.slots.size ≤ ((0 : Int32)).toNatClampNeg) := inb_of S780 ⟨by decide, by decide⟩
                have hat782 : cl780.slots[((0 : Int32)).toNatClampNeg]? = some (.long q0) := H780.at hin781 rfl
                obtain ⟨_, _, ⟨T783, L783, k783, n783⟩, -, X783, ⟨Lc783, hQ783, l783, y783, z783⟩, st783⟩ := Jvm.LawKit.callS X750 hx (y := (⟨"com/example/pathfield/pathfield/query/LongIntMapKeysPinLaw", "has", "([JJ)Z"⟩ : MethodName)) hown (mvT hZ (hw _ (List.mem_of_getElem? (i := 36) rfl))) (mvT hZ (hw _ (List.mem_of_getElem? (i := 37) rfl))) (mvT hZ (hw _ (List.mem_of_getElem? (i := 38) rfl))) (mvT hZ (hw _ (List.mem_of_getElem? (i := 39) rfl))) (by decide) (backOf (W := 0) (rm7 l Z aw hw [] cx0733 q0 ((j4_0 (j0_1 q0 q1 q2 p3) (j4_0 (j0_0 q0 q1 p3) (j4_0 q0 (0 : Int32) own_k0 own_v0) (j4_1 q0 own_k0 own_v0) (j4_2 q0 (((p3.toUInt32 >>> ((5 : Int32) &&& 31).toUInt32).toInt32) &&& (3 : Int32)) own_k0 own_v0)) (j4_1 (j0_0 q0 q1 p3) (j4_1 q0 own_k0 own_v0) (j4_2 q0 (((p3.toUInt32 >>> ((5 : Int32) &&& 31).toUInt32).toInt32) &&& (3 : Int32)) own_k0 own_v0)) (j4_2 (j0_0 q0 q1 p3) (((p3.toUInt32 >>> ((7 : Int32) &&& 31).toUInt32).toInt32) &&& (3 : Int32)) (j4_1 q0 own_k0 own_v0) (j4_2 q0 (((p3.toUInt32 >>> ((5 : Int32) &&& 31).toUInt32).toInt32) &&& (3 : Int32)) own_k0 own_v0)))) ((own_res (j4_1 (j0_1 q0 q1 q2 p3) (j4_1 (j0_0 q0 q1 p3) (j4_1 q0 own_k0 own_v0) (j4_2 q0 (((p3.toUInt32 >>> ((5 : Int32) &&& 31).toUInt32).toInt32) &&& (3 : Int32)) own_k0 own_v0)) (j4_2 (j0_0 q0 q1 p3) (((p3.toUInt32 >>> ((7 : Int32) &&& 31).toUInt32).toInt32) &&& (3 : Int32)) (j4_1 q0 own_k0 own_v0) (j4_2 q0 (((p3.toUInt32 >>> ((5 : Int32) &&& 31).toUInt32).toInt32) &&& (3 : Int32)) own_k0 own_v0))) (j4_2 (j0_1 q0 q1 q2 p3) (((p3.toUInt32 >>> ((9 : Int32) &&& 31).toUInt32).toInt32) &&& (4194303 : Int32)) (j4_1 (j0_0 q0 q1 p3) (j4_1 q0 own_k0 own_v0) (j4_2 q0 (((p3.toUInt32 >>> ((5 : Int32) &&& 31).toUInt32).toInt32) &&& (3 : Int32)) own_k0 own_v0)) (j4_2 (j0_0 q0 q1 p3) (((p3.toUInt32 >>> ((7 : Int32) &&& 31).toUInt32).toInt32) &&& (3 : Int32)) (j4_1 q0 own_k0 own_v0) (j4_2 q0 (((p3.toUInt32 >>> ((5 : Int32) &&& 31).toUInt32).toInt32) &&& (3 : Int32)) own_k0 own_v0))) 16)) cy0733 h750 n0 Z759 f758) hZ (hw _ (List.mem_of_getElem? (i := 39) rfl)) (hw _ (List.mem_of_getElem? (i := 38) rfl)) (by decide) (by decide)) (g := (mkF m 237 L_761 [(.long q0), (.ref cx0733)])) rfl (by rw [hml]; rfl) (argsL := [(.ref cx0733), (.long q0)]) (rest := []) (lenOf pd_8 rfl) rfl (by show 2 * 0 + _ ≤ _; exact Nat.le_of_eq rfl) (hb hby at_237) (fun _ _ => ⟨rfl, e750, (by decide : 5 + 0 ≤ _), (by decide : 41 + 0 ≤ _)⟩)
                dsimp only [Pt.U, Pt.locs, Pt.cells, Pt.slots] at X783 l783 y783 z783 st783 hQ783
                replace l783 := l783.symm
                subst l783 y783 z783
                obtain ⟨rfl, N783q, e783⟩ := hQ783
                have N783 := Fr.app N760 N783q
                have pre785 := fun (t : State) (k : Steps p.tables e below (T783.setTop (mkF m 240 L_761 [(.int (nar .boolean (j7_0 q0 (j4_0 (j0_1 q0 q1 q2 p3) (j4_0 (j0_0 q0 q1 p3) (j4_0 q0 (0 : Int32) own_k0 own_v0) (j4_1 q0 own_k0 own_v0) (j4_2 q0 (((p3.toUInt32 >>> ((5 : Int32) &&& 31).toUInt32).toInt32) &&& (3 : Int32)) own_k0 own_v0)) (j4_1 (j0_0 q0 q1 p3) (j4_1 q0 own_k0 own_v0) (j4_2 q0 (((p3.toUInt32 >>> ((5 : Int32) &&& 31).toUInt32).toInt32) &&& (3 : Int32)) own_k0 own_v0)) (j4_2 (j0_0 q0 q1 p3) (((p3.toUInt32 >>> ((7 : Int32) &&& 31).toUInt32).toInt32) &&& (3 : Int32)) (j4_1 q0 own_k0 own_v0) (j4_2 q0 (((p3.toUInt32 >>> ((5 : Int32) &&& 31).toUInt32).toInt32) &&& (3 : Int32)) own_k0 own_v0))) (own_res (j4_1 (j0_1 q0 q1 q2 p3) (j4_1 (j0_0 q0 q1 p3) (j4_1 q0 own_k0 own_v0) (j4_2 q0 (((p3.toUInt32 >>> ((5 : Int32) &&& 31).toUInt32).toInt32) &&& (3 : Int32)) own_k0 own_v0)) (j4_2 (j0_0 q0 q1 p3) (((p3.toUInt32 >>> ((7 : Int32) &&& 31).toUInt32).toInt32) &&& (3 : Int32)) (j4_1 q0 own_k0 own_v0) (j4_2 q0 (((p3.toUInt32 >>> ((5 : Int32) &&& 31).toUInt32).toInt32) &&& (3 : Int32)) own_k0 own_v0))) (j4_2 (j0_1 q0 q1 q2 p3) (((p3.toUInt32 >>> ((9 : Int32) &&& 31).toUInt32).toInt32) &&& (4194303 : Int32)) (j4_1 (j0_0 q0 q1 p3) (j4_1 q0 own_k0 own_v0) (j4_2 q0 (((p3.toUInt32 >>> ((5 : Int32) &&& 31).toUInt32).toInt32) &&& (3 : Int32)) own_k0 own_v0)) (j4_2 (j0_0 q0 q1 p3) (((p3.toUInt32 >>> ((7 : Int32) &&& 31).toUInt32).toInt32) &&& (3 : Int32)) (j4_1 q0 own_k0 own_v0) (j4_2 q0 (((p3.toUInt32 >>> ((5 : Int32) &&& 31).toUInt32).toInt32) &&& (3 : Int32)) own_k0 own_v0))) 16))))])) t) => pre779 t (by
                  show Steps p.tables e below (T750.setTop (mkF m 220 L_761 [(.int (1 : Int32)), (.int (j4_0 (j0_1 q0 q1 q2 p3) (j4_0 (j0_0 q0 q1 p3) (j4_0 q0 (0 : Int32) own_k0 own_v0) (j4_1 q0 own_k0 own_v0) (j4_2 q0 (((p3.toUInt32 >>> ((5 : Int32) &&& 31).toUInt32).toInt32) &&& (3 : Int32)) own_k0 own_v0)) (j4_1 (j0_0 q0 q1 p3) (j4_1 q0 own_k0 own_v0) (j4_2 q0 (((p3.toUInt32 >>> ((5 : Int32) &&& 31).toUInt32).toInt32) &&& (3 : Int32)) own_k0 own_v0)) (j4_2 (j0_0 q0 q1 p3) (((p3.toUInt32 >>> ((7 : Int32) &&& 31).toUInt32).toInt32) &&& (3 : Int32)) (j4_1 q0 own_k0 own_v0) (j4_2 q0 (((p3.toUInt32 >>> ((5 : Int32) &&& 31).toUInt32).toInt32) &&& (3 : Int32)) own_k0 own_v0))))])) _
                  refine XS.icmpYes X750.here hx rfl (pc0 := 220) (pc' := 225) rfl (hb hby at_220) rfl (teq hc778).1 (by decide) (by decide) ?_
                  show Steps p.tables e below (T750.setTop (mkF m 225 L_761 [])) _
                  refine XS.iload X750.here hx rfl (hb hby at_225) rfl ?_
                  show Steps p.tables e below (T750.setTop (mkF m 227 L_761 [(.int (1 : Int32))])) _
                  refine XS.iconst X750.here hx rfl (hb hby at_227) ?_
                  show Steps p.tables e below (T750.setTop (mkF m 228 L_761 [(.int (1 : Int32)), (.int (1 : Int32))])) _
                  refine XS.icmpNo X750.here hx rfl (hb hby at_228) rfl (flt (by decide : ¬ ((1 : Int32) < (1 : Int32)))).1 ?_
                  show Steps p.tables e below (T750.setTop (mkF m 231 L_761 [])) _
                  refine XS.aload X750.here hx rfl (hb hby at_231) rfl rfl ?_
                  show Steps p.tables e below (T750.setTop (mkF m 233 L_761 [(.ref cx0733)])) _
                  refine XS.aload X750.here hx rfl (hb hby at_233) rfl rfl ?_
                  show Steps p.tables e below (T750.setTop (mkF m 235 L_761 [(.ref b533), (.ref cx0733)])) _
                  refine XS.iconst X750.here hx rfl (hb hby at_235) ?_
                  show Steps p.tables e below (T750.setTop (mkF m 236 L_761 [(.int (0 : Int32)), (.ref b533), (.ref cx0733)])) _
                  refine X750.laload hx (j := (0 : Int32)) (v := (.long q0)) (by rw [e750]; exact Ar780.1) (State.isArrayOf_alike hZ.alike Ar780.2.1) Ar780.2.2 hin781 hat782 (g := (mkF m 236 L_761 [(.int (0 : Int32)), (.ref b533), (.ref cx0733)])) rfl rfl (hb hby at_236) _ ?_
                  show Steps p.tables e below (T750.setTop (mkF m 237 L_761 [(.long q0), (.ref cx0733)])) _
                  refine st783 _ ?_
                  exact k)
                by_cases hc784 : (nar .boolean (j7_0 q0 (j4_0 (j0_1 q0 q1 q2 p3) (j4_0 (j0_0 q0 q1 p3) (j4_0 q0 (0 : Int32) own_k0 own_v0) (j4_1 q0 own_k0 own_v0) (j4_2 q0 (((p3.toUInt32 >>> ((5 : Int32) &&& 31).toUInt32).toInt32) &&& (3 : Int32)) own_k0 own_v0)) (j4_1 (j0_0 q0 q1 p3) (j4_1 q0 own_k0 own_v0) (j4_2 q0 (((p3.toUInt32 >>> ((5 : Int32) &&& 31).toUInt32).toInt32) &&& (3 : Int32)) own_k0 own_v0)) (j4_2 (j0_0 q0 q1 p3) (((p3.toUInt32 >>> ((7 : Int32) &&& 31).toUInt32).toInt32) &&& (3 : Int32)) (j4_1 q0 own_k0 own_v0) (j4_2 q0 (((p3.toUInt32 >>> ((5 : Int32) &&& 31).toUInt32).toInt32) &&& (3 : Int32)) own_k0 own_v0))) (own_res (j4_1 (j0_1 q0 q1 q2 p3) (j4_1 (j0_0 q0 q1 p3) (j4_1 q0 own_k0 own_v0) (j4_2 q0 (((p3.toUInt32 >>> ((5 : Int32) &&& 31).toUInt32).toInt32) &&& (3 : Int32)) own_k0 own_v0)) (j4_2 (j0_0 q0 q1 p3) (((p3.toUInt32 >>> ((7 : Int32) &&& 31).toUInt32).toInt32) &&& (3 : Int32)) (j4_1 q0 own_k0 own_v0) (j4_2 q0 (((p3.toUInt32 >>> ((5 : Int32) &&& 31).toUInt32).toInt32) &&& (3 : Int32)) own_k0 own_v0))) (j4_2 (j0_1 q0 q1 q2 p3) (((p3.toUInt32 >>> ((9 : Int32) &&& 31).toUInt32).toInt32) &&& (4194303 : Int32)) (j4_1 (j0_0 q0 q1 p3) (j4_1 q0 own_k0 own_v0) (j4_2 q0 (((p3.toUInt32 >>> ((5 : Int32) &&& 31).toUInt32).toInt32) &&& (3 : Int32)) own_k0 own_v0)) (j4_2 (j0_0 q0 q1 p3) (((p3.toUInt32 >>> ((7 : Int32) &&& 31).toUInt32).toInt32) &&& (3 : Int32)) (j4_1 q0 own_k0 own_v0) (j4_2 q0 (((p3.toUInt32 >>> ((5 : Int32) &&& 31).toUInt32).toInt32) &&& (3 : Int32)) own_k0 own_v0))) 16))) = (0 : Int32)
                · skip
                  obtain ⟨fs, hr, hrun, hended, hW, hsame⟩ := X783.leave (v := some (.int (0 : Int32))) (fun h => by rw [Bd.returns] at h; cases h) (BodyLoose.notSynchronized Bd)
                  refine ⟨_, _, pre785 _ ?_, hrun, hended, _, _, rfl, ?_, ⟨_, rfl⟩, hW, hsame.mono (by decide) (by decide)⟩
                  · skip
                    show Steps p.tables e below (T783.setTop (mkF m 240 L_761 [(.int (nar .boolean (j7_0 q0 (j4_0 (j0_1 q0 q1 q2 p3) (j4_0 (j0_0 q0 q1 p3) (j4_0 q0 (0 : Int32) own_k0 own_v0) (j4_1 q0 own_k0 own_v0) (j4_2 q0 (((p3.toUInt32 >>> ((5 : Int32) &&& 31).toUInt32).toInt32) &&& (3 : Int32)) own_k0 own_v0)) (j4_1 (j0_0 q0 q1 p3) (j4_1 q0 own_k0 own_v0) (j4_2 q0 (((p3.toUInt32 >>> ((5 : Int32) &&& 31).toUInt32).toInt32) &&& (3 : Int32)) own_k0 own_v0)) (j4_2 (j0_0 q0 q1 p3) (((p3.toUInt32 >>> ((7 : Int32) &&& 31).toUInt32).toInt32) &&& (3 : Int32)) (j4_1 q0 own_k0 own_v0) (j4_2 q0 (((p3.toUInt32 >>> ((5 : Int32) &&& 31).toUInt32).toInt32) &&& (3 : Int32)) own_k0 own_v0))) (own_res (j4_1 (j0_1 q0 q1 q2 p3) (j4_1 (j0_0 q0 q1 p3) (j4_1 q0 own_k0 own_v0) (j4_2 q0 (((p3.toUInt32 >>> ((5 : Int32) &&& 31).toUInt32).toInt32) &&& (3 : Int32)) own_k0 own_v0)) (j4_2 (j0_0 q0 q1 p3) (((p3.toUInt32 >>> ((7 : Int32) &&& 31).toUInt32).toInt32) &&& (3 : Int32)) (j4_1 q0 own_k0 own_v0) (j4_2 q0 (((p3.toUInt32 >>> ((5 : Int32) &&& 31).toUInt32).toInt32) &&& (3 : Int32)) own_k0 own_v0))) (j4_2 (j0_1 q0 q1 q2 p3) (((p3.toUInt32 >>> ((9 : Int32) &&& 31).toUInt32).toInt32) &&& (4194303 : Int32)) (j4_1 (j0_0 q0 q1 p3) (j4_1 q0 own_k0 own_v0) (j4_2 q0 (((p3.toUInt32 >>> ((5 : Int32) &&& 31).toUInt32).toInt32) &&& (3 : Int32)) own_k0 own_v0)) (j4_2 (j0_0 q0 q1 p3) (((p3.toUInt32 >>> ((7 : Int32) &&& 31).toUInt32).toInt32) &&& (3 : Int32)) (j4_1 q0 own_k0 own_v0) (j4_2 q0 (((p3.toUInt32 >>> ((5 : Int32) &&& 31).toUInt32).toInt32) &&& (3 : Int32)) own_k0 own_v0))) 16))))])) _
                    refine XS.ifNo X783.here hx rfl (hb hby at_240) rfl ((if0 _ _).trans (teq hc784).2) ?_
                    show Steps p.tables e below (T783.setTop (mkF m 243 L_761 [])) _
                    refine XS.iconst X783.here hx rfl (hb hby at_243) ?_
                    show Steps p.tables e below (T783.setTop (mkF m 244 L_761 [(.int (0 : Int32))])) _
                    exact retN X783 hx (t := .boolean) Bd.returns (by simp) (hb hby at_244) hr
                  · show Q0 Z q0 q1 q2 p3 h0 n0 _ T783.heap _
                    rw [e783]
                    have hv : (0 : Int32) = (v0 q0 q1 q2 p3) := by first | exact ((if_neg hc562).trans ((if_neg hc594).trans ((if_neg hc648).trans ((if_pos hc762).trans ((if_neg hc764).trans ((if_pos hc775).trans ((if_pos hc778).trans (if_pos hc784)))))))).symm | (unfold v0; first | (rw [if_neg hc562, if_neg hc594, if_neg hc648, if_pos hc762, if_neg hc764, if_pos hc775, if_pos hc778, if_pos hc784]) | (simp only [if_neg hc562, if_neg hc594, if_neg hc648, if_pos hc762, if_neg hc764, if_pos hc775, if_pos hc778, if_pos hc784]))
                    exact ⟨(by rw [← hv]), N783⟩
                · skip
                  obtain ⟨fs, hr, hrun, hended, hW, hsame⟩ := X783.leave (v := some (.int (1 : Int32))) (fun h => by rw [Bd.returns] at h; cases h) (BodyLoose.notSynchronized Bd)
                  refine ⟨_, _, pre785 _ ?_, hrun, hended, _, _, rfl, ?_, ⟨_, rfl⟩, hW, hsame.mono (by decide) (by decide)⟩
                  · skip
                    show Steps p.tables e below (T783.setTop (mkF m 240 L_761 [(.int (nar .boolean (j7_0 q0 (j4_0 (j0_1 q0 q1 q2 p3) (j4_0 (j0_0 q0 q1 p3) (j4_0 q0 (0 : Int32) own_k0 own_v0) (j4_1 q0 own_k0 own_v0) (j4_2 q0 (((p3.toUInt32 >>> ((5 : Int32) &&& 31).toUInt32).toInt32) &&& (3 : Int32)) own_k0 own_v0)) (j4_1 (j0_0 q0 q1 p3) (j4_1 q0 own_k0 own_v0) (j4_2 q0 (((p3.toUInt32 >>> ((5 : Int32) &&& 31).toUInt32).toInt32) &&& (3 : Int32)) own_k0 own_v0)) (j4_2 (j0_0 q0 q1 p3) (((p3.toUInt32 >>> ((7 : Int32) &&& 31).toUInt32).toInt32) &&& (3 : Int32)) (j4_1 q0 own_k0 own_v0) (j4_2 q0 (((p3.toUInt32 >>> ((5 : Int32) &&& 31).toUInt32).toInt32) &&& (3 : Int32)) own_k0 own_v0))) (own_res (j4_1 (j0_1 q0 q1 q2 p3) (j4_1 (j0_0 q0 q1 p3) (j4_1 q0 own_k0 own_v0) (j4_2 q0 (((p3.toUInt32 >>> ((5 : Int32) &&& 31).toUInt32).toInt32) &&& (3 : Int32)) own_k0 own_v0)) (j4_2 (j0_0 q0 q1 p3) (((p3.toUInt32 >>> ((7 : Int32) &&& 31).toUInt32).toInt32) &&& (3 : Int32)) (j4_1 q0 own_k0 own_v0) (j4_2 q0 (((p3.toUInt32 >>> ((5 : Int32) &&& 31).toUInt32).toInt32) &&& (3 : Int32)) own_k0 own_v0))) (j4_2 (j0_1 q0 q1 q2 p3) (((p3.toUInt32 >>> ((9 : Int32) &&& 31).toUInt32).toInt32) &&& (4194303 : Int32)) (j4_1 (j0_0 q0 q1 p3) (j4_1 q0 own_k0 own_v0) (j4_2 q0 (((p3.toUInt32 >>> ((5 : Int32) &&& 31).toUInt32).toInt32) &&& (3 : Int32)) own_k0 own_v0)) (j4_2 (j0_0 q0 q1 p3) (((p3.toUInt32 >>> ((7 : Int32) &&& 31).toUInt32).toInt32) &&& (3 : Int32)) (j4_1 q0 own_k0 own_v0) (j4_2 q0 (((p3.toUInt32 >>> ((5 : Int32) &&& 31).toUInt32).toInt32) &&& (3 : Int32)) own_k0 own_v0))) 16))))])) _
                    refine XS.ifYes X783.here hx rfl (pc0 := 240) (pc' := 245) rfl (hb hby at_240) rfl ((if0 _ _).trans (feq hc784).2) (by decide) (by decide) ?_
                    show Steps p.tables e below (T783.setTop (mkF m 245 L_761 [])) _
                    refine XS.iload X783.here hx rfl (hb hby at_245) rfl ?_
                    show Steps p.tables e below (T783.setTop (mkF m 247 L_761 [(.int (1 : Int32))])) _
                    refine XS.iconst X783.here hx rfl (hb hby at_247) ?_
                    show Steps p.tables e below (T783.setTop (mkF m 248 L_761 [(.int (2 : Int32)), (.int (1 : Int32))])) _
                    refine XS.icmpYes X783.here hx rfl (pc0 := 248) (pc' := 265) rfl (hb hby at_248) rfl (tlt (by decide : (1 : Int32) < (2 : Int32))).1 (by decide) (by decide) ?_
                    show Steps p.tables e below (T783.setTop (mkF m 265 L_761 [])) _
                    refine XS.iload X783.here hx rfl (hb hby at_265) rfl ?_
                    show Steps p.tables e below (T783.setTop (mkF m 267 L_761 [(.int (1 : Int32))])) _
                    refine XS.iconst X783.here hx rfl (hb hby at_267) ?_
                    show Steps p.tables e below (T783.setTop (mkF m 268 L_761 [(.int (3 : Int32)), (.int (1 : Int32))])) _
                    refine XS.icmpYes X783.here hx rfl (pc0 := 268) (pc' := 285) rfl (hb hby at_268) rfl (tlt (by decide : (1 : Int32) < (3 : Int32))).1 (by decide) (by decide) ?_
                    show Steps p.tables e below (T783.setTop (mkF m 285 L_761 [])) _
                    refine XS.iconst X783.here hx rfl (hb hby at_285) ?_
                    show Steps p.tables e below (T783.setTop (mkF m 286 L_761 [(.int (1 : Int32))])) _
                    exact retN X783 hx (t := .boolean) Bd.returns (by simp) (hb hby at_286) hr
                  · show Q0 Z q0 q1 q2 p3 h0 n0 _ T783.heap _
                    rw [e783]
                    have hv : (1 : Int32) = (v0 q0 q1 q2 p3) := by first | exact ((if_neg hc562).trans ((if_neg hc594).trans ((if_neg hc648).trans ((if_pos hc762).trans ((if_neg hc764).trans ((if_pos hc775).trans ((if_pos hc778).trans (if_neg hc784)))))))).symm | (unfold v0; first | (rw [if_neg hc562, if_neg hc594, if_neg hc648, if_pos hc762, if_neg hc764, if_pos hc775, if_pos hc778, if_neg hc784]) | (simp only [if_neg hc562, if_neg hc594, if_neg hc648, if_pos hc762, if_neg hc764, if_pos hc775, if_pos hc778, if_neg hc784]))
                    exact ⟨(by rw [← hv]), N783⟩
              · skip
                obtain ⟨fs, hr, hrun, hended, hW, hsame⟩ := X750.leave (v := some (.int (0 : Int32))) (fun h => by rw [Bd.returns] at h; cases h) (BodyLoose.notSynchronized Bd)
                refine ⟨_, _, pre779 _ ?_, hrun, hended, _, _, rfl, ?_, ⟨_, rfl⟩, hW, hsame.mono (by decide) (by decide)⟩
                · skip
                  show Steps p.tables e below (T750.setTop (mkF m 220 L_761 [(.int (1 : Int32)), (.int (j4_0 (j0_1 q0 q1 q2 p3) (j4_0 (j0_0 q0 q1 p3) (j4_0 q0 (0 : Int32) own_k0 own_v0) (j4_1 q0 own_k0 own_v0) (j4_2 q0 (((p3.toUInt32 >>> ((5 : Int32) &&& 31).toUInt32).toInt32) &&& (3 : Int32)) own_k0 own_v0)) (j4_1 (j0_0 q0 q1 p3) (j4_1 q0 own_k0 own_v0) (j4_2 q0 (((p3.toUInt32 >>> ((5 : Int32) &&& 31).toUInt32).toInt32) &&& (3 : Int32)) own_k0 own_v0)) (j4_2 (j0_0 q0 q1 p3) (((p3.toUInt32 >>> ((7 : Int32) &&& 31).toUInt32).toInt32) &&& (3 : Int32)) (j4_1 q0 own_k0 own_v0) (j4_2 q0 (((p3.toUInt32 >>> ((5 : Int32) &&& 31).toUInt32).toInt32) &&& (3 : Int32)) own_k0 own_v0))))])) _
                  refine XS.icmpNo X750.here hx rfl (hb hby at_220) rfl (feq hc778).1 ?_
                  show Steps p.tables e below (T750.setTop (mkF m 223 L_761 [])) _
                  refine XS.iconst X750.here hx rfl (hb hby at_223) ?_
                  show Steps p.tables e below (T750.setTop (mkF m 224 L_761 [(.int (0 : Int32))])) _
                  exact retN X750 hx (t := .boolean) Bd.returns (by simp) (hb hby at_224) hr
                · show Q0 Z q0 q1 q2 p3 h0 n0 _ T750.heap _
                  rw [e750]
                  have hv : (0 : Int32) = (v0 q0 q1 q2 p3) := by first | exact ((if_neg hc562).trans ((if_neg hc594).trans ((if_neg hc648).trans ((if_pos hc762).trans ((if_neg hc764).trans ((if_pos hc775).trans (if_neg hc778))))))).symm | (unfold v0; first | (rw [if_neg hc562, if_neg hc594, if_neg hc648, if_pos hc762, if_neg hc764, if_pos hc775, if_neg hc778]) | (simp only [if_neg hc562, if_neg hc594, if_neg hc648, if_pos hc762, if_neg hc764, if_pos hc775, if_neg hc778]))
                  exact ⟨(by rw [← hv]), N760⟩
            · skip
              obtain ⟨cl786, Ar786, q786, S786, M786, H786, G786⟩ := id V750
              have hin787 : ¬ ((1 : Int32) < 0 ∨ cl786.slots.size ≤ ((1 : Int32)).toNatClampNeg) := inb_of S786 ⟨by decide, by decide⟩
              obtain ⟨T788, h788, X788, e788, W788, st788⟩ := stJ X750 hx hZ e750 Ar786 (j := (1 : Int32)) hin787 (g := (mkF m 208 L_761 [(.long (j0_1 q0 q1 q2 p3)), (.int (1 : Int32)), (.ref b533)])) rfl rfl (hb hby at_208)
              have V788 : Arv Z h788 b533 k533 .long (3 : Int32) [(.long q0), (.long (j0_1 q0 q1 q2 p3)), (.long (0 : Int64))] (.long (0 : Int64)) := Arv.set Ar786 q786 S786 M786 H786 G786 rfl W788 1 rfl (Nat.le_of_ble_eq_true rfl)
              have f790 := f752.wr W788
              have f791 := f753.other W788 (Or.inl (Ne.symm ne538))
              have f792 := f754.other W788 (Or.inl (Ne.symm ne538))
              have f793 := f755.other W788 (Or.inl (Ne.symm ne538))
              have f794 := f756.other W788 (Ne.symm ne555)
              have f795 := f757.other W788 (Ne.symm ne557)
              have f796 := f758.other W788 (Ne.symm ne742)
              have Z797 := Nat.le_trans Z759 (Keep.of_wr W788).1
              have N798 := Fr.snoc X788 N760 g_b533
              let L_799 : Array Slot := #[.val (.long q0), .second, .val (.long (j0_0 q0 q1 p3)), .second, .val (.long (j0_1 q0 q1 q2 p3)), .second, .val (.int p3), .val (.int (p3 &&& (3 : Int32))), .val (.int (((p3.toUInt32 >>> ((3 : Int32) &&& 31).toUInt32).toInt32) &&& (3 : Int32))), .val (.int (((p3.toUInt32 >>> ((5 : Int32) &&& 31).toUInt32).toInt32) &&& (3 : Int32))), .val (.int (((p3.toUInt32 >>> ((7 : Int32) &&& 31).toUInt32).toInt32) &&& (3 : Int32))), .val (.int (((p3.toUInt32 >>> ((9 : Int32) &&& 31).toUInt32).toInt32) &&& (4194303 : Int32))), .val (.ref b533), .val (.ref b536), .val (.ref cx0733), .val (.int (2 : Int32))]
              obtain ⟨cl800, Ar800, q800, S800, M800, H800, G800⟩ := id f796
              have pre802 := fun (t : State) (k : Steps p.tables e below (T788.setTop (mkF m 220 L_799 [(.int (2 : Int32)), (.int (j4_0 (j0_1 q0 q1 q2 p3) (j4_0 (j0_0 q0 q1 p3) (j4_0 q0 (0 : Int32) own_k0 own_v0) (j4_1 q0 own_k0 own_v0) (j4_2 q0 (((p3.toUInt32 >>> ((5 : Int32) &&& 31).toUInt32).toInt32) &&& (3 : Int32)) own_k0 own_v0)) (j4_1 (j0_0 q0 q1 p3) (j4_1 q0 own_k0 own_v0) (j4_2 q0 (((p3.toUInt32 >>> ((5 : Int32) &&& 31).toUInt32).toInt32) &&& (3 : Int32)) own_k0 own_v0)) (j4_2 (j0_0 q0 q1 p3) (((p3.toUInt32 >>> ((7 : Int32) &&& 31).toUInt32).toInt32) &&& (3 : Int32)) (j4_1 q0 own_k0 own_v0) (j4_2 q0 (((p3.toUInt32 >>> ((5 : Int32) &&& 31).toUInt32).toInt32) &&& (3 : Int32)) own_k0 own_v0))))])) t) => pre776 t (by
                show Steps p.tables e below (T750.setTop (mkF m 199 L_761 [(.int (lcmpW (j0_1 q0 q1 q2 p3) (j0_0 q0 q1 p3)))])) _
                refine XS.ifNo X750.here hx rfl (hb hby at_199) rfl ((if0 _ _).trans (feq (mt (own_eq (j0_1 q0 q1 q2 p3) (j0_0 q0 q1 p3)).mp hc775)).1) ?_
                show Steps p.tables e below (T750.setTop (mkF m 202 L_761 [])) _
                refine XS.aload X750.here hx rfl (hb hby at_202) rfl rfl ?_
                show Steps p.tables e below (T750.setTop (mkF m 204 L_761 [(.ref b533)])) _
                refine XS.iload X750.here hx rfl (hb hby at_204) rfl ?_
                show Steps p.tables e below (T750.setTop (mkF m 206 L_761 [(.int (1 : Int32)), (.ref b533)])) _
                refine XS.lload X750.here hx rfl (hb hby at_206) rfl ?_
                show Steps p.tables e below (T750.setTop (mkF m 208 L_761 [(.long (j0_1 q0 q1 q2 p3)), (.int (1 : Int32)), (.ref b533)])) _
                refine st788 _ ?_
                show Steps p.tables e below (T788.setTop (mkF m 209 L_761 [])) _
                refine XS.iload X788.here hx rfl (hb hby at_209) rfl ?_
                show Steps p.tables e below (T788.setTop (mkF m 211 L_761 [(.int (1 : Int32))])) _
                refine XS.iconst X788.here hx rfl (hb hby at_211) ?_
                show Steps p.tables e below (T788.setTop (mkF m 212 L_761 [(.int (1 : Int32)), (.int (1 : Int32))])) _
                refine XS.iadd X788.here hx rfl (hb hby at_212) rfl ?_
                show Steps p.tables e below (T788.setTop (mkF m 213 L_761 [(.int (2 : Int32))])) _
                refine XS.istore X788.here hx rfl (hb hby at_213) rfl (l' := L_799) rfl ?_
                show Steps p.tables e below (T788.setTop (mkF m 215 L_799 [])) _
                refine XS.aload X788.here hx rfl (hb hby at_215) rfl rfl ?_
                show Steps p.tables e below (T788.setTop (mkF m 217 L_799 [(.ref cx0733)])) _
                refine X788.arraylength hx (by rw [e788]; exact Ar800.1) (State.isArrayOf_alike hZ.alike Ar800.2.1) (g := (mkF m 217 L_799 [(.ref cx0733)])) rfl rfl (hb hby at_217) _ ?_
                rw [len_of S800 M800]
                show Steps p.tables e below (T788.setTop (mkF m 218 L_799 [(.int (j4_0 (j0_1 q0 q1 q2 p3) (j4_0 (j0_0 q0 q1 p3) (j4_0 q0 (0 : Int32) own_k0 own_v0) (j4_1 q0 own_k0 own_v0) (j4_2 q0 (((p3.toUInt32 >>> ((5 : Int32) &&& 31).toUInt32).toInt32) &&& (3 : Int32)) own_k0 own_v0)) (j4_1 (j0_0 q0 q1 p3) (j4_1 q0 own_k0 own_v0) (j4_2 q0 (((p3.toUInt32 >>> ((5 : Int32) &&& 31).toUInt32).toInt32) &&& (3 : Int32)) own_k0 own_v0)) (j4_2 (j0_0 q0 q1 p3) (((p3.toUInt32 >>> ((7 : Int32) &&& 31).toUInt32).toInt32) &&& (3 : Int32)) (j4_1 q0 own_k0 own_v0) (j4_2 q0 (((p3.toUInt32 >>> ((5 : Int32) &&& 31).toUInt32).toInt32) &&& (3 : Int32)) own_k0 own_v0))))])) _
                refine XS.iload X788.here hx rfl (hb hby at_218) rfl ?_
                exact k)
              by_cases hc801 : (j4_0 (j0_1 q0 q1 q2 p3) (j4_0 (j0_0 q0 q1 p3) (j4_0 q0 (0 : Int32) own_k0 own_v0) (j4_1 q0 own_k0 own_v0) (j4_2 q0 (((p3.toUInt32 >>> ((5 : Int32) &&& 31).toUInt32).toInt32) &&& (3 : Int32)) own_k0 own_v0)) (j4_1 (j0_0 q0 q1 p3) (j4_1 q0 own_k0 own_v0) (j4_2 q0 (((p3.toUInt32 >>> ((5 : Int32) &&& 31).toUInt32).toInt32) &&& (3 : Int32)) own_k0 own_v0)) (j4_2 (j0_0 q0 q1 p3) (((p3.toUInt32 >>> ((7 : Int32) &&& 31).toUInt32).toInt32) &&& (3 : Int32)) (j4_1 q0 own_k0 own_v0) (j4_2 q0 (((p3.toUInt32 >>> ((5 : Int32) &&& 31).toUInt32).toInt32) &&& (3 : Int32)) own_k0 own_v0))) = (2 : Int32)
              · skip
                obtain ⟨cl803, Ar803, q803, S803, M803, H803, G803⟩ := id V788
                have hin804 : ¬ ((0 : Int32) < 0 ∨ cl803.slots.size ≤ ((0 : Int32)).toNatClampNeg) := inb_of S803 ⟨by decide, by decide⟩
                have hat805 : cl803.slots[((0 : Int32)).toNatClampNeg]? = some (.long q0) := H803.at hin804 rfl
                obtain ⟨_, _, ⟨T806, L806, k806, n806⟩, -, X806, ⟨Lc806, hQ806, l806, y806, z806⟩, st806⟩ := Jvm.LawKit.callS X788 hx (y := (⟨"com/example/pathfield/pathfield/query/LongIntMapKeysPinLaw", "has", "([JJ)Z"⟩ : MethodName)) hown (mvT hZ (hw _ (List.mem_of_getElem? (i := 36) rfl))) (mvT hZ (hw _ (List.mem_of_getElem? (i := 37) rfl))) (mvT hZ (hw _ (List.mem_of_getElem? (i := 38) rfl))) (mvT hZ (hw _ (List.mem_of_getElem? (i := 39) rfl))) (by decide) (backOf (W := 0) (rm7 l Z aw hw [] cx0733 q0 ((j4_0 (j0_1 q0 q1 q2 p3) (j4_0 (j0_0 q0 q1 p3) (j4_0 q0 (0 : Int32) own_k0 own_v0) (j4_1 q0 own_k0 own_v0) (j4_2 q0 (((p3.toUInt32 >>> ((5 : Int32) &&& 31).toUInt32).toInt32) &&& (3 : Int32)) own_k0 own_v0)) (j4_1 (j0_0 q0 q1 p3) (j4_1 q0 own_k0 own_v0) (j4_2 q0 (((p3.toUInt32 >>> ((5 : Int32) &&& 31).toUInt32).toInt32) &&& (3 : Int32)) own_k0 own_v0)) (j4_2 (j0_0 q0 q1 p3) (((p3.toUInt32 >>> ((7 : Int32) &&& 31).toUInt32).toInt32) &&& (3 : Int32)) (j4_1 q0 own_k0 own_v0) (j4_2 q0 (((p3.toUInt32 >>> ((5 : Int32) &&& 31).toUInt32).toInt32) &&& (3 : Int32)) own_k0 own_v0)))) ((own_res (j4_1 (j0_1 q0 q1 q2 p3) (j4_1 (j0_0 q0 q1 p3) (j4_1 q0 own_k0 own_v0) (j4_2 q0 (((p3.toUInt32 >>> ((5 : Int32) &&& 31).toUInt32).toInt32) &&& (3 : Int32)) own_k0 own_v0)) (j4_2 (j0_0 q0 q1 p3) (((p3.toUInt32 >>> ((7 : Int32) &&& 31).toUInt32).toInt32) &&& (3 : Int32)) (j4_1 q0 own_k0 own_v0) (j4_2 q0 (((p3.toUInt32 >>> ((5 : Int32) &&& 31).toUInt32).toInt32) &&& (3 : Int32)) own_k0 own_v0))) (j4_2 (j0_1 q0 q1 q2 p3) (((p3.toUInt32 >>> ((9 : Int32) &&& 31).toUInt32).toInt32) &&& (4194303 : Int32)) (j4_1 (j0_0 q0 q1 p3) (j4_1 q0 own_k0 own_v0) (j4_2 q0 (((p3.toUInt32 >>> ((5 : Int32) &&& 31).toUInt32).toInt32) &&& (3 : Int32)) own_k0 own_v0)) (j4_2 (j0_0 q0 q1 p3) (((p3.toUInt32 >>> ((7 : Int32) &&& 31).toUInt32).toInt32) &&& (3 : Int32)) (j4_1 q0 own_k0 own_v0) (j4_2 q0 (((p3.toUInt32 >>> ((5 : Int32) &&& 31).toUInt32).toInt32) &&& (3 : Int32)) own_k0 own_v0))) 16)) cy0733 h788 n0 Z797 f796) hZ (hw _ (List.mem_of_getElem? (i := 39) rfl)) (hw _ (List.mem_of_getElem? (i := 38) rfl)) (by decide) (by decide)) (g := (mkF m 237 L_799 [(.long q0), (.ref cx0733)])) rfl (by rw [hml]; rfl) (argsL := [(.ref cx0733), (.long q0)]) (rest := []) (lenOf pd_8 rfl) rfl (by show 2 * 0 + _ ≤ _; exact Nat.le_of_eq rfl) (hb hby at_237) (fun _ _ => ⟨rfl, e788, (by decide : 5 + 0 ≤ _), (by decide : 41 + 0 ≤ _)⟩)
                dsimp only [Pt.U, Pt.locs, Pt.cells, Pt.slots] at X806 l806 y806 z806 st806 hQ806
                replace l806 := l806.symm
                subst l806 y806 z806
                obtain ⟨rfl, N806q, e806⟩ := hQ806
                have N806 := Fr.app N798 N806q
                have pre808 := fun (t : State) (k : Steps p.tables e below (T806.setTop (mkF m 240 L_799 [(.int (nar .boolean (j7_0 q0 (j4_0 (j0_1 q0 q1 q2 p3) (j4_0 (j0_0 q0 q1 p3) (j4_0 q0 (0 : Int32) own_k0 own_v0) (j4_1 q0 own_k0 own_v0) (j4_2 q0 (((p3.toUInt32 >>> ((5 : Int32) &&& 31).toUInt32).toInt32) &&& (3 : Int32)) own_k0 own_v0)) (j4_1 (j0_0 q0 q1 p3) (j4_1 q0 own_k0 own_v0) (j4_2 q0 (((p3.toUInt32 >>> ((5 : Int32) &&& 31).toUInt32).toInt32) &&& (3 : Int32)) own_k0 own_v0)) (j4_2 (j0_0 q0 q1 p3) (((p3.toUInt32 >>> ((7 : Int32) &&& 31).toUInt32).toInt32) &&& (3 : Int32)) (j4_1 q0 own_k0 own_v0) (j4_2 q0 (((p3.toUInt32 >>> ((5 : Int32) &&& 31).toUInt32).toInt32) &&& (3 : Int32)) own_k0 own_v0))) (own_res (j4_1 (j0_1 q0 q1 q2 p3) (j4_1 (j0_0 q0 q1 p3) (j4_1 q0 own_k0 own_v0) (j4_2 q0 (((p3.toUInt32 >>> ((5 : Int32) &&& 31).toUInt32).toInt32) &&& (3 : Int32)) own_k0 own_v0)) (j4_2 (j0_0 q0 q1 p3) (((p3.toUInt32 >>> ((7 : Int32) &&& 31).toUInt32).toInt32) &&& (3 : Int32)) (j4_1 q0 own_k0 own_v0) (j4_2 q0 (((p3.toUInt32 >>> ((5 : Int32) &&& 31).toUInt32).toInt32) &&& (3 : Int32)) own_k0 own_v0))) (j4_2 (j0_1 q0 q1 q2 p3) (((p3.toUInt32 >>> ((9 : Int32) &&& 31).toUInt32).toInt32) &&& (4194303 : Int32)) (j4_1 (j0_0 q0 q1 p3) (j4_1 q0 own_k0 own_v0) (j4_2 q0 (((p3.toUInt32 >>> ((5 : Int32) &&& 31).toUInt32).toInt32) &&& (3 : Int32)) own_k0 own_v0)) (j4_2 (j0_0 q0 q1 p3) (((p3.toUInt32 >>> ((7 : Int32) &&& 31).toUInt32).toInt32) &&& (3 : Int32)) (j4_1 q0 own_k0 own_v0) (j4_2 q0 (((p3.toUInt32 >>> ((5 : Int32) &&& 31).toUInt32).toInt32) &&& (3 : Int32)) own_k0 own_v0))) 16))))])) t) => pre802 t (by
                  show Steps p.tables e below (T788.setTop (mkF m 220 L_799 [(.int (2 : Int32)), (.int (j4_0 (j0_1 q0 q1 q2 p3) (j4_0 (j0_0 q0 q1 p3) (j4_0 q0 (0 : Int32) own_k0 own_v0) (j4_1 q0 own_k0 own_v0) (j4_2 q0 (((p3.toUInt32 >>> ((5 : Int32) &&& 31).toUInt32).toInt32) &&& (3 : Int32)) own_k0 own_v0)) (j4_1 (j0_0 q0 q1 p3) (j4_1 q0 own_k0 own_v0) (j4_2 q0 (((p3.toUInt32 >>> ((5 : Int32) &&& 31).toUInt32).toInt32) &&& (3 : Int32)) own_k0 own_v0)) (j4_2 (j0_0 q0 q1 p3) (((p3.toUInt32 >>> ((7 : Int32) &&& 31).toUInt32).toInt32) &&& (3 : Int32)) (j4_1 q0 own_k0 own_v0) (j4_2 q0 (((p3.toUInt32 >>> ((5 : Int32) &&& 31).toUInt32).toInt32) &&& (3 : Int32)) own_k0 own_v0))))])) _
                  refine XS.icmpYes X788.here hx rfl (pc0 := 220) (pc' := 225) rfl (hb hby at_220) rfl (teq hc801).1 (by decide) (by decide) ?_
                  show Steps p.tables e below (T788.setTop (mkF m 225 L_799 [])) _
                  refine XS.iload X788.here hx rfl (hb hby at_225) rfl ?_
                  show Steps p.tables e below (T788.setTop (mkF m 227 L_799 [(.int (2 : Int32))])) _
                  refine XS.iconst X788.here hx rfl (hb hby at_227) ?_
                  show Steps p.tables e below (T788.setTop (mkF m 228 L_799 [(.int (1 : Int32)), (.int (2 : Int32))])) _
                  refine XS.icmpNo X788.here hx rfl (hb hby at_228) rfl (flt (by decide : ¬ ((2 : Int32) < (1 : Int32)))).1 ?_
                  show Steps p.tables e below (T788.setTop (mkF m 231 L_799 [])) _
                  refine XS.aload X788.here hx rfl (hb hby at_231) rfl rfl ?_
                  show Steps p.tables e below (T788.setTop (mkF m 233 L_799 [(.ref cx0733)])) _
                  refine XS.aload X788.here hx rfl (hb hby at_233) rfl rfl ?_
                  show Steps p.tables e below (T788.setTop (mkF m 235 L_799 [(.ref b533), (.ref cx0733)])) _
                  refine XS.iconst X788.here hx rfl (hb hby at_235) ?_
                  show Steps p.tables e below (T788.setTop (mkF m 236 L_799 [(.int (0 : Int32)), (.ref b533), (.ref cx0733)])) _
                  refine X788.laload hx (j := (0 : Int32)) (v := (.long q0)) (by rw [e788]; exact Ar803.1) (State.isArrayOf_alike hZ.alike Ar803.2.1) Ar803.2.2 hin804 hat805 (g := (mkF m 236 L_799 [(.int (0 : Int32)), (.ref b533), (.ref cx0733)])) rfl rfl (hb hby at_236) _ ?_
                  show Steps p.tables e below (T788.setTop (mkF m 237 L_799 [(.long q0), (.ref cx0733)])) _
                  refine st806 _ ?_
                  exact k)
                by_cases hc807 : (nar .boolean (j7_0 q0 (j4_0 (j0_1 q0 q1 q2 p3) (j4_0 (j0_0 q0 q1 p3) (j4_0 q0 (0 : Int32) own_k0 own_v0) (j4_1 q0 own_k0 own_v0) (j4_2 q0 (((p3.toUInt32 >>> ((5 : Int32) &&& 31).toUInt32).toInt32) &&& (3 : Int32)) own_k0 own_v0)) (j4_1 (j0_0 q0 q1 p3) (j4_1 q0 own_k0 own_v0) (j4_2 q0 (((p3.toUInt32 >>> ((5 : Int32) &&& 31).toUInt32).toInt32) &&& (3 : Int32)) own_k0 own_v0)) (j4_2 (j0_0 q0 q1 p3) (((p3.toUInt32 >>> ((7 : Int32) &&& 31).toUInt32).toInt32) &&& (3 : Int32)) (j4_1 q0 own_k0 own_v0) (j4_2 q0 (((p3.toUInt32 >>> ((5 : Int32) &&& 31).toUInt32).toInt32) &&& (3 : Int32)) own_k0 own_v0))) (own_res (j4_1 (j0_1 q0 q1 q2 p3) (j4_1 (j0_0 q0 q1 p3) (j4_1 q0 own_k0 own_v0) (j4_2 q0 (((p3.toUInt32 >>> ((5 : Int32) &&& 31).toUInt32).toInt32) &&& (3 : Int32)) own_k0 own_v0)) (j4_2 (j0_0 q0 q1 p3) (((p3.toUInt32 >>> ((7 : Int32) &&& 31).toUInt32).toInt32) &&& (3 : Int32)) (j4_1 q0 own_k0 own_v0) (j4_2 q0 (((p3.toUInt32 >>> ((5 : Int32) &&& 31).toUInt32).toInt32) &&& (3 : Int32)) own_k0 own_v0))) (j4_2 (j0_1 q0 q1 q2 p3) (((p3.toUInt32 >>> ((9 : Int32) &&& 31).toUInt32).toInt32) &&& (4194303 : Int32)) (j4_1 (j0_0 q0 q1 p3) (j4_1 q0 own_k0 own_v0) (j4_2 q0 (((p3.toUInt32 >>> ((5 : Int32) &&& 31).toUInt32).toInt32) &&& (3 : Int32)) own_k0 own_v0)) (j4_2 (j0_0 q0 q1 p3) (((p3.toUInt32 >>> ((7 : Int32) &&& 31).toUInt32).toInt32) &&& (3 : Int32)) (j4_1 q0 own_k0 own_v0) (j4_2 q0 (((p3.toUInt32 >>> ((5 : Int32) &&& 31).toUInt32).toInt32) &&& (3 : Int32)) own_k0 own_v0))) 16))) = (0 : Int32)
                · skip
                  obtain ⟨fs, hr, hrun, hended, hW, hsame⟩ := X806.leave (v := some (.int (0 : Int32))) (fun h => by rw [Bd.returns] at h; cases h) (BodyLoose.notSynchronized Bd)
                  refine ⟨_, _, pre808 _ ?_, hrun, hended, _, _, rfl, ?_, ⟨_, rfl⟩, hW, hsame.mono (by decide) (by decide)⟩
                  · skip
                    show Steps p.tables e below (T806.setTop (mkF m 240 L_799 [(.int (nar .boolean (j7_0 q0 (j4_0 (j0_1 q0 q1 q2 p3) (j4_0 (j0_0 q0 q1 p3) (j4_0 q0 (0 : Int32) own_k0 own_v0) (j4_1 q0 own_k0 own_v0) (j4_2 q0 (((p3.toUInt32 >>> ((5 : Int32) &&& 31).toUInt32).toInt32) &&& (3 : Int32)) own_k0 own_v0)) (j4_1 (j0_0 q0 q1 p3) (j4_1 q0 own_k0 own_v0) (j4_2 q0 (((p3.toUInt32 >>> ((5 : Int32) &&& 31).toUInt32).toInt32) &&& (3 : Int32)) own_k0 own_v0)) (j4_2 (j0_0 q0 q1 p3) (((p3.toUInt32 >>> ((7 : Int32) &&& 31).toUInt32).toInt32) &&& (3 : Int32)) (j4_1 q0 own_k0 own_v0) (j4_2 q0 (((p3.toUInt32 >>> ((5 : Int32) &&& 31).toUInt32).toInt32) &&& (3 : Int32)) own_k0 own_v0))) (own_res (j4_1 (j0_1 q0 q1 q2 p3) (j4_1 (j0_0 q0 q1 p3) (j4_1 q0 own_k0 own_v0) (j4_2 q0 (((p3.toUInt32 >>> ((5 : Int32) &&& 31).toUInt32).toInt32) &&& (3 : Int32)) own_k0 own_v0)) (j4_2 (j0_0 q0 q1 p3) (((p3.toUInt32 >>> ((7 : Int32) &&& 31).toUInt32).toInt32) &&& (3 : Int32)) (j4_1 q0 own_k0 own_v0) (j4_2 q0 (((p3.toUInt32 >>> ((5 : Int32) &&& 31).toUInt32).toInt32) &&& (3 : Int32)) own_k0 own_v0))) (j4_2 (j0_1 q0 q1 q2 p3) (((p3.toUInt32 >>> ((9 : Int32) &&& 31).toUInt32).toInt32) &&& (4194303 : Int32)) (j4_1 (j0_0 q0 q1 p3) (j4_1 q0 own_k0 own_v0) (j4_2 q0 (((p3.toUInt32 >>> ((5 : Int32) &&& 31).toUInt32).toInt32) &&& (3 : Int32)) own_k0 own_v0)) (j4_2 (j0_0 q0 q1 p3) (((p3.toUInt32 >>> ((7 : Int32) &&& 31).toUInt32).toInt32) &&& (3 : Int32)) (j4_1 q0 own_k0 own_v0) (j4_2 q0 (((p3.toUInt32 >>> ((5 : Int32) &&& 31).toUInt32).toInt32) &&& (3 : Int32)) own_k0 own_v0))) 16))))])) _
                    refine XS.ifNo X806.here hx rfl (hb hby at_240) rfl ((if0 _ _).trans (teq hc807).2) ?_
                    show Steps p.tables e below (T806.setTop (mkF m 243 L_799 [])) _
                    refine XS.iconst X806.here hx rfl (hb hby at_243) ?_
                    show Steps p.tables e below (T806.setTop (mkF m 244 L_799 [(.int (0 : Int32))])) _
                    exact retN X806 hx (t := .boolean) Bd.returns (by simp) (hb hby at_244) hr
                  · show Q0 Z q0 q1 q2 p3 h0 n0 _ T806.heap _
                    rw [e806]
                    have hv : (0 : Int32) = (v0 q0 q1 q2 p3) := by first | exact ((if_neg hc562).trans ((if_neg hc594).trans ((if_neg hc648).trans ((if_pos hc762).trans ((if_neg hc764).trans ((if_neg hc775).trans ((if_pos hc801).trans (if_pos hc807)))))))).symm | (unfold v0; first | (rw [if_neg hc562, if_neg hc594, if_neg hc648, if_pos hc762, if_neg hc764, if_neg hc775, if_pos hc801, if_pos hc807]) | (simp only [if_neg hc562, if_neg hc594, if_neg hc648, if_pos hc762, if_neg hc764, if_neg hc775, if_pos hc801, if_pos hc807]))
                    exact ⟨(by rw [← hv]), N806⟩
                · skip
                  obtain ⟨cl809, Ar809, q809, S809, M809, H809, G809⟩ := id V788
                  have hin810 : ¬ ((1 : Int32) < 0 ∨ cl809.slots.size ≤ ((1 : Int32)).toNatClampNeg) := inb_of S809 ⟨by decide, by decide⟩
                  have hat811 : cl809.slots[((1 : Int32)).toNatClampNeg]? = some (.long (j0_1 q0 q1 q2 p3)) := H809.at hin810 rfl
                  obtain ⟨_, _, ⟨T812, L812, k812, n812⟩, -, X812, ⟨Lc812, hQ812, l812, y812, z812⟩, st812⟩ := Jvm.LawKit.callS X806 hx (y := (⟨"com/example/pathfield/pathfield/query/LongIntMapKeysPinLaw", "has", "([JJ)Z"⟩ : MethodName)) hown (mvT hZ (hw _ (List.mem_of_getElem? (i := 36) rfl))) (mvT hZ (hw _ (List.mem_of_getElem? (i := 37) rfl))) (mvT hZ (hw _ (List.mem_of_getElem? (i := 38) rfl))) (mvT hZ (hw _ (List.mem_of_getElem? (i := 39) rfl))) (by decide) (backOf (W := 0) (rm7 l Z aw hw [] cx0733 ((j0_1 q0 q1 q2 p3)) ((j4_0 (j0_1 q0 q1 q2 p3) (j4_0 (j0_0 q0 q1 p3) (j4_0 q0 (0 : Int32) own_k0 own_v0) (j4_1 q0 own_k0 own_v0) (j4_2 q0 (((p3.toUInt32 >>> ((5 : Int32) &&& 31).toUInt32).toInt32) &&& (3 : Int32)) own_k0 own_v0)) (j4_1 (j0_0 q0 q1 p3) (j4_1 q0 own_k0 own_v0) (j4_2 q0 (((p3.toUInt32 >>> ((5 : Int32) &&& 31).toUInt32).toInt32) &&& (3 : Int32)) own_k0 own_v0)) (j4_2 (j0_0 q0 q1 p3) (((p3.toUInt32 >>> ((7 : Int32) &&& 31).toUInt32).toInt32) &&& (3 : Int32)) (j4_1 q0 own_k0 own_v0) (j4_2 q0 (((p3.toUInt32 >>> ((5 : Int32) &&& 31).toUInt32).toInt32) &&& (3 : Int32)) own_k0 own_v0)))) ((own_res (j4_1 (j0_1 q0 q1 q2 p3) (j4_1 (j0_0 q0 q1 p3) (j4_1 q0 own_k0 own_v0) (j4_2 q0 (((p3.toUInt32 >>> ((5 : Int32) &&& 31).toUInt32).toInt32) &&& (3 : Int32)) own_k0 own_v0)) (j4_2 (j0_0 q0 q1 p3) (((p3.toUInt32 >>> ((7 : Int32) &&& 31).toUInt32).toInt32) &&& (3 : Int32)) (j4_1 q0 own_k0 own_v0) (j4_2 q0 (((p3.toUInt32 >>> ((5 : Int32) &&& 31).toUInt32).toInt32) &&& (3 : Int32)) own_k0 own_v0))) (j4_2 (j0_1 q0 q1 q2 p3) (((p3.toUInt32 >>> ((9 : Int32) &&& 31).toUInt32).toInt32) &&& (4194303 : Int32)) (j4_1 (j0_0 q0 q1 p3) (j4_1 q0 own_k0 own_v0) (j4_2 q0 (((p3.toUInt32 >>> ((5 : Int32) &&& 31).toUInt32).toInt32) &&& (3 : Int32)) own_k0 own_v0)) (j4_2 (j0_0 q0 q1 p3) (((p3.toUInt32 >>> ((7 : Int32) &&& 31).toUInt32).toInt32) &&& (3 : Int32)) (j4_1 q0 own_k0 own_v0) (j4_2 q0 (((p3.toUInt32 >>> ((5 : Int32) &&& 31).toUInt32).toInt32) &&& (3 : Int32)) own_k0 own_v0))) 16)) cy0733 h788 n0 Z797 f796) hZ (hw _ (List.mem_of_getElem? (i := 39) rfl)) (hw _ (List.mem_of_getElem? (i := 38) rfl)) (by decide) (by decide)) (g := (mkF m 257 L_799 [(.long (j0_1 q0 q1 q2 p3)), (.ref cx0733)])) rfl (by rw [hml]; rfl) (argsL := [(.ref cx0733), (.long (j0_1 q0 q1 q2 p3))]) (rest := []) (lenOf pd_8 rfl) rfl (by show 2 * 0 + _ ≤ _; exact Nat.le_of_eq rfl) (hb hby at_257) (fun _ _ => ⟨rfl, e806, (by decide : 5 + 0 ≤ _), (by decide : 41 + 0 ≤ _)⟩)
                  dsimp only [Pt.U, Pt.locs, Pt.cells, Pt.slots] at X812 l812 y812 z812 st812 hQ812
                  replace l812 := l812.symm
                  subst l812 y812 z812
                  obtain ⟨rfl, N812q, e812⟩ := hQ812
                  have N812 := Fr.app N806 N812q
                  have pre814 := fun (t : State) (k : Steps p.tables e below (T812.setTop (mkF m 260 L_799 [(.int (nar .boolean (j7_0 (j0_1 q0 q1 q2 p3) (j4_0 (j0_1 q0 q1 q2 p3) (j4_0 (j0_0 q0 q1 p3) (j4_0 q0 (0 : Int32) own_k0 own_v0) (j4_1 q0 own_k0 own_v0) (j4_2 q0 (((p3.toUInt32 >>> ((5 : Int32) &&& 31).toUInt32).toInt32) &&& (3 : Int32)) own_k0 own_v0)) (j4_1 (j0_0 q0 q1 p3) (j4_1 q0 own_k0 own_v0) (j4_2 q0 (((p3.toUInt32 >>> ((5 : Int32) &&& 31).toUInt32).toInt32) &&& (3 : Int32)) own_k0 own_v0)) (j4_2 (j0_0 q0 q1 p3) (((p3.toUInt32 >>> ((7 : Int32) &&& 31).toUInt32).toInt32) &&& (3 : Int32)) (j4_1 q0 own_k0 own_v0) (j4_2 q0 (((p3.toUInt32 >>> ((5 : Int32) &&& 31).toUInt32).toInt32) &&& (3 : Int32)) own_k0 own_v0))) (own_res (j4_1 (j0_1 q0 q1 q2 p3) (j4_1 (j0_0 q0 q1 p3) (j4_1 q0 own_k0 own_v0) (j4_2 q0 (((p3.toUInt32 >>> ((5 : Int32) &&& 31).toUInt32).toInt32) &&& (3 : Int32)) own_k0 own_v0)) (j4_2 (j0_0 q0 q1 p3) (((p3.toUInt32 >>> ((7 : Int32) &&& 31).toUInt32).toInt32) &&& (3 : Int32)) (j4_1 q0 own_k0 own_v0) (j4_2 q0 (((p3.toUInt32 >>> ((5 : Int32) &&& 31).toUInt32).toInt32) &&& (3 : Int32)) own_k0 own_v0))) (j4_2 (j0_1 q0 q1 q2 p3) (((p3.toUInt32 >>> ((9 : Int32) &&& 31).toUInt32).toInt32) &&& (4194303 : Int32)) (j4_1 (j0_0 q0 q1 p3) (j4_1 q0 own_k0 own_v0) (j4_2 q0 (((p3.toUInt32 >>> ((5 : Int32) &&& 31).toUInt32).toInt32) &&& (3 : Int32)) own_k0 own_v0)) (j4_2 (j0_0 q0 q1 p3) (((p3.toUInt32 >>> ((7 : Int32) &&& 31).toUInt32).toInt32) &&& (3 : Int32)) (j4_1 q0 own_k0 own_v0) (j4_2 q0 (((p3.toUInt32 >>> ((5 : Int32) &&& 31).toUInt32).toInt32) &&& (3 : Int32)) own_k0 own_v0))) 16))))])) t) => pre808 t (by
                    show Steps p.tables e below (T806.setTop (mkF m 240 L_799 [(.int (nar .boolean (j7_0 q0 (j4_0 (j0_1 q0 q1 q2 p3) (j4_0 (j0_0 q0 q1 p3) (j4_0 q0 (0 : Int32) own_k0 own_v0) (j4_1 q0 own_k0 own_v0) (j4_2 q0 (((p3.toUInt32 >>> ((5 : Int32) &&& 31).toUInt32).toInt32) &&& (3 : Int32)) own_k0 own_v0)) (j4_1 (j0_0 q0 q1 p3) (j4_1 q0 own_k0 own_v0) (j4_2 q0 (((p3.toUInt32 >>> ((5 : Int32) &&& 31).toUInt32).toInt32) &&& (3 : Int32)) own_k0 own_v0)) (j4_2 (j0_0 q0 q1 p3) (((p3.toUInt32 >>> ((7 : Int32) &&& 31).toUInt32).toInt32) &&& (3 : Int32)) (j4_1 q0 own_k0 own_v0) (j4_2 q0 (((p3.toUInt32 >>> ((5 : Int32) &&& 31).toUInt32).toInt32) &&& (3 : Int32)) own_k0 own_v0))) (own_res (j4_1 (j0_1 q0 q1 q2 p3) (j4_1 (j0_0 q0 q1 p3) (j4_1 q0 own_k0 own_v0) (j4_2 q0 (((p3.toUInt32 >>> ((5 : Int32) &&& 31).toUInt32).toInt32) &&& (3 : Int32)) own_k0 own_v0)) (j4_2 (j0_0 q0 q1 p3) (((p3.toUInt32 >>> ((7 : Int32) &&& 31).toUInt32).toInt32) &&& (3 : Int32)) (j4_1 q0 own_k0 own_v0) (j4_2 q0 (((p3.toUInt32 >>> ((5 : Int32) &&& 31).toUInt32).toInt32) &&& (3 : Int32)) own_k0 own_v0))) (j4_2 (j0_1 q0 q1 q2 p3) (((p3.toUInt32 >>> ((9 : Int32) &&& 31).toUInt32).toInt32) &&& (4194303 : Int32)) (j4_1 (j0_0 q0 q1 p3) (j4_1 q0 own_k0 own_v0) (j4_2 q0 (((p3.toUInt32 >>> ((5 : Int32) &&& 31).toUInt32).toInt32) &&& (3 : Int32)) own_k0 own_v0)) (j4_2 (j0_0 q0 q1 p3) (((p3.toUInt32 >>> ((7 : Int32) &&& 31).toUInt32).toInt32) &&& (3 : Int32)) (j4_1 q0 own_k0 own_v0) (j4_2 q0 (((p3.toUInt32 >>> ((5 : Int32) &&& 31).toUInt32).toInt32) &&& (3 : Int32)) own_k0 own_v0))) 16))))])) _
                    refine XS.ifYes X806.here hx rfl (pc0 := 240) (pc' := 245) rfl (hb hby at_240) rfl ((if0 _ _).trans (feq hc807).2) (by decide) (by decide) ?_
                    show Steps p.tables e below (T806.setTop (mkF m 245 L_799 [])) _
                    refine XS.iload X806.here hx rfl (hb hby at_245) rfl ?_
                    show Steps p.tables e below (T806.setTop (mkF m 247 L_799 [(.int (2 : Int32))])) _
                    refine XS.iconst X806.here hx rfl (hb hby at_247) ?_
                    show Steps p.tables e below (T806.setTop (mkF m 248 L_799 [(.int (2 : Int32)), (.int (2 : Int32))])) _
                    refine XS.icmpNo X806.here hx rfl (hb hby at_248) rfl (flt (by decide : ¬ ((2 : Int32) < (2 : Int32)))).1 ?_
                    show Steps p.tables e below (T806.setTop (mkF m 251 L_799 [])) _
                    refine XS.aload X806.here hx rfl (hb hby at_251) rfl rfl ?_
                    show Steps p.tables e below (T806.setTop (mkF m 253 L_799 [(.ref cx0733)])) _
                    refine XS.aload X806.here hx rfl (hb hby at_253) rfl rfl ?_
                    show Steps p.tables e below (T806.setTop (mkF m 255 L_799 [(.ref b533), (.ref cx0733)])) _
                    refine XS.iconst X806.here hx rfl (hb hby at_255) ?_
                    show Steps p.tables e below (T806.setTop (mkF m 256 L_799 [(.int (1 : Int32)), (.ref b533), (.ref cx0733)])) _
                    refine X806.laload hx (j := (1 : Int32)) (v := (.long (j0_1 q0 q1 q2 p3))) (by rw [e806]; exact Ar809.1) (State.isArrayOf_alike hZ.alike Ar809.2.1) Ar809.2.2 hin810 hat811 (g := (mkF m 256 L_799 [(.int (1 : Int32)), (.ref b533), (.ref cx0733)])) rfl rfl (hb hby at_256) _ ?_
                    show Steps p.tables e below (T806.setTop (mkF m 257 L_799 [(.long (j0_1 q0 q1 q2 p3)), (.ref cx0733)])) _
                    refine st812 _ ?_
                    exact k)
                  by_cases hc813 : (nar .boolean (j7_0 (j0_1 q0 q1 q2 p3) (j4_0 (j0_1 q0 q1 q2 p3) (j4_0 (j0_0 q0 q1 p3) (j4_0 q0 (0 : Int32) own_k0 own_v0) (j4_1 q0 own_k0 own_v0) (j4_2 q0 (((p3.toUInt32 >>> ((5 : Int32) &&& 31).toUInt32).toInt32) &&& (3 : Int32)) own_k0 own_v0)) (j4_1 (j0_0 q0 q1 p3) (j4_1 q0 own_k0 own_v0) (j4_2 q0 (((p3.toUInt32 >>> ((5 : Int32) &&& 31).toUInt32).toInt32) &&& (3 : Int32)) own_k0 own_v0)) (j4_2 (j0_0 q0 q1 p3) (((p3.toUInt32 >>> ((7 : Int32) &&& 31).toUInt32).toInt32) &&& (3 : Int32)) (j4_1 q0 own_k0 own_v0) (j4_2 q0 (((p3.toUInt32 >>> ((5 : Int32) &&& 31).toUInt32).toInt32) &&& (3 : Int32)) own_k0 own_v0))) (own_res (j4_1 (j0_1 q0 q1 q2 p3) (j4_1 (j0_0 q0 q1 p3) (j4_1 q0 own_k0 own_v0) (j4_2 q0 (((p3.toUInt32 >>> ((5 : Int32) &&& 31).toUInt32).toInt32) &&& (3 : Int32)) own_k0 own_v0)) (j4_2 (j0_0 q0 q1 p3) (((p3.toUInt32 >>> ((7 : Int32) &&& 31).toUInt32).toInt32) &&& (3 : Int32)) (j4_1 q0 own_k0 own_v0) (j4_2 q0 (((p3.toUInt32 >>> ((5 : Int32) &&& 31).toUInt32).toInt32) &&& (3 : Int32)) own_k0 own_v0))) (j4_2 (j0_1 q0 q1 q2 p3) (((p3.toUInt32 >>> ((9 : Int32) &&& 31).toUInt32).toInt32) &&& (4194303 : Int32)) (j4_1 (j0_0 q0 q1 p3) (j4_1 q0 own_k0 own_v0) (j4_2 q0 (((p3.toUInt32 >>> ((5 : Int32) &&& 31).toUInt32).toInt32) &&& (3 : Int32)) own_k0 own_v0)) (j4_2 (j0_0 q0 q1 p3) (((p3.toUInt32 >>> ((7 : Int32) &&& 31).toUInt32).toInt32) &&& (3 : Int32)) (j4_1 q0 own_k0 own_v0) (j4_2 q0 (((p3.toUInt32 >>> ((5 : Int32) &&& 31).toUInt32).toInt32) &&& (3 : Int32)) own_k0 own_v0))) 16))) = (0 : Int32)
                  · skip
                    obtain ⟨fs, hr, hrun, hended, hW, hsame⟩ := X812.leave (v := some (.int (0 : Int32))) (fun h => by rw [Bd.returns] at h; cases h) (BodyLoose.notSynchronized Bd)
                    refine ⟨_, _, pre814 _ ?_, hrun, hended, _, _, rfl, ?_, ⟨_, rfl⟩, hW, hsame.mono (by decide) (by decide)⟩
                    · skip
                      show Steps p.tables e below (T812.setTop (mkF m 260 L_799 [(.int (nar .boolean (j7_0 (j0_1 q0 q1 q2 p3) (j4_0 (j0_1 q0 q1 q2 p3) (j4_0 (j0_0 q0 q1 p3) (j4_0 q0 (0 : Int32) own_k0 own_v0) (j4_1 q0 own_k0 own_v0) (j4_2 q0 (((p3.toUInt32 >>> ((5 : Int32) &&& 31).toUInt32).toInt32) &&& (3 : Int32)) own_k0 own_v0)) (j4_1 (j0_0 q0 q1 p3) (j4_1 q0 own_k0 own_v0) (j4_2 q0 (((p3.toUInt32 >>> ((5 : Int32) &&& 31).toUInt32).toInt32) &&& (3 : Int32)) own_k0 own_v0)) (j4_2 (j0_0 q0 q1 p3) (((p3.toUInt32 >>> ((7 : Int32) &&& 31).toUInt32).toInt32) &&& (3 : Int32)) (j4_1 q0 own_k0 own_v0) (j4_2 q0 (((p3.toUInt32 >>> ((5 : Int32) &&& 31).toUInt32).toInt32) &&& (3 : Int32)) own_k0 own_v0))) (own_res (j4_1 (j0_1 q0 q1 q2 p3) (j4_1 (j0_0 q0 q1 p3) (j4_1 q0 own_k0 own_v0) (j4_2 q0 (((p3.toUInt32 >>> ((5 : Int32) &&& 31).toUInt32).toInt32) &&& (3 : Int32)) own_k0 own_v0)) (j4_2 (j0_0 q0 q1 p3) (((p3.toUInt32 >>> ((7 : Int32) &&& 31).toUInt32).toInt32) &&& (3 : Int32)) (j4_1 q0 own_k0 own_v0) (j4_2 q0 (((p3.toUInt32 >>> ((5 : Int32) &&& 31).toUInt32).toInt32) &&& (3 : Int32)) own_k0 own_v0))) (j4_2 (j0_1 q0 q1 q2 p3) (((p3.toUInt32 >>> ((9 : Int32) &&& 31).toUInt32).toInt32) &&& (4194303 : Int32)) (j4_1 (j0_0 q0 q1 p3) (j4_1 q0 own_k0 own_v0) (j4_2 q0 (((p3.toUInt32 >>> ((5 : Int32) &&& 31).toUInt32).toInt32) &&& (3 : Int32)) own_k0 own_v0)) (j4_2 (j0_0 q0 q1 p3) (((p3.toUInt32 >>> ((7 : Int32) &&& 31).toUInt32).toInt32) &&& (3 : Int32)) (j4_1 q0 own_k0 own_v0) (j4_2 q0 (((p3.toUInt32 >>> ((5 : Int32) &&& 31).toUInt32).toInt32) &&& (3 : Int32)) own_k0 own_v0))) 16))))])) _
                      refine XS.ifNo X812.here hx rfl (hb hby at_260) rfl ((if0 _ _).trans (teq hc813).2) ?_
                      show Steps p.tables e below (T812.setTop (mkF m 263 L_799 [])) _
                      refine XS.iconst X812.here hx rfl (hb hby at_263) ?_
                      show Steps p.tables e below (T812.setTop (mkF m 264 L_799 [(.int (0 : Int32))])) _
                      exact retN X812 hx (t := .boolean) Bd.returns (by simp) (hb hby at_264) hr
                    · show Q0 Z q0 q1 q2 p3 h0 n0 _ T812.heap _
                      rw [e812]
                      have hv : (0 : Int32) = (v0 q0 q1 q2 p3) := by first | exact ((if_neg hc562).trans ((if_neg hc594).trans ((if_neg hc648).trans ((if_pos hc762).trans ((if_neg hc764).trans ((if_neg hc775).trans ((if_pos hc801).trans ((if_neg hc807).trans (if_pos hc813))))))))).symm | (unfold v0; first | (rw [if_neg hc562, if_neg hc594, if_neg hc648, if_pos hc762, if_neg hc764, if_neg hc775, if_pos hc801, if_neg hc807, if_pos hc813]) | (simp only [if_neg hc562, if_neg hc594, if_neg hc648, if_pos hc762, if_neg hc764, if_neg hc775, if_pos hc801, if_neg hc807, if_pos hc813]))
                      exact ⟨(by rw [← hv]), N812⟩
                  · skip
                    obtain ⟨fs, hr, hrun, hended, hW, hsame⟩ := X812.leave (v := some (.int (1 : Int32))) (fun h => by rw [Bd.returns] at h; cases h) (BodyLoose.notSynchronized Bd)
                    refine ⟨_, _, pre814 _ ?_, hrun, hended, _, _, rfl, ?_, ⟨_, rfl⟩, hW, hsame.mono (by decide) (by decide)⟩
                    · skip
                      show Steps p.tables e below (T812.setTop (mkF m 260 L_799 [(.int (nar .boolean (j7_0 (j0_1 q0 q1 q2 p3) (j4_0 (j0_1 q0 q1 q2 p3) (j4_0 (j0_0 q0 q1 p3) (j4_0 q0 (0 : Int32) own_k0 own_v0) (j4_1 q0 own_k0 own_v0) (j4_2 q0 (((p3.toUInt32 >>> ((5 : Int32) &&& 31).toUInt32).toInt32) &&& (3 : Int32)) own_k0 own_v0)) (j4_1 (j0_0 q0 q1 p3) (j4_1 q0 own_k0 own_v0) (j4_2 q0 (((p3.toUInt32 >>> ((5 : Int32) &&& 31).toUInt32).toInt32) &&& (3 : Int32)) own_k0 own_v0)) (j4_2 (j0_0 q0 q1 p3) (((p3.toUInt32 >>> ((7 : Int32) &&& 31).toUInt32).toInt32) &&& (3 : Int32)) (j4_1 q0 own_k0 own_v0) (j4_2 q0 (((p3.toUInt32 >>> ((5 : Int32) &&& 31).toUInt32).toInt32) &&& (3 : Int32)) own_k0 own_v0))) (own_res (j4_1 (j0_1 q0 q1 q2 p3) (j4_1 (j0_0 q0 q1 p3) (j4_1 q0 own_k0 own_v0) (j4_2 q0 (((p3.toUInt32 >>> ((5 : Int32) &&& 31).toUInt32).toInt32) &&& (3 : Int32)) own_k0 own_v0)) (j4_2 (j0_0 q0 q1 p3) (((p3.toUInt32 >>> ((7 : Int32) &&& 31).toUInt32).toInt32) &&& (3 : Int32)) (j4_1 q0 own_k0 own_v0) (j4_2 q0 (((p3.toUInt32 >>> ((5 : Int32) &&& 31).toUInt32).toInt32) &&& (3 : Int32)) own_k0 own_v0))) (j4_2 (j0_1 q0 q1 q2 p3) (((p3.toUInt32 >>> ((9 : Int32) &&& 31).toUInt32).toInt32) &&& (4194303 : Int32)) (j4_1 (j0_0 q0 q1 p3) (j4_1 q0 own_k0 own_v0) (j4_2 q0 (((p3.toUInt32 >>> ((5 : Int32) &&& 31).toUInt32).toInt32) &&& (3 : Int32)) own_k0 own_v0)) (j4_2 (j0_0 q0 q1 p3) (((p3.toUInt32 >>> ((7 : Int32) &&& 31).toUInt32).toInt32) &&& (3 : Int32)) (j4_1 q0 own_k0 own_v0) (j4_2 q0 (((p3.toUInt32 >>> ((5 : Int32) &&& 31).toUInt32).toInt32) &&& (3 : Int32)) own_k0 own_v0))) 16))))])) _
                      refine XS.ifYes X812.here hx rfl (pc0 := 260) (pc' := 265) rfl (hb hby at_260) rfl ((if0 _ _).trans (feq hc813).2) (by decide) (by decide) ?_
                      show Steps p.tables e below (T812.setTop (mkF m 265 L_799 [])) _
                      refine XS.iload X812.here hx rfl (hb hby at_265) rfl ?_
                      show Steps p.tables e below (T812.setTop (mkF m 267 L_799 [(.int (2 : Int32))])) _
                      refine XS.iconst X812.here hx rfl (hb hby at_267) ?_
                      show Steps p.tables e below (T812.setTop (mkF m 268 L_799 [(.int (3 : Int32)), (.int (2 : Int32))])) _
                      refine XS.icmpYes X812.here hx rfl (pc0 := 268) (pc' := 285) rfl (hb hby at_268) rfl (tlt (by decide : (2 : Int32) < (3 : Int32))).1 (by decide) (by decide) ?_
                      show Steps p.tables e below (T812.setTop (mkF m 285 L_799 [])) _
                      refine XS.iconst X812.here hx rfl (hb hby at_285) ?_
                      show Steps p.tables e below (T812.setTop (mkF m 286 L_799 [(.int (1 : Int32))])) _
                      exact retN X812 hx (t := .boolean) Bd.returns (by simp) (hb hby at_286) hr
                    · show Q0 Z q0 q1 q2 p3 h0 n0 _ T812.heap _
                      rw [e812]
                      have hv : (1 : Int32) = (v0 q0 q1 q2 p3) := by first | exact ((if_neg hc562).trans ((if_neg hc594).trans ((if_neg hc648).trans ((if_pos hc762).trans ((if_neg hc764).trans ((if_neg hc775).trans ((if_pos hc801).trans ((if_neg hc807).trans (if_neg hc813))))))))).symm | (unfold v0; first | (rw [if_neg hc562, if_neg hc594, if_neg hc648, if_pos hc762, if_neg hc764, if_neg hc775, if_pos hc801, if_neg hc807, if_neg hc813]) | (simp only [if_neg hc562, if_neg hc594, if_neg hc648, if_pos hc762, if_neg hc764, if_neg hc775, if_pos hc801, if_neg hc807, if_neg hc813]))
                      exact ⟨(by rw [← hv]), N812⟩
              · skip
                obtain ⟨fs, hr, hrun, hended, hW, hsame⟩ := X788.leave (v := some (.int (0 : Int32))) (fun h => by rw [Bd.returns] at h; cases h) (BodyLoose.notSynchronized Bd)
                refine ⟨_, _, pre802 _ ?_, hrun, hended, _, _, rfl, ?_, ⟨_, rfl⟩, hW, hsame.mono (by decide) (by decide)⟩
                · skip
                  show Steps p.tables e below (T788.setTop (mkF m 220 L_799 [(.int (2 : Int32)), (.int (j4_0 (j0_1 q0 q1 q2 p3) (j4_0 (j0_0 q0 q1 p3) (j4_0 q0 (0 : Int32) own_k0 own_v0) (j4_1 q0 own_k0 own_v0) (j4_2 q0 (((p3.toUInt32 >>> ((5 : Int32) &&& 31).toUInt32).toInt32) &&& (3 : Int32)) own_k0 own_v0)) (j4_1 (j0_0 q0 q1 p3) (j4_1 q0 own_k0 own_v0) (j4_2 q0 (((p3.toUInt32 >>> ((5 : Int32) &&& 31).toUInt32).toInt32) &&& (3 : Int32)) own_k0 own_v0)) (j4_2 (j0_0 q0 q1 p3) (((p3.toUInt32 >>> ((7 : Int32) &&& 31).toUInt32).toInt32) &&& (3 : Int32)) (j4_1 q0 own_k0 own_v0) (j4_2 q0 (((p3.toUInt32 >>> ((5 : Int32) &&& 31).toUInt32).toInt32) &&& (3 : Int32)) own_k0 own_v0))))])) _
                  refine XS.icmpNo X788.here hx rfl (hb hby at_220) rfl (feq hc801).1 ?_
                  show Steps p.tables e below (T788.setTop (mkF m 223 L_799 [])) _
                  refine XS.iconst X788.here hx rfl (hb hby at_223) ?_
                  show Steps p.tables e below (T788.setTop (mkF m 224 L_799 [(.int (0 : Int32))])) _
                  exact retN X788 hx (t := .boolean) Bd.returns (by simp) (hb hby at_224) hr
                · show Q0 Z q0 q1 q2 p3 h0 n0 _ T788.heap _
                  rw [e788]
                  have hv : (0 : Int32) = (v0 q0 q1 q2 p3) := by first | exact ((if_neg hc562).trans ((if_neg hc594).trans ((if_neg hc648).trans ((if_pos hc762).trans ((if_neg hc764).trans ((if_neg hc775).trans (if_neg hc801))))))).symm | (unfold v0; first | (rw [if_neg hc562, if_neg hc594, if_neg hc648, if_pos hc762, if_neg hc764, if_neg hc775, if_neg hc801]) | (simp only [if_neg hc562, if_neg hc594, if_neg hc648, if_pos hc762, if_neg hc764, if_neg hc775, if_neg hc801]))
                  exact ⟨(by rw [← hv]), N798⟩
        · skip
          obtain ⟨cl815, Ar815, q815, S815, M815, H815, G815⟩ := id V750
          have hin816 : ¬ ((1 : Int32) < 0 ∨ cl815.slots.size ≤ ((1 : Int32)).toNatClampNeg) := inb_of S815 ⟨by decide, by decide⟩
          obtain ⟨T817, h817, X817, e817, W817, st817⟩ := stJ X750 hx hZ e750 Ar815 (j := (1 : Int32)) hin816 (g := (mkF m 175 L_761 [(.long (j0_0 q0 q1 p3)), (.int (1 : Int32)), (.ref b533)])) rfl rfl (hb hby at_175)
          have V817 : Arv Z h817 b533 k533 .long (3 : Int32) [(.long q0), (.long (j0_0 q0 q1 p3)), (.long (0 : Int64))] (.long (0 : Int64)) := Arv.set Ar815 q815 S815 M815 H815 G815 rfl W817 1 rfl (Nat.le_of_ble_eq_true rfl)
          have f819 := f752.wr W817
          have f820 := f753.other W817 (Or.inl (Ne.symm ne538))
          have f821 := f754.other W817 (Or.inl (Ne.symm ne538))
          have f822 := f755.other W817 (Or.inl (Ne.symm ne538))
          have f823 := f756.other W817 (Ne.symm ne555)
          have f824 := f757.other W817 (Ne.symm ne557)
          have f825 := f758.other W817 (Ne.symm ne742)
          have Z826 := Nat.le_trans Z759 (Keep.of_wr W817).1
          have N827 := Fr.snoc X817 N760 g_b533
          let L_828 : Array Slot := #[.val (.long q0), .second, .val (.long (j0_0 q0 q1 p3)), .second, .val (.long (j0_1 q0 q1 q2 p3)), .second, .val (.int p3), .val (.int (p3 &&& (3 : Int32))), .val (.int (((p3.toUInt32 >>> ((3 : Int32) &&& 31).toUInt32).toInt32) &&& (3 : Int32))), .val (.int (((p3.toUInt32 >>> ((5 : Int32) &&& 31).toUInt32).toInt32) &&& (3 : Int32))), .val (.int (((p3.toUInt32 >>> ((7 : Int32) &&& 31).toUInt32).toInt32) &&& (3 : Int32))), .val (.int (((p3.toUInt32 >>> ((9 : Int32) &&& 31).toUInt32).toInt32) &&& (4194303 : Int32))), .val (.ref b533), .val (.ref b536), .val (.ref cx0733), .val (.int (2 : Int32))]
          have pre830 := fun (t : State) (k : Steps p.tables e below (T817.setTop (mkF m 192 L_828 [(.int (lcmpW (j0_1 q0 q1 q2 p3) q0))])) t) => pre763 t (by
            show Steps p.tables e below (T750.setTop (mkF m 167 L_761 [(.int (lcmpW (j0_0 q0 q1 p3) q0))])) _
            refine XS.ifNo X750.here hx rfl (hb hby at_167) rfl ((if0 _ _).trans (feq (mt (own_eq (j0_0 q0 q1 p3) q0).mp hc762)).1) ?_
            show Steps p.tables e below (T750.setTop (mkF m 170 L_761 [])) _
            refine XS.aload X750.here hx rfl (hb hby at_170) rfl rfl ?_
            show Steps p.tables e below (T750.setTop (mkF m 172 L_761 [(.ref b533)])) _
            refine XS.iload X750.here hx rfl (hb hby at_172) rfl ?_
            show Steps p.tables e below (T750.setTop (mkF m 174 L_761 [(.int (1 : Int32)), (.ref b533)])) _
            refine XS.lloadN X750.here hx rfl (hb hby at_174) rfl ?_
            show Steps p.tables e below (T750.setTop (mkF m 175 L_761 [(.long (j0_0 q0 q1 p3)), (.int (1 : Int32)), (.ref b533)])) _
            refine st817 _ ?_
            show Steps p.tables e below (T817.setTop (mkF m 176 L_761 [])) _
            refine XS.iload X817.here hx rfl (hb hby at_176) rfl ?_
            show Steps p.tables e below (T817.setTop (mkF m 178 L_761 [(.int (1 : Int32))])) _
            refine XS.iconst X817.here hx rfl (hb hby at_178) ?_
            show Steps p.tables e below (T817.setTop (mkF m 179 L_761 [(.int (1 : Int32)), (.int (1 : Int32))])) _
            refine XS.iadd X817.here hx rfl (hb hby at_179) rfl ?_
            show Steps p.tables e below (T817.setTop (mkF m 180 L_761 [(.int (2 : Int32))])) _
            refine XS.istore X817.here hx rfl (hb hby at_180) rfl (l' := L_828) rfl ?_
            show Steps p.tables e below (T817.setTop (mkF m 182 L_828 [])) _
            refine XS.iload X817.here hx rfl (hb hby at_182) rfl ?_
            show Steps p.tables e below (T817.setTop (mkF m 184 L_828 [(.int (p3 &&& (3 : Int32)))])) _
            refine XS.iconst X817.here hx rfl (hb hby at_184) ?_
            show Steps p.tables e below (T817.setTop (mkF m 185 L_828 [(.int (3 : Int32)), (.int (p3 &&& (3 : Int32)))])) _
            refine XS.icmpNo X817.here hx rfl (hb hby at_185) rfl (flt hc648).1 ?_
            show Steps p.tables e below (T817.setTop (mkF m 188 L_828 [])) _
            refine XS.lload X817.here hx rfl (hb hby at_188) rfl ?_
            show Steps p.tables e below (T817.setTop (mkF m 190 L_828 [(.long (j0_1 q0 q1 q2 p3))])) _
            refine XS.lloadN X817.here hx rfl (hb hby at_190) rfl ?_
            show Steps p.tables e below (T817.setTop (mkF m 191 L_828 [(.long q0), (.long (j0_1 q0 q1 q2 p3))])) _
            refine XS.lcmp X817.here hx rfl (hb hby at_191) rfl ?_
            exact k)
          by_cases hc829 : (j0_1 q0 q1 q2 p3) = q0
          · skip
            obtain ⟨cl831, Ar831, q831, S831, M831, H831, G831⟩ := id f825
            have pre833 := fun (t : State) (k : Steps p.tables e below (T817.setTop (mkF m 220 L_828 [(.int (2 : Int32)), (.int (j4_0 (j0_1 q0 q1 q2 p3) (j4_0 (j0_0 q0 q1 p3) (j4_0 q0 (0 : Int32) own_k0 own_v0) (j4_1 q0 own_k0 own_v0) (j4_2 q0 (((p3.toUInt32 >>> ((5 : Int32) &&& 31).toUInt32).toInt32) &&& (3 : Int32)) own_k0 own_v0)) (j4_1 (j0_0 q0 q1 p3) (j4_1 q0 own_k0 own_v0) (j4_2 q0 (((p3.toUInt32 >>> ((5 : Int32) &&& 31).toUInt32).toInt32) &&& (3 : Int32)) own_k0 own_v0)) (j4_2 (j0_0 q0 q1 p3) (((p3.toUInt32 >>> ((7 : Int32) &&& 31).toUInt32).toInt32) &&& (3 : Int32)) (j4_1 q0 own_k0 own_v0) (j4_2 q0 (((p3.toUInt32 >>> ((5 : Int32) &&& 31).toUInt32).toInt32) &&& (3 : Int32)) own_k0 own_v0))))])) t) => pre830 t (by
              show Steps p.tables e below (T817.setTop (mkF m 192 L_828 [(.int (lcmpW (j0_1 q0 q1 q2 p3) q0))])) _
              refine XS.ifYes X817.here hx rfl (pc0 := 192) (pc' := 215) rfl (hb hby at_192) rfl ((if0 _ _).trans (teq ((own_eq (j0_1 q0 q1 q2 p3) q0).mpr hc829)).1) (by decide) (by decide) ?_
              show Steps p.tables e below (T817.setTop (mkF m 215 L_828 [])) _
              refine XS.aload X817.here hx rfl (hb hby at_215) rfl rfl ?_
              show Steps p.tables e below (T817.setTop (mkF m 217 L_828 [(.ref cx0733)])) _
              refine X817.arraylength hx (by rw [e817]; exact Ar831.1) (State.isArrayOf_alike hZ.alike Ar831.2.1) (g := (mkF m 217 L_828 [(.ref cx0733)])) rfl rfl (hb hby at_217) _ ?_
              rw [len_of S831 M831]
              show Steps p.tables e below (T817.setTop (mkF m 218 L_828 [(.int (j4_0 (j0_1 q0 q1 q2 p3) (j4_0 (j0_0 q0 q1 p3) (j4_0 q0 (0 : Int32) own_k0 own_v0) (j4_1 q0 own_k0 own_v0) (j4_2 q0 (((p3.toUInt32 >>> ((5 : Int32) &&& 31).toUInt32).toInt32) &&& (3 : Int32)) own_k0 own_v0)) (j4_1 (j0_0 q0 q1 p3) (j4_1 q0 own_k0 own_v0) (j4_2 q0 (((p3.toUInt32 >>> ((5 : Int32) &&& 31).toUInt32).toInt32) &&& (3 : Int32)) own_k0 own_v0)) (j4_2 (j0_0 q0 q1 p3) (((p3.toUInt32 >>> ((7 : Int32) &&& 31).toUInt32).toInt32) &&& (3 : Int32)) (j4_1 q0 own_k0 own_v0) (j4_2 q0 (((p3.toUInt32 >>> ((5 : Int32) &&& 31).toUInt32).toInt32) &&& (3 : Int32)) own_k0 own_v0))))])) _
              refine XS.iload X817.here hx rfl (hb hby at_218) rfl ?_
              exact k)
            by_cases hc832 : (j4_0 (j0_1 q0 q1 q2 p3) (j4_0 (j0_0 q0 q1 p3) (j4_0 q0 (0 : Int32) own_k0 own_v0) (j4_1 q0 own_k0 own_v0) (j4_2 q0 (((p3.toUInt32 >>> ((5 : Int32) &&& 31).toUInt32).toInt32) &&& (3 : Int32)) own_k0 own_v0)) (j4_1 (j0_0 q0 q1 p3) (j4_1 q0 own_k0 own_v0) (j4_2 q0 (((p3.toUInt32 >>> ((5 : Int32) &&& 31).toUInt32).toInt32) &&& (3 : Int32)) own_k0 own_v0)) (j4_2 (j0_0 q0 q1 p3) (((p3.toUInt32 >>> ((7 : Int32) &&& 31).toUInt32).toInt32) &&& (3 : Int32)) (j4_1 q0 own_k0 own_v0) (j4_2 q0 (((p3.toUInt32 >>> ((5 : Int32) &&& 31).toUInt32).toInt32) &&& (3 : Int32)) own_k0 own_v0))) = (2 : Int32)
            · skip
              obtain ⟨cl834, Ar834, q834, S834, M834, H834, G834⟩ := id V817
              have hin835 : ¬ ((0 : Int32) < 0 ∨ cl834.slots.size ≤ ((0 : Int32)).toNatClampNeg) := inb_of S834 ⟨by decide, by decide⟩
              have hat836 : cl834.slots[((0 : Int32)).toNatClampNeg]? = some (.long q0) := H834.at hin835 rfl
              obtain ⟨_, _, ⟨T837, L837, k837, n837⟩, -, X837, ⟨Lc837, hQ837, l837, y837, z837⟩, st837⟩ := Jvm.LawKit.callS X817 hx (y := (⟨"com/example/pathfield/pathfield/query/LongIntMapKeysPinLaw", "has", "([JJ)Z"⟩ : MethodName)) hown (mvT hZ (hw _ (List.mem_of_getElem? (i := 36) rfl))) (mvT hZ (hw _ (List.mem_of_getElem? (i := 37) rfl))) (mvT hZ (hw _ (List.mem_of_getElem? (i := 38) rfl))) (mvT hZ (hw _ (List.mem_of_getElem? (i := 39) rfl))) (by decide) (backOf (W := 0) (rm7 l Z aw hw [] cx0733 q0 ((j4_0 (j0_1 q0 q1 q2 p3) (j4_0 (j0_0 q0 q1 p3) (j4_0 q0 (0 : Int32) own_k0 own_v0) (j4_1 q0 own_k0 own_v0) (j4_2 q0 (((p3.toUInt32 >>> ((5 : Int32) &&& 31).toUInt32).toInt32) &&& (3 : Int32)) own_k0 own_v0)) (j4_1 (j0_0 q0 q1 p3) (j4_1 q0 own_k0 own_v0) (j4_2 q0 (((p3.toUInt32 >>> ((5 : Int32) &&& 31).toUInt32).toInt32) &&& (3 : Int32)) own_k0 own_v0)) (j4_2 (j0_0 q0 q1 p3) (((p3.toUInt32 >>> ((7 : Int32) &&& 31).toUInt32).toInt32) &&& (3 : Int32)) (j4_1 q0 own_k0 own_v0) (j4_2 q0 (((p3.toUInt32 >>> ((5 : Int32) &&& 31).toUInt32).toInt32) &&& (3 : Int32)) own_k0 own_v0)))) ((own_res (j4_1 (j0_1 q0 q1 q2 p3) (j4_1 (j0_0 q0 q1 p3) (j4_1 q0 own_k0 own_v0) (j4_2 q0 (((p3.toUInt32 >>> ((5 : Int32) &&& 31).toUInt32).toInt32) &&& (3 : Int32)) own_k0 own_v0)) (j4_2 (j0_0 q0 q1 p3) (((p3.toUInt32 >>> ((7 : Int32) &&& 31).toUInt32).toInt32) &&& (3 : Int32)) (j4_1 q0 own_k0 own_v0) (j4_2 q0 (((p3.toUInt32 >>> ((5 : Int32) &&& 31).toUInt32).toInt32) &&& (3 : Int32)) own_k0 own_v0))) (j4_2 (j0_1 q0 q1 q2 p3) (((p3.toUInt32 >>> ((9 : Int32) &&& 31).toUInt32).toInt32) &&& (4194303 : Int32)) (j4_1 (j0_0 q0 q1 p3) (j4_1 q0 own_k0 own_v0) (j4_2 q0 (((p3.toUInt32 >>> ((5 : Int32) &&& 31).toUInt32).toInt32) &&& (3 : Int32)) own_k0 own_v0)) (j4_2 (j0_0 q0 q1 p3) (((p3.toUInt32 >>> ((7 : Int32) &&& 31).toUInt32).toInt32) &&& (3 : Int32)) (j4_1 q0 own_k0 own_v0) (j4_2 q0 (((p3.toUInt32 >>> ((5 : Int32) &&& 31).toUInt32).toInt32) &&& (3 : Int32)) own_k0 own_v0))) 16)) cy0733 h817 n0 Z826 f825) hZ (hw _ (List.mem_of_getElem? (i := 39) rfl)) (hw _ (List.mem_of_getElem? (i := 38) rfl)) (by decide) (by decide)) (g := (mkF m 237 L_828 [(.long q0), (.ref cx0733)])) rfl (by rw [hml]; rfl) (argsL := [(.ref cx0733), (.long q0)]) (rest := []) (lenOf pd_8 rfl) rfl (by show 2 * 0 + _ ≤ _; exact Nat.le_of_eq rfl) (hb hby at_237) (fun _ _ => ⟨rfl, e817, (by decide : 5 + 0 ≤ _), (by decide : 41 + 0 ≤ _)⟩)
              dsimp only [Pt.U, Pt.locs, Pt.cells, Pt.slots] at X837 l837 y837 z837 st837 hQ837
              replace l837 := l837.symm
              subst l837 y837 z837
              obtain ⟨rfl, N837q, e837⟩ := hQ837
              have N837 := Fr.app N827 N837q
              have pre839 := fun (t : State) (k : Steps p.tables e below (T837.setTop (mkF m 240 L_828 [(.int (nar .boolean (j7_0 q0 (j4_0 (j0_1 q0 q1 q2 p3) (j4_0 (j0_0 q0 q1 p3) (j4_0 q0 (0 : Int32) own_k0 own_v0) (j4_1 q0 own_k0 own_v0) (j4_2 q0 (((p3.toUInt32 >>> ((5 : Int32) &&& 31).toUInt32).toInt32) &&& (3 : Int32)) own_k0 own_v0)) (j4_1 (j0_0 q0 q1 p3) (j4_1 q0 own_k0 own_v0) (j4_2 q0 (((p3.toUInt32 >>> ((5 : Int32) &&& 31).toUInt32).toInt32) &&& (3 : Int32)) own_k0 own_v0)) (j4_2 (j0_0 q0 q1 p3) (((p3.toUInt32 >>> ((7 : Int32) &&& 31).toUInt32).toInt32) &&& (3 : Int32)) (j4_1 q0 own_k0 own_v0) (j4_2 q0 (((p3.toUInt32 >>> ((5 : Int32) &&& 31).toUInt32).toInt32) &&& (3 : Int32)) own_k0 own_v0))) (own_res (j4_1 (j0_1 q0 q1 q2 p3) (j4_1 (j0_0 q0 q1 p3) (j4_1 q0 own_k0 own_v0) (j4_2 q0 (((p3.toUInt32 >>> ((5 : Int32) &&& 31).toUInt32).toInt32) &&& (3 : Int32)) own_k0 own_v0)) (j4_2 (j0_0 q0 q1 p3) (((p3.toUInt32 >>> ((7 : Int32) &&& 31).toUInt32).toInt32) &&& (3 : Int32)) (j4_1 q0 own_k0 own_v0) (j4_2 q0 (((p3.toUInt32 >>> ((5 : Int32) &&& 31).toUInt32).toInt32) &&& (3 : Int32)) own_k0 own_v0))) (j4_2 (j0_1 q0 q1 q2 p3) (((p3.toUInt32 >>> ((9 : Int32) &&& 31).toUInt32).toInt32) &&& (4194303 : Int32)) (j4_1 (j0_0 q0 q1 p3) (j4_1 q0 own_k0 own_v0) (j4_2 q0 (((p3.toUInt32 >>> ((5 : Int32) &&& 31).toUInt32).toInt32) &&& (3 : Int32)) own_k0 own_v0)) (j4_2 (j0_0 q0 q1 p3) (((p3.toUInt32 >>> ((7 : Int32) &&& 31).toUInt32).toInt32) &&& (3 : Int32)) (j4_1 q0 own_k0 own_v0) (j4_2 q0 (((p3.toUInt32 >>> ((5 : Int32) &&& 31).toUInt32).toInt32) &&& (3 : Int32)) own_k0 own_v0))) 16))))])) t) => pre833 t (by
                show Steps p.tables e below (T817.setTop (mkF m 220 L_828 [(.int (2 : Int32)), (.int (j4_0 (j0_1 q0 q1 q2 p3) (j4_0 (j0_0 q0 q1 p3) (j4_0 q0 (0 : Int32) own_k0 own_v0) (j4_1 q0 own_k0 own_v0) (j4_2 q0 (((p3.toUInt32 >>> ((5 : Int32) &&& 31).toUInt32).toInt32) &&& (3 : Int32)) own_k0 own_v0)) (j4_1 (j0_0 q0 q1 p3) (j4_1 q0 own_k0 own_v0) (j4_2 q0 (((p3.toUInt32 >>> ((5 : Int32) &&& 31).toUInt32).toInt32) &&& (3 : Int32)) own_k0 own_v0)) (j4_2 (j0_0 q0 q1 p3) (((p3.toUInt32 >>> ((7 : Int32) &&& 31).toUInt32).toInt32) &&& (3 : Int32)) (j4_1 q0 own_k0 own_v0) (j4_2 q0 (((p3.toUInt32 >>> ((5 : Int32) &&& 31).toUInt32).toInt32) &&& (3 : Int32)) own_k0 own_v0))))])) _
                refine XS.icmpYes X817.here hx rfl (pc0 := 220) (pc' := 225) rfl (hb hby at_220) rfl (teq hc832).1 (by decide) (by decide) ?_
                show Steps p.tables e below (T817.setTop (mkF m 225 L_828 [])) _
                refine XS.iload X817.here hx rfl (hb hby at_225) rfl ?_
                show Steps p.tables e below (T817.setTop (mkF m 227 L_828 [(.int (2 : Int32))])) _
                refine XS.iconst X817.here hx rfl (hb hby at_227) ?_
                show Steps p.tables e below (T817.setTop (mkF m 228 L_828 [(.int (1 : Int32)), (.int (2 : Int32))])) _
                refine XS.icmpNo X817.here hx rfl (hb hby at_228) rfl (flt (by decide : ¬ ((2 : Int32) < (1 : Int32)))).1 ?_
                show Steps p.tables e below (T817.setTop (mkF m 231 L_828 [])) _
                refine XS.aload X817.here hx rfl (hb hby at_231) rfl rfl ?_
                show Steps p.tables e below (T817.setTop (mkF m 233 L_828 [(.ref cx0733)])) _
                refine XS.aload X817.here hx rfl (hb hby at_233) rfl rfl ?_
                show Steps p.tables e below (T817.setTop (mkF m 235 L_828 [(.ref b533), (.ref cx0733)])) _
                refine XS.iconst X817.here hx rfl (hb hby at_235) ?_
                show Steps p.tables e below (T817.setTop (mkF m 236 L_828 [(.int (0 : Int32)), (.ref b533), (.ref cx0733)])) _
                refine X817.laload hx (j := (0 : Int32)) (v := (.long q0)) (by rw [e817]; exact Ar834.1) (State.isArrayOf_alike hZ.alike Ar834.2.1) Ar834.2.2 hin835 hat836 (g := (mkF m 236 L_828 [(.int (0 : Int32)), (.ref b533), (.ref cx0733)])) rfl rfl (hb hby at_236) _ ?_
                show Steps p.tables e below (T817.setTop (mkF m 237 L_828 [(.long q0), (.ref cx0733)])) _
                refine st837 _ ?_
                exact k)
              by_cases hc838 : (nar .boolean (j7_0 q0 (j4_0 (j0_1 q0 q1 q2 p3) (j4_0 (j0_0 q0 q1 p3) (j4_0 q0 (0 : Int32) own_k0 own_v0) (j4_1 q0 own_k0 own_v0) (j4_2 q0 (((p3.toUInt32 >>> ((5 : Int32) &&& 31).toUInt32).toInt32) &&& (3 : Int32)) own_k0 own_v0)) (j4_1 (j0_0 q0 q1 p3) (j4_1 q0 own_k0 own_v0) (j4_2 q0 (((p3.toUInt32 >>> ((5 : Int32) &&& 31).toUInt32).toInt32) &&& (3 : Int32)) own_k0 own_v0)) (j4_2 (j0_0 q0 q1 p3) (((p3.toUInt32 >>> ((7 : Int32) &&& 31).toUInt32).toInt32) &&& (3 : Int32)) (j4_1 q0 own_k0 own_v0) (j4_2 q0 (((p3.toUInt32 >>> ((5 : Int32) &&& 31).toUInt32).toInt32) &&& (3 : Int32)) own_k0 own_v0))) (own_res (j4_1 (j0_1 q0 q1 q2 p3) (j4_1 (j0_0 q0 q1 p3) (j4_1 q0 own_k0 own_v0) (j4_2 q0 (((p3.toUInt32 >>> ((5 : Int32) &&& 31).toUInt32).toInt32) &&& (3 : Int32)) own_k0 own_v0)) (j4_2 (j0_0 q0 q1 p3) (((p3.toUInt32 >>> ((7 : Int32) &&& 31).toUInt32).toInt32) &&& (3 : Int32)) (j4_1 q0 own_k0 own_v0) (j4_2 q0 (((p3.toUInt32 >>> ((5 : Int32) &&& 31).toUInt32).toInt32) &&& (3 : Int32)) own_k0 own_v0))) (j4_2 (j0_1 q0 q1 q2 p3) (((p3.toUInt32 >>> ((9 : Int32) &&& 31).toUInt32).toInt32) &&& (4194303 : Int32)) (j4_1 (j0_0 q0 q1 p3) (j4_1 q0 own_k0 own_v0) (j4_2 q0 (((p3.toUInt32 >>> ((5 : Int32) &&& 31).toUInt32).toInt32) &&& (3 : Int32)) own_k0 own_v0)) (j4_2 (j0_0 q0 q1 p3) (((p3.toUInt32 >>> ((7 : Int32) &&& 31).toUInt32).toInt32) &&& (3 : Int32)) (j4_1 q0 own_k0 own_v0) (j4_2 q0 (((p3.toUInt32 >>> ((5 : Int32) &&& 31).toUInt32).toInt32) &&& (3 : Int32)) own_k0 own_v0))) 16))) = (0 : Int32)
              · skip
                obtain ⟨fs, hr, hrun, hended, hW, hsame⟩ := X837.leave (v := some (.int (0 : Int32))) (fun h => by rw [Bd.returns] at h; cases h) (BodyLoose.notSynchronized Bd)
                refine ⟨_, _, pre839 _ ?_, hrun, hended, _, _, rfl, ?_, ⟨_, rfl⟩, hW, hsame.mono (by decide) (by decide)⟩
                · skip
                  show Steps p.tables e below (T837.setTop (mkF m 240 L_828 [(.int (nar .boolean (j7_0 q0 (j4_0 (j0_1 q0 q1 q2 p3) (j4_0 (j0_0 q0 q1 p3) (j4_0 q0 (0 : Int32) own_k0 own_v0) (j4_1 q0 own_k0 own_v0) (j4_2 q0 (((p3.toUInt32 >>> ((5 : Int32) &&& 31).toUInt32).toInt32) &&& (3 : Int32)) own_k0 own_v0)) (j4_1 (j0_0 q0 q1 p3) (j4_1 q0 own_k0 own_v0) (j4_2 q0 (((p3.toUInt32 >>> ((5 : Int32) &&& 31).toUInt32).toInt32) &&& (3 : Int32)) own_k0 own_v0)) (j4_2 (j0_0 q0 q1 p3) (((p3.toUInt32 >>> ((7 : Int32) &&& 31).toUInt32).toInt32) &&& (3 : Int32)) (j4_1 q0 own_k0 own_v0) (j4_2 q0 (((p3.toUInt32 >>> ((5 : Int32) &&& 31).toUInt32).toInt32) &&& (3 : Int32)) own_k0 own_v0))) (own_res (j4_1 (j0_1 q0 q1 q2 p3) (j4_1 (j0_0 q0 q1 p3) (j4_1 q0 own_k0 own_v0) (j4_2 q0 (((p3.toUInt32 >>> ((5 : Int32) &&& 31).toUInt32).toInt32) &&& (3 : Int32)) own_k0 own_v0)) (j4_2 (j0_0 q0 q1 p3) (((p3.toUInt32 >>> ((7 : Int32) &&& 31).toUInt32).toInt32) &&& (3 : Int32)) (j4_1 q0 own_k0 own_v0) (j4_2 q0 (((p3.toUInt32 >>> ((5 : Int32) &&& 31).toUInt32).toInt32) &&& (3 : Int32)) own_k0 own_v0))) (j4_2 (j0_1 q0 q1 q2 p3) (((p3.toUInt32 >>> ((9 : Int32) &&& 31).toUInt32).toInt32) &&& (4194303 : Int32)) (j4_1 (j0_0 q0 q1 p3) (j4_1 q0 own_k0 own_v0) (j4_2 q0 (((p3.toUInt32 >>> ((5 : Int32) &&& 31).toUInt32).toInt32) &&& (3 : Int32)) own_k0 own_v0)) (j4_2 (j0_0 q0 q1 p3) (((p3.toUInt32 >>> ((7 : Int32) &&& 31).toUInt32).toInt32) &&& (3 : Int32)) (j4_1 q0 own_k0 own_v0) (j4_2 q0 (((p3.toUInt32 >>> ((5 : Int32) &&& 31).toUInt32).toInt32) &&& (3 : Int32)) own_k0 own_v0))) 16))))])) _
                  refine XS.ifNo X837.here hx rfl (hb hby at_240) rfl ((if0 _ _).trans (teq hc838).2) ?_
                  show Steps p.tables e below (T837.setTop (mkF m 243 L_828 [])) _
                  refine XS.iconst X837.here hx rfl (hb hby at_243) ?_
                  show Steps p.tables e below (T837.setTop (mkF m 244 L_828 [(.int (0 : Int32))])) _
                  exact retN X837 hx (t := .boolean) Bd.returns (by simp) (hb hby at_244) hr
                · show Q0 Z q0 q1 q2 p3 h0 n0 _ T837.heap _
                  rw [e837]
                  have hv : (0 : Int32) = (v0 q0 q1 q2 p3) := by first | exact ((if_neg hc562).trans ((if_neg hc594).trans ((if_neg hc648).trans ((if_neg hc762).trans ((if_pos hc829).trans ((if_pos hc832).trans (if_pos hc838))))))).symm | (unfold v0; first | (rw [if_neg hc562, if_neg hc594, if_neg hc648, if_neg hc762, if_pos hc829, if_pos hc832, if_pos hc838]) | (simp only [if_neg hc562, if_neg hc594, if_neg hc648, if_neg hc762, if_pos hc829, if_pos hc832, if_pos hc838]))
                  exact ⟨(by rw [← hv]), N837⟩
              · skip
                obtain ⟨cl840, Ar840, q840, S840, M840, H840, G840⟩ := id V817
                have hin841 : ¬ ((1 : Int32) < 0 ∨ cl840.slots.size ≤ ((1 : Int32)).toNatClampNeg) := inb_of S840 ⟨by decide, by decide⟩
                have hat842 : cl840.slots[((1 : Int32)).toNatClampNeg]? = some (.long (j0_0 q0 q1 p3)) := H840.at hin841 rfl
                obtain ⟨_, _, ⟨T843, L843, k843, n843⟩, -, X843, ⟨Lc843, hQ843, l843, y843, z843⟩, st843⟩ := Jvm.LawKit.callS X837 hx (y := (⟨"com/example/pathfield/pathfield/query/LongIntMapKeysPinLaw", "has", "([JJ)Z"⟩ : MethodName)) hown (mvT hZ (hw _ (List.mem_of_getElem? (i := 36) rfl))) (mvT hZ (hw _ (List.mem_of_getElem? (i := 37) rfl))) (mvT hZ (hw _ (List.mem_of_getElem? (i := 38) rfl))) (mvT hZ (hw _ (List.mem_of_getElem? (i := 39) rfl))) (by decide) (backOf (W := 0) (rm7 l Z aw hw [] cx0733 ((j0_0 q0 q1 p3)) ((j4_0 (j0_1 q0 q1 q2 p3) (j4_0 (j0_0 q0 q1 p3) (j4_0 q0 (0 : Int32) own_k0 own_v0) (j4_1 q0 own_k0 own_v0) (j4_2 q0 (((p3.toUInt32 >>> ((5 : Int32) &&& 31).toUInt32).toInt32) &&& (3 : Int32)) own_k0 own_v0)) (j4_1 (j0_0 q0 q1 p3) (j4_1 q0 own_k0 own_v0) (j4_2 q0 (((p3.toUInt32 >>> ((5 : Int32) &&& 31).toUInt32).toInt32) &&& (3 : Int32)) own_k0 own_v0)) (j4_2 (j0_0 q0 q1 p3) (((p3.toUInt32 >>> ((7 : Int32) &&& 31).toUInt32).toInt32) &&& (3 : Int32)) (j4_1 q0 own_k0 own_v0) (j4_2 q0 (((p3.toUInt32 >>> ((5 : Int32) &&& 31).toUInt32).toInt32) &&& (3 : Int32)) own_k0 own_v0)))) ((own_res (j4_1 (j0_1 q0 q1 q2 p3) (j4_1 (j0_0 q0 q1 p3) (j4_1 q0 own_k0 own_v0) (j4_2 q0 (((p3.toUInt32 >>> ((5 : Int32) &&& 31).toUInt32).toInt32) &&& (3 : Int32)) own_k0 own_v0)) (j4_2 (j0_0 q0 q1 p3) (((p3.toUInt32 >>> ((7 : Int32) &&& 31).toUInt32).toInt32) &&& (3 : Int32)) (j4_1 q0 own_k0 own_v0) (j4_2 q0 (((p3.toUInt32 >>> ((5 : Int32) &&& 31).toUInt32).toInt32) &&& (3 : Int32)) own_k0 own_v0))) (j4_2 (j0_1 q0 q1 q2 p3) (((p3.toUInt32 >>> ((9 : Int32) &&& 31).toUInt32).toInt32) &&& (4194303 : Int32)) (j4_1 (j0_0 q0 q1 p3) (j4_1 q0 own_k0 own_v0) (j4_2 q0 (((p3.toUInt32 >>> ((5 : Int32) &&& 31).toUInt32).toInt32) &&& (3 : Int32)) own_k0 own_v0)) (j4_2 (j0_0 q0 q1 p3) (((p3.toUInt32 >>> ((7 : Int32) &&& 31).toUInt32).toInt32) &&& (3 : Int32)) (j4_1 q0 own_k0 own_v0) (j4_2 q0 (((p3.toUInt32 >>> ((5 : Int32) &&& 31).toUInt32).toInt32) &&& (3 : Int32)) own_k0 own_v0))) 16)) cy0733 h817 n0 Z826 f825) hZ (hw _ (List.mem_of_getElem? (i := 39) rfl)) (hw _ (List.mem_of_getElem? (i := 38) rfl)) (by decide) (by decide)) (g := (mkF m 257 L_828 [(.long (j0_0 q0 q1 p3)), (.ref cx0733)])) rfl (by rw [hml]; rfl) (argsL := [(.ref cx0733), (.long (j0_0 q0 q1 p3))]) (rest := []) (lenOf pd_8 rfl) rfl (by show 2 * 0 + _ ≤ _; exact Nat.le_of_eq rfl) (hb hby at_257) (fun _ _ => ⟨rfl, e837, (by decide : 5 + 0 ≤ _), (by decide : 41 + 0 ≤ _)⟩)
                dsimp only [Pt.U, Pt.locs, Pt.cells, Pt.slots] at X843 l843 y843 z843 st843 hQ843
                replace l843 := l843.symm
                subst l843 y843 z843
                obtain ⟨rfl, N843q, e843⟩ := hQ843
                have N843 := Fr.app N837 N843q
                have pre845 := fun (t : State) (k : Steps p.tables e below (T843.setTop (mkF m 260 L_828 [(.int (nar .boolean (j7_0 (j0_0 q0 q1 p3) (j4_0 (j0_1 q0 q1 q2 p3) (j4_0 (j0_0 q0 q1 p3) (j4_0 q0 (0 : Int32) own_k0 own_v0) (j4_1 q0 own_k0 own_v0) (j4_2 q0 (((p3.toUInt32 >>> ((5 : Int32) &&& 31).toUInt32).toInt32) &&& (3 : Int32)) own_k0 own_v0)) (j4_1 (j0_0 q0 q1 p3) (j4_1 q0 own_k0 own_v0) (j4_2 q0 (((p3.toUInt32 >>> ((5 : Int32) &&& 31).toUInt32).toInt32) &&& (3 : Int32)) own_k0 own_v0)) (j4_2 (j0_0 q0 q1 p3) (((p3.toUInt32 >>> ((7 : Int32) &&& 31).toUInt32).toInt32) &&& (3 : Int32)) (j4_1 q0 own_k0 own_v0) (j4_2 q0 (((p3.toUInt32 >>> ((5 : Int32) &&& 31).toUInt32).toInt32) &&& (3 : Int32)) own_k0 own_v0))) (own_res (j4_1 (j0_1 q0 q1 q2 p3) (j4_1 (j0_0 q0 q1 p3) (j4_1 q0 own_k0 own_v0) (j4_2 q0 (((p3.toUInt32 >>> ((5 : Int32) &&& 31).toUInt32).toInt32) &&& (3 : Int32)) own_k0 own_v0)) (j4_2 (j0_0 q0 q1 p3) (((p3.toUInt32 >>> ((7 : Int32) &&& 31).toUInt32).toInt32) &&& (3 : Int32)) (j4_1 q0 own_k0 own_v0) (j4_2 q0 (((p3.toUInt32 >>> ((5 : Int32) &&& 31).toUInt32).toInt32) &&& (3 : Int32)) own_k0 own_v0))) (j4_2 (j0_1 q0 q1 q2 p3) (((p3.toUInt32 >>> ((9 : Int32) &&& 31).toUInt32).toInt32) &&& (4194303 : Int32)) (j4_1 (j0_0 q0 q1 p3) (j4_1 q0 own_k0 own_v0) (j4_2 q0 (((p3.toUInt32 >>> ((5 : Int32) &&& 31).toUInt32).toInt32) &&& (3 : Int32)) own_k0 own_v0)) (j4_2 (j0_0 q0 q1 p3) (((p3.toUInt32 >>> ((7 : Int32) &&& 31).toUInt32).toInt32) &&& (3 : Int32)) (j4_1 q0 own_k0 own_v0) (j4_2 q0 (((p3.toUInt32 >>> ((5 : Int32) &&& 31).toUInt32).toInt32) &&& (3 : Int32)) own_k0 own_v0))) 16))))])) t) => pre839 t (by
                  show Steps p.tables e below (T837.setTop (mkF m 240 L_828 [(.int (nar .boolean (j7_0 q0 (j4_0 (j0_1 q0 q1 q2 p3) (j4_0 (j0_0 q0 q1 p3) (j4_0 q0 (0 : Int32) own_k0 own_v0) (j4_1 q0 own_k0 own_v0) (j4_2 q0 (((p3.toUInt32 >>> ((5 : Int32) &&& 31).toUInt32).toInt32) &&& (3 : Int32)) own_k0 own_v0)) (j4_1 (j0_0 q0 q1 p3) (j4_1 q0 own_k0 own_v0) (j4_2 q0 (((p3.toUInt32 >>> ((5 : Int32) &&& 31).toUInt32).toInt32) &&& (3 : Int32)) own_k0 own_v0)) (j4_2 (j0_0 q0 q1 p3) (((p3.toUInt32 >>> ((7 : Int32) &&& 31).toUInt32).toInt32) &&& (3 : Int32)) (j4_1 q0 own_k0 own_v0) (j4_2 q0 (((p3.toUInt32 >>> ((5 : Int32) &&& 31).toUInt32).toInt32) &&& (3 : Int32)) own_k0 own_v0))) (own_res (j4_1 (j0_1 q0 q1 q2 p3) (j4_1 (j0_0 q0 q1 p3) (j4_1 q0 own_k0 own_v0) (j4_2 q0 (((p3.toUInt32 >>> ((5 : Int32) &&& 31).toUInt32).toInt32) &&& (3 : Int32)) own_k0 own_v0)) (j4_2 (j0_0 q0 q1 p3) (((p3.toUInt32 >>> ((7 : Int32) &&& 31).toUInt32).toInt32) &&& (3 : Int32)) (j4_1 q0 own_k0 own_v0) (j4_2 q0 (((p3.toUInt32 >>> ((5 : Int32) &&& 31).toUInt32).toInt32) &&& (3 : Int32)) own_k0 own_v0))) (j4_2 (j0_1 q0 q1 q2 p3) (((p3.toUInt32 >>> ((9 : Int32) &&& 31).toUInt32).toInt32) &&& (4194303 : Int32)) (j4_1 (j0_0 q0 q1 p3) (j4_1 q0 own_k0 own_v0) (j4_2 q0 (((p3.toUInt32 >>> ((5 : Int32) &&& 31).toUInt32).toInt32) &&& (3 : Int32)) own_k0 own_v0)) (j4_2 (j0_0 q0 q1 p3) (((p3.toUInt32 >>> ((7 : Int32) &&& 31).toUInt32).toInt32) &&& (3 : Int32)) (j4_1 q0 own_k0 own_v0) (j4_2 q0 (((p3.toUInt32 >>> ((5 : Int32) &&& 31).toUInt32).toInt32) &&& (3 : Int32)) own_k0 own_v0))) 16))))])) _
                  refine XS.ifYes X837.here hx rfl (pc0 := 240) (pc' := 245) rfl (hb hby at_240) rfl ((if0 _ _).trans (feq hc838).2) (by decide) (by decide) ?_
                  show Steps p.tables e below (T837.setTop (mkF m 245 L_828 [])) _
                  refine XS.iload X837.here hx rfl (hb hby at_245) rfl ?_
                  show Steps p.tables e below (T837.setTop (mkF m 247 L_828 [(.int (2 : Int32))])) _
                  refine XS.iconst X837.here hx rfl (hb hby at_247) ?_
                  show Steps p.tables e below (T837.setTop (mkF m 248 L_828 [(.int (2 : Int32)), (.int (2 : Int32))])) _
                  refine XS.icmpNo X837.here hx rfl (hb hby at_248) rfl (flt (by decide : ¬ ((2 : Int32) < (2 : Int32)))).1 ?_
                  show Steps p.tables e below (T837.setTop (mkF m 251 L_828 [])) _
                  refine XS.aload X837.here hx rfl (hb hby at_251) rfl rfl ?_
                  show Steps p.tables e below (T837.setTop (mkF m 253 L_828 [(.ref cx0733)])) _
                  refine XS.aload X837.here hx rfl (hb hby at_253) rfl rfl ?_
                  show Steps p.tables e below (T837.setTop (mkF m 255 L_828 [(.ref b533), (.ref cx0733)])) _
                  refine XS.iconst X837.here hx rfl (hb hby at_255) ?_
                  show Steps p.tables e below (T837.setTop (mkF m 256 L_828 [(.int (1 : Int32)), (.ref b533), (.ref cx0733)])) _
                  refine X837.laload hx (j := (1 : Int32)) (v := (.long (j0_0 q0 q1 p3))) (by rw [e837]; exact Ar840.1) (State.isArrayOf_alike hZ.alike Ar840.2.1) Ar840.2.2 hin841 hat842 (g := (mkF m 256 L_828 [(.int (1 : Int32)), (.ref b533), (.ref cx0733)])) rfl rfl (hb hby at_256) _ ?_
                  show Steps p.tables e below (T837.setTop (mkF m 257 L_828 [(.long (j0_0 q0 q1 p3)), (.ref cx0733)])) _
                  refine st843 _ ?_
                  exact k)
                by_cases hc844 : (nar .boolean (j7_0 (j0_0 q0 q1 p3) (j4_0 (j0_1 q0 q1 q2 p3) (j4_0 (j0_0 q0 q1 p3) (j4_0 q0 (0 : Int32) own_k0 own_v0) (j4_1 q0 own_k0 own_v0) (j4_2 q0 (((p3.toUInt32 >>> ((5 : Int32) &&& 31).toUInt32).toInt32) &&& (3 : Int32)) own_k0 own_v0)) (j4_1 (j0_0 q0 q1 p3) (j4_1 q0 own_k0 own_v0) (j4_2 q0 (((p3.toUInt32 >>> ((5 : Int32) &&& 31).toUInt32).toInt32) &&& (3 : Int32)) own_k0 own_v0)) (j4_2 (j0_0 q0 q1 p3) (((p3.toUInt32 >>> ((7 : Int32) &&& 31).toUInt32).toInt32) &&& (3 : Int32)) (j4_1 q0 own_k0 own_v0) (j4_2 q0 (((p3.toUInt32 >>> ((5 : Int32) &&& 31).toUInt32).toInt32) &&& (3 : Int32)) own_k0 own_v0))) (own_res (j4_1 (j0_1 q0 q1 q2 p3) (j4_1 (j0_0 q0 q1 p3) (j4_1 q0 own_k0 own_v0) (j4_2 q0 (((p3.toUInt32 >>> ((5 : Int32) &&& 31).toUInt32).toInt32) &&& (3 : Int32)) own_k0 own_v0)) (j4_2 (j0_0 q0 q1 p3) (((p3.toUInt32 >>> ((7 : Int32) &&& 31).toUInt32).toInt32) &&& (3 : Int32)) (j4_1 q0 own_k0 own_v0) (j4_2 q0 (((p3.toUInt32 >>> ((5 : Int32) &&& 31).toUInt32).toInt32) &&& (3 : Int32)) own_k0 own_v0))) (j4_2 (j0_1 q0 q1 q2 p3) (((p3.toUInt32 >>> ((9 : Int32) &&& 31).toUInt32).toInt32) &&& (4194303 : Int32)) (j4_1 (j0_0 q0 q1 p3) (j4_1 q0 own_k0 own_v0) (j4_2 q0 (((p3.toUInt32 >>> ((5 : Int32) &&& 31).toUInt32).toInt32) &&& (3 : Int32)) own_k0 own_v0)) (j4_2 (j0_0 q0 q1 p3) (((p3.toUInt32 >>> ((7 : Int32) &&& 31).toUInt32).toInt32) &&& (3 : Int32)) (j4_1 q0 own_k0 own_v0) (j4_2 q0 (((p3.toUInt32 >>> ((5 : Int32) &&& 31).toUInt32).toInt32) &&& (3 : Int32)) own_k0 own_v0))) 16))) = (0 : Int32)
                · skip
                  obtain ⟨fs, hr, hrun, hended, hW, hsame⟩ := X843.leave (v := some (.int (0 : Int32))) (fun h => by rw [Bd.returns] at h; cases h) (BodyLoose.notSynchronized Bd)
                  refine ⟨_, _, pre845 _ ?_, hrun, hended, _, _, rfl, ?_, ⟨_, rfl⟩, hW, hsame.mono (by decide) (by decide)⟩
                  · skip
                    show Steps p.tables e below (T843.setTop (mkF m 260 L_828 [(.int (nar .boolean (j7_0 (j0_0 q0 q1 p3) (j4_0 (j0_1 q0 q1 q2 p3) (j4_0 (j0_0 q0 q1 p3) (j4_0 q0 (0 : Int32) own_k0 own_v0) (j4_1 q0 own_k0 own_v0) (j4_2 q0 (((p3.toUInt32 >>> ((5 : Int32) &&& 31).toUInt32).toInt32) &&& (3 : Int32)) own_k0 own_v0)) (j4_1 (j0_0 q0 q1 p3) (j4_1 q0 own_k0 own_v0) (j4_2 q0 (((p3.toUInt32 >>> ((5 : Int32) &&& 31).toUInt32).toInt32) &&& (3 : Int32)) own_k0 own_v0)) (j4_2 (j0_0 q0 q1 p3) (((p3.toUInt32 >>> ((7 : Int32) &&& 31).toUInt32).toInt32) &&& (3 : Int32)) (j4_1 q0 own_k0 own_v0) (j4_2 q0 (((p3.toUInt32 >>> ((5 : Int32) &&& 31).toUInt32).toInt32) &&& (3 : Int32)) own_k0 own_v0))) (own_res (j4_1 (j0_1 q0 q1 q2 p3) (j4_1 (j0_0 q0 q1 p3) (j4_1 q0 own_k0 own_v0) (j4_2 q0 (((p3.toUInt32 >>> ((5 : Int32) &&& 31).toUInt32).toInt32) &&& (3 : Int32)) own_k0 own_v0)) (j4_2 (j0_0 q0 q1 p3) (((p3.toUInt32 >>> ((7 : Int32) &&& 31).toUInt32).toInt32) &&& (3 : Int32)) (j4_1 q0 own_k0 own_v0) (j4_2 q0 (((p3.toUInt32 >>> ((5 : Int32) &&& 31).toUInt32).toInt32) &&& (3 : Int32)) own_k0 own_v0))) (j4_2 (j0_1 q0 q1 q2 p3) (((p3.toUInt32 >>> ((9 : Int32) &&& 31).toUInt32).toInt32) &&& (4194303 : Int32)) (j4_1 (j0_0 q0 q1 p3) (j4_1 q0 own_k0 own_v0) (j4_2 q0 (((p3.toUInt32 >>> ((5 : Int32) &&& 31).toUInt32).toInt32) &&& (3 : Int32)) own_k0 own_v0)) (j4_2 (j0_0 q0 q1 p3) (((p3.toUInt32 >>> ((7 : Int32) &&& 31).toUInt32).toInt32) &&& (3 : Int32)) (j4_1 q0 own_k0 own_v0) (j4_2 q0 (((p3.toUInt32 >>> ((5 : Int32) &&& 31).toUInt32).toInt32) &&& (3 : Int32)) own_k0 own_v0))) 16))))])) _
                    refine XS.ifNo X843.here hx rfl (hb hby at_260) rfl ((if0 _ _).trans (teq hc844).2) ?_
                    show Steps p.tables e below (T843.setTop (mkF m 263 L_828 [])) _
                    refine XS.iconst X843.here hx rfl (hb hby at_263) ?_
                    show Steps p.tables e below (T843.setTop (mkF m 264 L_828 [(.int (0 : Int32))])) _
                    exact retN X843 hx (t := .boolean) Bd.returns (by simp) (hb hby at_264) hr
                  · show Q0 Z q0 q1 q2 p3 h0 n0 _ T843.heap _
                    rw [e843]
                    have hv : (0 : Int32) = (v0 q0 q1 q2 p3) := by first | exact ((if_neg hc562).trans ((if_neg hc594).trans ((if_neg hc648).trans ((if_neg hc762).trans ((if_pos hc829).trans ((if_pos hc832).trans ((if_neg hc838).trans (if_pos hc844)))))))).symm | (unfold v0; first | (rw [if_neg hc562, if_neg hc594, if_neg hc648, if_neg hc762, if_pos hc829, if_pos hc832, if_neg hc838, if_pos hc844]) | (simp only [if_neg hc562, if_neg hc594, if_neg hc648, if_neg hc762, if_pos hc829, if_pos hc832, if_neg hc838, if_pos hc844]))
                    exact ⟨(by rw [← hv]), N843⟩
                · skip
                  obtain ⟨fs, hr, hrun, hended, hW, hsame⟩ := X843.leave (v := some (.int (1 : Int32))) (fun h => by rw [Bd.returns] at h; cases h) (BodyLoose.notSynchronized Bd)
                  refine ⟨_, _, pre845 _ ?_, hrun, hended, _, _, rfl, ?_, ⟨_, rfl⟩, hW, hsame.mono (by decide) (by decide)⟩
                  · skip
                    show Steps p.tables e below (T843.setTop (mkF m 260 L_828 [(.int (nar .boolean (j7_0 (j0_0 q0 q1 p3) (j4_0 (j0_1 q0 q1 q2 p3) (j4_0 (j0_0 q0 q1 p3) (j4_0 q0 (0 : Int32) own_k0 own_v0) (j4_1 q0 own_k0 own_v0) (j4_2 q0 (((p3.toUInt32 >>> ((5 : Int32) &&& 31).toUInt32).toInt32) &&& (3 : Int32)) own_k0 own_v0)) (j4_1 (j0_0 q0 q1 p3) (j4_1 q0 own_k0 own_v0) (j4_2 q0 (((p3.toUInt32 >>> ((5 : Int32) &&& 31).toUInt32).toInt32) &&& (3 : Int32)) own_k0 own_v0)) (j4_2 (j0_0 q0 q1 p3) (((p3.toUInt32 >>> ((7 : Int32) &&& 31).toUInt32).toInt32) &&& (3 : Int32)) (j4_1 q0 own_k0 own_v0) (j4_2 q0 (((p3.toUInt32 >>> ((5 : Int32) &&& 31).toUInt32).toInt32) &&& (3 : Int32)) own_k0 own_v0))) (own_res (j4_1 (j0_1 q0 q1 q2 p3) (j4_1 (j0_0 q0 q1 p3) (j4_1 q0 own_k0 own_v0) (j4_2 q0 (((p3.toUInt32 >>> ((5 : Int32) &&& 31).toUInt32).toInt32) &&& (3 : Int32)) own_k0 own_v0)) (j4_2 (j0_0 q0 q1 p3) (((p3.toUInt32 >>> ((7 : Int32) &&& 31).toUInt32).toInt32) &&& (3 : Int32)) (j4_1 q0 own_k0 own_v0) (j4_2 q0 (((p3.toUInt32 >>> ((5 : Int32) &&& 31).toUInt32).toInt32) &&& (3 : Int32)) own_k0 own_v0))) (j4_2 (j0_1 q0 q1 q2 p3) (((p3.toUInt32 >>> ((9 : Int32) &&& 31).toUInt32).toInt32) &&& (4194303 : Int32)) (j4_1 (j0_0 q0 q1 p3) (j4_1 q0 own_k0 own_v0) (j4_2 q0 (((p3.toUInt32 >>> ((5 : Int32) &&& 31).toUInt32).toInt32) &&& (3 : Int32)) own_k0 own_v0)) (j4_2 (j0_0 q0 q1 p3) (((p3.toUInt32 >>> ((7 : Int32) &&& 31).toUInt32).toInt32) &&& (3 : Int32)) (j4_1 q0 own_k0 own_v0) (j4_2 q0 (((p3.toUInt32 >>> ((5 : Int32) &&& 31).toUInt32).toInt32) &&& (3 : Int32)) own_k0 own_v0))) 16))))])) _
                    refine XS.ifYes X843.here hx rfl (pc0 := 260) (pc' := 265) rfl (hb hby at_260) rfl ((if0 _ _).trans (feq hc844).2) (by decide) (by decide) ?_
                    show Steps p.tables e below (T843.setTop (mkF m 265 L_828 [])) _
                    refine XS.iload X843.here hx rfl (hb hby at_265) rfl ?_
                    show Steps p.tables e below (T843.setTop (mkF m 267 L_828 [(.int (2 : Int32))])) _
                    refine XS.iconst X843.here hx rfl (hb hby at_267) ?_
                    show Steps p.tables e below (T843.setTop (mkF m 268 L_828 [(.int (3 : Int32)), (.int (2 : Int32))])) _
                    refine XS.icmpYes X843.here hx rfl (pc0 := 268) (pc' := 285) rfl (hb hby at_268) rfl (tlt (by decide : (2 : Int32) < (3 : Int32))).1 (by decide) (by decide) ?_
                    show Steps p.tables e below (T843.setTop (mkF m 285 L_828 [])) _
                    refine XS.iconst X843.here hx rfl (hb hby at_285) ?_
                    show Steps p.tables e below (T843.setTop (mkF m 286 L_828 [(.int (1 : Int32))])) _
                    exact retN X843 hx (t := .boolean) Bd.returns (by simp) (hb hby at_286) hr
                  · show Q0 Z q0 q1 q2 p3 h0 n0 _ T843.heap _
                    rw [e843]
                    have hv : (1 : Int32) = (v0 q0 q1 q2 p3) := by first | exact ((if_neg hc562).trans ((if_neg hc594).trans ((if_neg hc648).trans ((if_neg hc762).trans ((if_pos hc829).trans ((if_pos hc832).trans ((if_neg hc838).trans (if_neg hc844)))))))).symm | (unfold v0; first | (rw [if_neg hc562, if_neg hc594, if_neg hc648, if_neg hc762, if_pos hc829, if_pos hc832, if_neg hc838, if_neg hc844]) | (simp only [if_neg hc562, if_neg hc594, if_neg hc648, if_neg hc762, if_pos hc829, if_pos hc832, if_neg hc838, if_neg hc844]))
                    exact ⟨(by rw [← hv]), N843⟩
            · skip
              obtain ⟨fs, hr, hrun, hended, hW, hsame⟩ := X817.leave (v := some (.int (0 : Int32))) (fun h => by rw [Bd.returns] at h; cases h) (BodyLoose.notSynchronized Bd)
              refine ⟨_, _, pre833 _ ?_, hrun, hended, _, _, rfl, ?_, ⟨_, rfl⟩, hW, hsame.mono (by decide) (by decide)⟩
              · skip
                show Steps p.tables e below (T817.setTop (mkF m 220 L_828 [(.int (2 : Int32)), (.int (j4_0 (j0_1 q0 q1 q2 p3) (j4_0 (j0_0 q0 q1 p3) (j4_0 q0 (0 : Int32) own_k0 own_v0) (j4_1 q0 own_k0 own_v0) (j4_2 q0 (((p3.toUInt32 >>> ((5 : Int32) &&& 31).toUInt32).toInt32) &&& (3 : Int32)) own_k0 own_v0)) (j4_1 (j0_0 q0 q1 p3) (j4_1 q0 own_k0 own_v0) (j4_2 q0 (((p3.toUInt32 >>> ((5 : Int32) &&& 31).toUInt32).toInt32) &&& (3 : Int32)) own_k0 own_v0)) (j4_2 (j0_0 q0 q1 p3) (((p3.toUInt32 >>> ((7 : Int32) &&& 31).toUInt32).toInt32) &&& (3 : Int32)) (j4_1 q0 own_k0 own_v0) (j4_2 q0 (((p3.toUInt32 >>> ((5 : Int32) &&& 31).toUInt32).toInt32) &&& (3 : Int32)) own_k0 own_v0))))])) _
                refine XS.icmpNo X817.here hx rfl (hb hby at_220) rfl (feq hc832).1 ?_
                show Steps p.tables e below (T817.setTop (mkF m 223 L_828 [])) _
                refine XS.iconst X817.here hx rfl (hb hby at_223) ?_
                show Steps p.tables e below (T817.setTop (mkF m 224 L_828 [(.int (0 : Int32))])) _
                exact retN X817 hx (t := .boolean) Bd.returns (by simp) (hb hby at_224) hr
              · show Q0 Z q0 q1 q2 p3 h0 n0 _ T817.heap _
                rw [e817]
                have hv : (0 : Int32) = (v0 q0 q1 q2 p3) := by first | exact ((if_neg hc562).trans ((if_neg hc594).trans ((if_neg hc648).trans ((if_neg hc762).trans ((if_pos hc829).trans (if_neg hc832)))))).symm | (unfold v0; first | (rw [if_neg hc562, if_neg hc594, if_neg hc648, if_neg hc762, if_pos hc829, if_neg hc832]) | (simp only [if_neg hc562, if_neg hc594, if_neg hc648, if_neg hc762, if_pos hc829, if_neg hc832]))
                exact ⟨(by rw [← hv]), N827⟩
          · skip
            have pre847 := fun (t : State) (k : Steps p.tables e below (T817.setTop (mkF m 199 L_828 [(.int (lcmpW (j0_1 q0 q1 q2 p3) (j0_0 q0 q1 p3)))])) t) => pre830 t (by
              show Steps p.tables e below (T817.setTop (mkF m 192 L_828 [(.int (lcmpW (j0_1 q0 q1 q2 p3) q0))])) _
              refine XS.ifNo X817.here hx rfl (hb hby at_192) rfl ((if0 _ _).trans (feq (mt (own_eq (j0_1 q0 q1 q2 p3) q0).mp hc829)).1) ?_
              show Steps p.tables e below (T817.setTop (mkF m 195 L_828 [])) _
              refine XS.lload X817.here hx rfl (hb hby at_195) rfl ?_
              show Steps p.tables e below (T817.setTop (mkF m 197 L_828 [(.long (j0_1 q0 q1 q2 p3))])) _
              refine XS.lloadN X817.here hx rfl (hb hby at_197) rfl ?_
              show Steps p.tables e below (T817.setTop (mkF m 198 L_828 [(.long (j0_0 q0 q1 p3)), (.long (j0_1 q0 q1 q2 p3))])) _
              refine XS.lcmp X817.here hx rfl (hb hby at_198) rfl ?_
              exact k)
            by_cases hc846 : (j0_1 q0 q1 q2 p3) = (j0_0 q0 q1 p3)
            · skip
              obtain ⟨cl848, Ar848, q848, S848, M848, H848, G848⟩ := id f825
              have pre850 := fun (t : State) (k : Steps p.tables e below (T817.setTop (mkF m 220 L_828 [(.int (2 : Int32)), (.int (j4_0 (j0_1 q0 q1 q2 p3) (j4_0 (j0_0 q0 q1 p3) (j4_0 q0 (0 : Int32) own_k0 own_v0) (j4_1 q0 own_k0 own_v0) (j4_2 q0 (((p3.toUInt32 >>> ((5 : Int32) &&& 31).toUInt32).toInt32) &&& (3 : Int32)) own_k0 own_v0)) (j4_1 (j0_0 q0 q1 p3) (j4_1 q0 own_k0 own_v0) (j4_2 q0 (((p3.toUInt32 >>> ((5 : Int32) &&& 31).toUInt32).toInt32) &&& (3 : Int32)) own_k0 own_v0)) (j4_2 (j0_0 q0 q1 p3) (((p3.toUInt32 >>> ((7 : Int32) &&& 31).toUInt32).toInt32) &&& (3 : Int32)) (j4_1 q0 own_k0 own_v0) (j4_2 q0 (((p3.toUInt32 >>> ((5 : Int32) &&& 31).toUInt32).toInt32) &&& (3 : Int32)) own_k0 own_v0))))])) t) => pre847 t (by
                show Steps p.tables e below (T817.setTop (mkF m 199 L_828 [(.int (lcmpW (j0_1 q0 q1 q2 p3) (j0_0 q0 q1 p3)))])) _
                refine XS.ifYes X817.here hx rfl (pc0 := 199) (pc' := 215) rfl (hb hby at_199) rfl ((if0 _ _).trans (teq ((own_eq (j0_1 q0 q1 q2 p3) (j0_0 q0 q1 p3)).mpr hc846)).1) (by decide) (by decide) ?_
                show Steps p.tables e below (T817.setTop (mkF m 215 L_828 [])) _
                refine XS.aload X817.here hx rfl (hb hby at_215) rfl rfl ?_
                show Steps p.tables e below (T817.setTop (mkF m 217 L_828 [(.ref cx0733)])) _
                refine X817.arraylength hx (by rw [e817]; exact Ar848.1) (State.isArrayOf_alike hZ.alike Ar848.2.1) (g := (mkF m 217 L_828 [(.ref cx0733)])) rfl rfl (hb hby at_217) _ ?_
                rw [len_of S848 M848]
                show Steps p.tables e below (T817.setTop (mkF m 218 L_828 [(.int (j4_0 (j0_1 q0 q1 q2 p3) (j4_0 (j0_0 q0 q1 p3) (j4_0 q0 (0 : Int32) own_k0 own_v0) (j4_1 q0 own_k0 own_v0) (j4_2 q0 (((p3.toUInt32 >>> ((5 : Int32) &&& 31).toUInt32).toInt32) &&& (3 : Int32)) own_k0 own_v0)) (j4_1 (j0_0 q0 q1 p3) (j4_1 q0 own_k0 own_v0) (j4_2 q0 (((p3.toUInt32 >>> ((5 : Int32) &&& 31).toUInt32).toInt32) &&& (3 : Int32)) own_k0 own_v0)) (j4_2 (j0_0 q0 q1 p3) (((p3.toUInt32 >>> ((7 : Int32) &&& 31).toUInt32).toInt32) &&& (3 : Int32)) (j4_1 q0 own_k0 own_v0) (j4_2 q0 (((p3.toUInt32 >>> ((5 : Int32) &&& 31).toUInt32).toInt32) &&& (3 : Int32)) own_k0 own_v0))))])) _
                refine XS.iload X817.here hx rfl (hb hby at_218) rfl ?_
                exact k)
              by_cases hc849 : (j4_0 (j0_1 q0 q1 q2 p3) (j4_0 (j0_0 q0 q1 p3) (j4_0 q0 (0 : Int32) own_k0 own_v0) (j4_1 q0 own_k0 own_v0) (j4_2 q0 (((p3.toUInt32 >>> ((5 : Int32) &&& 31).toUInt32).toInt32) &&& (3 : Int32)) own_k0 own_v0)) (j4_1 (j0_0 q0 q1 p3) (j4_1 q0 own_k0 own_v0) (j4_2 q0 (((p3.toUInt32 >>> ((5 : Int32) &&& 31).toUInt32).toInt32) &&& (3 : Int32)) own_k0 own_v0)) (j4_2 (j0_0 q0 q1 p3) (((p3.toUInt32 >>> ((7 : Int32) &&& 31).toUInt32).toInt32) &&& (3 : Int32)) (j4_1 q0 own_k0 own_v0) (j4_2 q0 (((p3.toUInt32 >>> ((5 : Int32) &&& 31).toUInt32).toInt32) &&& (3 : Int32)) own_k0 own_v0))) = (2 : Int32)
              · skip
                obtain ⟨cl851, Ar851, q851, S851, M851, H851, G851⟩ := id V817
                have hin852 : ¬ ((0 : Int32) < 0 ∨ cl851.slots.size ≤ ((0 : Int32)).toNatClampNeg) := inb_of S851 ⟨by decide, by decide⟩
                have hat853 : cl851.slots[((0 : Int32)).toNatClampNeg]? = some (.long q0) := H851.at hin852 rfl
                obtain ⟨_, _, ⟨T854, L854, k854, n854⟩, -, X854, ⟨Lc854, hQ854, l854, y854, z854⟩, st854⟩ := Jvm.LawKit.callS X817 hx (y := (⟨"com/example/pathfield/pathfield/query/LongIntMapKeysPinLaw", "has", "([JJ)Z"⟩ : MethodName)) hown (mvT hZ (hw _ (List.mem_of_getElem? (i := 36) rfl))) (mvT hZ (hw _ (List.mem_of_getElem? (i := 37) rfl))) (mvT hZ (hw _ (List.mem_of_getElem? (i := 38) rfl))) (mvT hZ (hw _ (List.mem_of_getElem? (i := 39) rfl))) (by decide) (backOf (W := 0) (rm7 l Z aw hw [] cx0733 q0 ((j4_0 (j0_1 q0 q1 q2 p3) (j4_0 (j0_0 q0 q1 p3) (j4_0 q0 (0 : Int32) own_k0 own_v0) (j4_1 q0 own_k0 own_v0) (j4_2 q0 (((p3.toUInt32 >>> ((5 : Int32) &&& 31).toUInt32).toInt32) &&& (3 : Int32)) own_k0 own_v0)) (j4_1 (j0_0 q0 q1 p3) (j4_1 q0 own_k0 own_v0) (j4_2 q0 (((p3.toUInt32 >>> ((5 : Int32) &&& 31).toUInt32).toInt32) &&& (3 : Int32)) own_k0 own_v0)) (j4_2 (j0_0 q0 q1 p3) (((p3.toUInt32 >>> ((7 : Int32) &&& 31).toUInt32).toInt32) &&& (3 : Int32)) (j4_1 q0 own_k0 own_v0) (j4_2 q0 (((p3.toUInt32 >>> ((5 : Int32) &&& 31).toUInt32).toInt32) &&& (3 : Int32)) own_k0 own_v0)))) ((own_res (j4_1 (j0_1 q0 q1 q2 p3) (j4_1 (j0_0 q0 q1 p3) (j4_1 q0 own_k0 own_v0) (j4_2 q0 (((p3.toUInt32 >>> ((5 : Int32) &&& 31).toUInt32).toInt32) &&& (3 : Int32)) own_k0 own_v0)) (j4_2 (j0_0 q0 q1 p3) (((p3.toUInt32 >>> ((7 : Int32) &&& 31).toUInt32).toInt32) &&& (3 : Int32)) (j4_1 q0 own_k0 own_v0) (j4_2 q0 (((p3.toUInt32 >>> ((5 : Int32) &&& 31).toUInt32).toInt32) &&& (3 : Int32)) own_k0 own_v0))) (j4_2 (j0_1 q0 q1 q2 p3) (((p3.toUInt32 >>> ((9 : Int32) &&& 31).toUInt32).toInt32) &&& (4194303 : Int32)) (j4_1 (j0_0 q0 q1 p3) (j4_1 q0 own_k0 own_v0) (j4_2 q0 (((p3.toUInt32 >>> ((5 : Int32) &&& 31).toUInt32).toInt32) &&& (3 : Int32)) own_k0 own_v0)) (j4_2 (j0_0 q0 q1 p3) (((p3.toUInt32 >>> ((7 : Int32) &&& 31).toUInt32).toInt32) &&& (3 : Int32)) (j4_1 q0 own_k0 own_v0) (j4_2 q0 (((p3.toUInt32 >>> ((5 : Int32) &&& 31).toUInt32).toInt32) &&& (3 : Int32)) own_k0 own_v0))) 16)) cy0733 h817 n0 Z826 f825) hZ (hw _ (List.mem_of_getElem? (i := 39) rfl)) (hw _ (List.mem_of_getElem? (i := 38) rfl)) (by decide) (by decide)) (g := (mkF m 237 L_828 [(.long q0), (.ref cx0733)])) rfl (by rw [hml]; rfl) (argsL := [(.ref cx0733), (.long q0)]) (rest := []) (lenOf pd_8 rfl) rfl (by show 2 * 0 + _ ≤ _; exact Nat.le_of_eq rfl) (hb hby at_237) (fun _ _ => ⟨rfl, e817, (by decide : 5 + 0 ≤ _), (by decide : 41 + 0 ≤ _)⟩)
                dsimp only [Pt.U, Pt.locs, Pt.cells, Pt.slots] at X854 l854 y854 z854 st854 hQ854
                replace l854 := l854.symm
                subst l854 y854 z854
                obtain ⟨rfl, N854q, e854⟩ := hQ854
                have N854 := Fr.app N827 N854q
                have pre856 := fun (t : State) (k : Steps p.tables e below (T854.setTop (mkF m 240 L_828 [(.int (nar .boolean (j7_0 q0 (j4_0 (j0_1 q0 q1 q2 p3) (j4_0 (j0_0 q0 q1 p3) (j4_0 q0 (0 : Int32) own_k0 own_v0) (j4_1 q0 own_k0 own_v0) (j4_2 q0 (((p3.toUInt32 >>> ((5 : Int32) &&& 31).toUInt32).toInt32) &&& (3 : Int32)) own_k0 own_v0)) (j4_1 (j0_0 q0 q1 p3) (j4_1 q0 own_k0 own_v0) (j4_2 q0 (((p3.toUInt32 >>> ((5 : Int32) &&& 31).toUInt32).toInt32) &&& (3 : Int32)) own_k0 own_v0)) (j4_2 (j0_0 q0 q1 p3) (((p3.toUInt32 >>> ((7 : Int32) &&& 31).toUInt32).toInt32) &&& (3 : Int32)) (j4_1 q0 own_k0 own_v0) (j4_2 q0 (((p3.toUInt32 >>> ((5 : Int32) &&& 31).toUInt32).toInt32) &&& (3 : Int32)) own_k0 own_v0))) (own_res (j4_1 (j0_1 q0 q1 q2 p3) (j4_1 (j0_0 q0 q1 p3) (j4_1 q0 own_k0 own_v0) (j4_2 q0 (((p3.toUInt32 >>> ((5 : Int32) &&& 31).toUInt32).toInt32) &&& (3 : Int32)) own_k0 own_v0)) (j4_2 (j0_0 q0 q1 p3) (((p3.toUInt32 >>> ((7 : Int32) &&& 31).toUInt32).toInt32) &&& (3 : Int32)) (j4_1 q0 own_k0 own_v0) (j4_2 q0 (((p3.toUInt32 >>> ((5 : Int32) &&& 31).toUInt32).toInt32) &&& (3 : Int32)) own_k0 own_v0))) (j4_2 (j0_1 q0 q1 q2 p3) (((p3.toUInt32 >>> ((9 : Int32) &&& 31).toUInt32).toInt32) &&& (4194303 : Int32)) (j4_1 (j0_0 q0 q1 p3) (j4_1 q0 own_k0 own_v0) (j4_2 q0 (((p3.toUInt32 >>> ((5 : Int32) &&& 31).toUInt32).toInt32) &&& (3 : Int32)) own_k0 own_v0)) (j4_2 (j0_0 q0 q1 p3) (((p3.toUInt32 >>> ((7 : Int32) &&& 31).toUInt32).toInt32) &&& (3 : Int32)) (j4_1 q0 own_k0 own_v0) (j4_2 q0 (((p3.toUInt32 >>> ((5 : Int32) &&& 31).toUInt32).toInt32) &&& (3 : Int32)) own_k0 own_v0))) 16))))])) t) => pre850 t (by
                  show Steps p.tables e below (T817.setTop (mkF m 220 L_828 [(.int (2 : Int32)), (.int (j4_0 (j0_1 q0 q1 q2 p3) (j4_0 (j0_0 q0 q1 p3) (j4_0 q0 (0 : Int32) own_k0 own_v0) (j4_1 q0 own_k0 own_v0) (j4_2 q0 (((p3.toUInt32 >>> ((5 : Int32) &&& 31).toUInt32).toInt32) &&& (3 : Int32)) own_k0 own_v0)) (j4_1 (j0_0 q0 q1 p3) (j4_1 q0 own_k0 own_v0) (j4_2 q0 (((p3.toUInt32 >>> ((5 : Int32) &&& 31).toUInt32).toInt32) &&& (3 : Int32)) own_k0 own_v0)) (j4_2 (j0_0 q0 q1 p3) (((p3.toUInt32 >>> ((7 : Int32) &&& 31).toUInt32).toInt32) &&& (3 : Int32)) (j4_1 q0 own_k0 own_v0) (j4_2 q0 (((p3.toUInt32 >>> ((5 : Int32) &&& 31).toUInt32).toInt32) &&& (3 : Int32)) own_k0 own_v0))))])) _
                  refine XS.icmpYes X817.here hx rfl (pc0 := 220) (pc' := 225) rfl (hb hby at_220) rfl (teq hc849).1 (by decide) (by decide) ?_
                  show Steps p.tables e below (T817.setTop (mkF m 225 L_828 [])) _
                  refine XS.iload X817.here hx rfl (hb hby at_225) rfl ?_
                  show Steps p.tables e below (T817.setTop (mkF m 227 L_828 [(.int (2 : Int32))])) _
                  refine XS.iconst X817.here hx rfl (hb hby at_227) ?_
                  show Steps p.tables e below (T817.setTop (mkF m 228 L_828 [(.int (1 : Int32)), (.int (2 : Int32))])) _
                  refine XS.icmpNo X817.here hx rfl (hb hby at_228) rfl (flt (by decide : ¬ ((2 : Int32) < (1 : Int32)))).1 ?_
                  show Steps p.tables e below (T817.setTop (mkF m 231 L_828 [])) _
                  refine XS.aload X817.here hx rfl (hb hby at_231) rfl rfl ?_
                  show Steps p.tables e below (T817.setTop (mkF m 233 L_828 [(.ref cx0733)])) _
                  refine XS.aload X817.here hx rfl (hb hby at_233) rfl rfl ?_
                  show Steps p.tables e below (T817.setTop (mkF m 235 L_828 [(.ref b533), (.ref cx0733)])) _
                  refine XS.iconst X817.here hx rfl (hb hby at_235) ?_
                  show Steps p.tables e below (T817.setTop (mkF m 236 L_828 [(.int (0 : Int32)), (.ref b533), (.ref cx0733)])) _
                  refine X817.laload hx (j := (0 : Int32)) (v := (.long q0)) (by rw [e817]; exact Ar851.1) (State.isArrayOf_alike hZ.alike Ar851.2.1) Ar851.2.2 hin852 hat853 (g := (mkF m 236 L_828 [(.int (0 : Int32)), (.ref b533), (.ref cx0733)])) rfl rfl (hb hby at_236) _ ?_
                  show Steps p.tables e below (T817.setTop (mkF m 237 L_828 [(.long q0), (.ref cx0733)])) _
                  refine st854 _ ?_
                  exact k)
                by_cases hc855 : (nar .boolean (j7_0 q0 (j4_0 (j0_1 q0 q1 q2 p3) (j4_0 (j0_0 q0 q1 p3) (j4_0 q0 (0 : Int32) own_k0 own_v0) (j4_1 q0 own_k0 own_v0) (j4_2 q0 (((p3.toUInt32 >>> ((5 : Int32) &&& 31).toUInt32).toInt32) &&& (3 : Int32)) own_k0 own_v0)) (j4_1 (j0_0 q0 q1 p3) (j4_1 q0 own_k0 own_v0) (j4_2 q0 (((p3.toUInt32 >>> ((5 : Int32) &&& 31).toUInt32).toInt32) &&& (3 : Int32)) own_k0 own_v0)) (j4_2 (j0_0 q0 q1 p3) (((p3.toUInt32 >>> ((7 : Int32) &&& 31).toUInt32).toInt32) &&& (3 : Int32)) (j4_1 q0 own_k0 own_v0) (j4_2 q0 (((p3.toUInt32 >>> ((5 : Int32) &&& 31).toUInt32).toInt32) &&& (3 : Int32)) own_k0 own_v0))) (own_res (j4_1 (j0_1 q0 q1 q2 p3) (j4_1 (j0_0 q0 q1 p3) (j4_1 q0 own_k0 own_v0) (j4_2 q0 (((p3.toUInt32 >>> ((5 : Int32) &&& 31).toUInt32).toInt32) &&& (3 : Int32)) own_k0 own_v0)) (j4_2 (j0_0 q0 q1 p3) (((p3.toUInt32 >>> ((7 : Int32) &&& 31).toUInt32).toInt32) &&& (3 : Int32)) (j4_1 q0 own_k0 own_v0) (j4_2 q0 (((p3.toUInt32 >>> ((5 : Int32) &&& 31).toUInt32).toInt32) &&& (3 : Int32)) own_k0 own_v0))) (j4_2 (j0_1 q0 q1 q2 p3) (((p3.toUInt32 >>> ((9 : Int32) &&& 31).toUInt32).toInt32) &&& (4194303 : Int32)) (j4_1 (j0_0 q0 q1 p3) (j4_1 q0 own_k0 own_v0) (j4_2 q0 (((p3.toUInt32 >>> ((5 : Int32) &&& 31).toUInt32).toInt32) &&& (3 : Int32)) own_k0 own_v0)) (j4_2 (j0_0 q0 q1 p3) (((p3.toUInt32 >>> ((7 : Int32) &&& 31).toUInt32).toInt32) &&& (3 : Int32)) (j4_1 q0 own_k0 own_v0) (j4_2 q0 (((p3.toUInt32 >>> ((5 : Int32) &&& 31).toUInt32).toInt32) &&& (3 : Int32)) own_k0 own_v0))) 16))) = (0 : Int32)
                · skip
                  obtain ⟨fs, hr, hrun, hended, hW, hsame⟩ := X854.leave (v := some (.int (0 : Int32))) (fun h => by rw [Bd.returns] at h; cases h) (BodyLoose.notSynchronized Bd)
                  refine ⟨_, _, pre856 _ ?_, hrun, hended, _, _, rfl, ?_, ⟨_, rfl⟩, hW, hsame.mono (by decide) (by decide)⟩
                  · skip
                    show Steps p.tables e below (T854.setTop (mkF m 240 L_828 [(.int (nar .boolean (j7_0 q0 (j4_0 (j0_1 q0 q1 q2 p3) (j4_0 (j0_0 q0 q1 p3) (j4_0 q0 (0 : Int32) own_k0 own_v0) (j4_1 q0 own_k0 own_v0) (j4_2 q0 (((p3.toUInt32 >>> ((5 : Int32) &&& 31).toUInt32).toInt32) &&& (3 : Int32)) own_k0 own_v0)) (j4_1 (j0_0 q0 q1 p3) (j4_1 q0 own_k0 own_v0) (j4_2 q0 (((p3.toUInt32 >>> ((5 : Int32) &&& 31).toUInt32).toInt32) &&& (3 : Int32)) own_k0 own_v0)) (j4_2 (j0_0 q0 q1 p3) (((p3.toUInt32 >>> ((7 : Int32) &&& 31).toUInt32).toInt32) &&& (3 : Int32)) (j4_1 q0 own_k0 own_v0) (j4_2 q0 (((p3.toUInt32 >>> ((5 : Int32) &&& 31).toUInt32).toInt32) &&& (3 : Int32)) own_k0 own_v0))) (own_res (j4_1 (j0_1 q0 q1 q2 p3) (j4_1 (j0_0 q0 q1 p3) (j4_1 q0 own_k0 own_v0) (j4_2 q0 (((p3.toUInt32 >>> ((5 : Int32) &&& 31).toUInt32).toInt32) &&& (3 : Int32)) own_k0 own_v0)) (j4_2 (j0_0 q0 q1 p3) (((p3.toUInt32 >>> ((7 : Int32) &&& 31).toUInt32).toInt32) &&& (3 : Int32)) (j4_1 q0 own_k0 own_v0) (j4_2 q0 (((p3.toUInt32 >>> ((5 : Int32) &&& 31).toUInt32).toInt32) &&& (3 : Int32)) own_k0 own_v0))) (j4_2 (j0_1 q0 q1 q2 p3) (((p3.toUInt32 >>> ((9 : Int32) &&& 31).toUInt32).toInt32) &&& (4194303 : Int32)) (j4_1 (j0_0 q0 q1 p3) (j4_1 q0 own_k0 own_v0) (j4_2 q0 (((p3.toUInt32 >>> ((5 : Int32) &&& 31).toUInt32).toInt32) &&& (3 : Int32)) own_k0 own_v0)) (j4_2 (j0_0 q0 q1 p3) (((p3.toUInt32 >>> ((7 : Int32) &&& 31).toUInt32).toInt32) &&& (3 : Int32)) (j4_1 q0 own_k0 own_v0) (j4_2 q0 (((p3.toUInt32 >>> ((5 : Int32) &&& 31).toUInt32).toInt32) &&& (3 : Int32)) own_k0 own_v0))) 16))))])) _
                    refine XS.ifNo X854.here hx rfl (hb hby at_240) rfl ((if0 _ _).trans (teq hc855).2) ?_
                    show Steps p.tables e below (T854.setTop (mkF m 243 L_828 [])) _
                    refine XS.iconst X854.here hx rfl (hb hby at_243) ?_
                    show Steps p.tables e below (T854.setTop (mkF m 244 L_828 [(.int (0 : Int32))])) _
                    exact retN X854 hx (t := .boolean) Bd.returns (by simp) (hb hby at_244) hr
                  · show Q0 Z q0 q1 q2 p3 h0 n0 _ T854.heap _
                    rw [e854]
                    have hv : (0 : Int32) = (v0 q0 q1 q2 p3) := by first | exact ((if_neg hc562).trans ((if_neg hc594).trans ((if_neg hc648).trans ((if_neg hc762).trans ((if_neg hc829).trans ((if_pos hc846).trans ((if_pos hc849).trans (if_pos hc855)))))))).symm | (unfold v0; first | (rw [if_neg hc562, if_neg hc594, if_neg hc648, if_neg hc762, if_neg hc829, if_pos hc846, if_pos hc849, if_pos hc855]) | (simp only [if_neg hc562, if_neg hc594, if_neg hc648, if_neg hc762, if_neg hc829, if_pos hc846, if_pos hc849, if_pos hc855]))
                    exact ⟨(by rw [← hv]), N854⟩
                · skip
                  obtain ⟨cl857, Ar857, q857, S857, M857, H857, G857⟩ := id V817
                  have hin858 : ¬ ((1 : Int32) < 0 ∨ cl857.slots.size ≤ ((1 : Int32)).toNatClampNeg) := inb_of S857 ⟨by decide, by decide⟩
                  have hat859 : cl857.slots[((1 : Int32)).toNatClampNeg]? = some (.long (j0_0 q0 q1 p3)) := H857.at hin858 rfl
                  obtain ⟨_, _, ⟨T860, L860, k860, n860⟩, -, X860, ⟨Lc860, hQ860, l860, y860, z860⟩, st860⟩ := Jvm.LawKit.callS X854 hx (y := (⟨"com/example/pathfield/pathfield/query/LongIntMapKeysPinLaw", "has", "([JJ)Z"⟩ : MethodName)) hown (mvT hZ (hw _ (List.mem_of_getElem? (i := 36) rfl))) (mvT hZ (hw _ (List.mem_of_getElem? (i := 37) rfl))) (mvT hZ (hw _ (List.mem_of_getElem? (i := 38) rfl))) (mvT hZ (hw _ (List.mem_of_getElem? (i := 39) rfl))) (by decide) (backOf (W := 0) (rm7 l Z aw hw [] cx0733 ((j0_0 q0 q1 p3)) ((j4_0 (j0_1 q0 q1 q2 p3) (j4_0 (j0_0 q0 q1 p3) (j4_0 q0 (0 : Int32) own_k0 own_v0) (j4_1 q0 own_k0 own_v0) (j4_2 q0 (((p3.toUInt32 >>> ((5 : Int32) &&& 31).toUInt32).toInt32) &&& (3 : Int32)) own_k0 own_v0)) (j4_1 (j0_0 q0 q1 p3) (j4_1 q0 own_k0 own_v0) (j4_2 q0 (((p3.toUInt32 >>> ((5 : Int32) &&& 31).toUInt32).toInt32) &&& (3 : Int32)) own_k0 own_v0)) (j4_2 (j0_0 q0 q1 p3) (((p3.toUInt32 >>> ((7 : Int32) &&& 31).toUInt32).toInt32) &&& (3 : Int32)) (j4_1 q0 own_k0 own_v0) (j4_2 q0 (((p3.toUInt32 >>> ((5 : Int32) &&& 31).toUInt32).toInt32) &&& (3 : Int32)) own_k0 own_v0)))) ((own_res (j4_1 (j0_1 q0 q1 q2 p3) (j4_1 (j0_0 q0 q1 p3) (j4_1 q0 own_k0 own_v0) (j4_2 q0 (((p3.toUInt32 >>> ((5 : Int32) &&& 31).toUInt32).toInt32) &&& (3 : Int32)) own_k0 own_v0)) (j4_2 (j0_0 q0 q1 p3) (((p3.toUInt32 >>> ((7 : Int32) &&& 31).toUInt32).toInt32) &&& (3 : Int32)) (j4_1 q0 own_k0 own_v0) (j4_2 q0 (((p3.toUInt32 >>> ((5 : Int32) &&& 31).toUInt32).toInt32) &&& (3 : Int32)) own_k0 own_v0))) (j4_2 (j0_1 q0 q1 q2 p3) (((p3.toUInt32 >>> ((9 : Int32) &&& 31).toUInt32).toInt32) &&& (4194303 : Int32)) (j4_1 (j0_0 q0 q1 p3) (j4_1 q0 own_k0 own_v0) (j4_2 q0 (((p3.toUInt32 >>> ((5 : Int32) &&& 31).toUInt32).toInt32) &&& (3 : Int32)) own_k0 own_v0)) (j4_2 (j0_0 q0 q1 p3) (((p3.toUInt32 >>> ((7 : Int32) &&& 31).toUInt32).toInt32) &&& (3 : Int32)) (j4_1 q0 own_k0 own_v0) (j4_2 q0 (((p3.toUInt32 >>> ((5 : Int32) &&& 31).toUInt32).toInt32) &&& (3 : Int32)) own_k0 own_v0))) 16)) cy0733 h817 n0 Z826 f825) hZ (hw _ (List.mem_of_getElem? (i := 39) rfl)) (hw _ (List.mem_of_getElem? (i := 38) rfl)) (by decide) (by decide)) (g := (mkF m 257 L_828 [(.long (j0_0 q0 q1 p3)), (.ref cx0733)])) rfl (by rw [hml]; rfl) (argsL := [(.ref cx0733), (.long (j0_0 q0 q1 p3))]) (rest := []) (lenOf pd_8 rfl) rfl (by show 2 * 0 + _ ≤ _; exact Nat.le_of_eq rfl) (hb hby at_257) (fun _ _ => ⟨rfl, e854, (by decide : 5 + 0 ≤ _), (by decide : 41 + 0 ≤ _)⟩)
                  dsimp only [Pt.U, Pt.locs, Pt.cells, Pt.slots] at X860 l860 y860 z860 st860 hQ860
                  replace l860 := l860.symm
                  subst l860 y860 z860
                  obtain ⟨rfl, N860q, e860⟩ := hQ860
                  have N860 := Fr.app N854 N860q
                  have pre862 := fun (t : State) (k : Steps p.tables e below (T860.setTop (mkF m 260 L_828 [(.int (nar .boolean (j7_0 (j0_0 q0 q1 p3) (j4_0 (j0_1 q0 q1 q2 p3) (j4_0 (j0_0 q0 q1 p3) (j4_0 q0 (0 : Int32) own_k0 own_v0) (j4_1 q0 own_k0 own_v0) (j4_2 q0 (((p3.toUInt32 >>> ((5 : Int32) &&& 31).toUInt32).toInt32) &&& (3 : Int32)) own_k0 own_v0)) (j4_1 (j0_0 q0 q1 p3) (j4_1 q0 own_k0 own_v0) (j4_2 q0 (((p3.toUInt32 >>> ((5 : Int32) &&& 31).toUInt32).toInt32) &&& (3 : Int32)) own_k0 own_v0)) (j4_2 (j0_0 q0 q1 p3) (((p3.toUInt32 >>> ((7 : Int32) &&& 31).toUInt32).toInt32) &&& (3 : Int32)) (j4_1 q0 own_k0 own_v0) (j4_2 q0 (((p3.toUInt32 >>> ((5 : Int32) &&& 31).toUInt32).toInt32) &&& (3 : Int32)) own_k0 own_v0))) (own_res (j4_1 (j0_1 q0 q1 q2 p3) (j4_1 (j0_0 q0 q1 p3) (j4_1 q0 own_k0 own_v0) (j4_2 q0 (((p3.toUInt32 >>> ((5 : Int32) &&& 31).toUInt32).toInt32) &&& (3 : Int32)) own_k0 own_v0)) (j4_2 (j0_0 q0 q1 p3) (((p3.toUInt32 >>> ((7 : Int32) &&& 31).toUInt32).toInt32) &&& (3 : Int32)) (j4_1 q0 own_k0 own_v0) (j4_2 q0 (((p3.toUInt32 >>> ((5 : Int32) &&& 31).toUInt32).toInt32) &&& (3 : Int32)) own_k0 own_v0))) (j4_2 (j0_1 q0 q1 q2 p3) (((p3.toUInt32 >>> ((9 : Int32) &&& 31).toUInt32).toInt32) &&& (4194303 : Int32)) (j4_1 (j0_0 q0 q1 p3) (j4_1 q0 own_k0 own_v0) (j4_2 q0 (((p3.toUInt32 >>> ((5 : Int32) &&& 31).toUInt32).toInt32) &&& (3 : Int32)) own_k0 own_v0)) (j4_2 (j0_0 q0 q1 p3) (((p3.toUInt32 >>> ((7 : Int32) &&& 31).toUInt32).toInt32) &&& (3 : Int32)) (j4_1 q0 own_k0 own_v0) (j4_2 q0 (((p3.toUInt32 >>> ((5 : Int32) &&& 31).toUInt32).toInt32) &&& (3 : Int32)) own_k0 own_v0))) 16))))])) t) => pre856 t (by
                    show Steps p.tables e below (T854.setTop (mkF m 240 L_828 [(.int (nar .boolean (j7_0 q0 (j4_0 (j0_1 q0 q1 q2 p3) (j4_0 (j0_0 q0 q1 p3) (j4_0 q0 (0 : Int32) own_k0 own_v0) (j4_1 q0 own_k0 own_v0) (j4_2 q0 (((p3.toUInt32 >>> ((5 : Int32) &&& 31).toUInt32).toInt32) &&& (3 : Int32)) own_k0 own_v0)) (j4_1 (j0_0 q0 q1 p3) (j4_1 q0 own_k0 own_v0) (j4_2 q0 (((p3.toUInt32 >>> ((5 : Int32) &&& 31).toUInt32).toInt32) &&& (3 : Int32)) own_k0 own_v0)) (j4_2 (j0_0 q0 q1 p3) (((p3.toUInt32 >>> ((7 : Int32) &&& 31).toUInt32).toInt32) &&& (3 : Int32)) (j4_1 q0 own_k0 own_v0) (j4_2 q0 (((p3.toUInt32 >>> ((5 : Int32) &&& 31).toUInt32).toInt32) &&& (3 : Int32)) own_k0 own_v0))) (own_res (j4_1 (j0_1 q0 q1 q2 p3) (j4_1 (j0_0 q0 q1 p3) (j4_1 q0 own_k0 own_v0) (j4_2 q0 (((p3.toUInt32 >>> ((5 : Int32) &&& 31).toUInt32).toInt32) &&& (3 : Int32)) own_k0 own_v0)) (j4_2 (j0_0 q0 q1 p3) (((p3.toUInt32 >>> ((7 : Int32) &&& 31).toUInt32).toInt32) &&& (3 : Int32)) (j4_1 q0 own_k0 own_v0) (j4_2 q0 (((p3.toUInt32 >>> ((5 : Int32) &&& 31).toUInt32).toInt32) &&& (3 : Int32)) own_k0 own_v0))) (j4_2 (j0_1 q0 q1 q2 p3) (((p3.toUInt32 >>> ((9 : Int32) &&& 31).toUInt32).toInt32) &&& (4194303 : Int32)) (j4_1 (j0_0 q0 q1 p3) (j4_1 q0 own_k0 own_v0) (j4_2 q0 (((p3.toUInt32 >>> ((5 : Int32) &&& 31).toUInt32).toInt32) &&& (3 : Int32)) own_k0 own_v0)) (j4_2 (j0_0 q0 q1 p3) (((p3.toUInt32 >>> ((7 : Int32) &&& 31).toUInt32).toInt32) &&& (3 : Int32)) (j4_1 q0 own_k0 own_v0) (j4_2 q0 (((p3.toUInt32 >>> ((5 : Int32) &&& 31).toUInt32).toInt32) &&& (3 : Int32)) own_k0 own_v0))) 16))))])) _
                    refine XS.ifYes X854.here hx rfl (pc0 := 240) (pc' := 245) rfl (hb hby at_240) rfl ((if0 _ _).trans (feq hc855).2) (by decide) (by decide) ?_
                    show Steps p.tables e below (T854.setTop (mkF m 245 L_828 [])) _
                    refine XS.iload X854.here hx rfl (hb hby at_245) rfl ?_
                    show Steps p.tables e below (T854.setTop (mkF m 247 L_828 [(.int (2 : Int32))])) _
                    refine XS.iconst X854.here hx rfl (hb hby at_247) ?_
                    show Steps p.tables e below (T854.setTop (mkF m 248 L_828 [(.int (2 : Int32)), (.int (2 : Int32))])) _
                    refine XS.icmpNo X854.here hx rfl (hb hby at_248) rfl (flt (by decide : ¬ ((2 : Int32) < (2 : Int32)))).1 ?_
                    show Steps p.tables e below (T854.setTop (mkF m 251 L_828 [])) _
                    refine XS.aload X854.here hx rfl (hb hby at_251) rfl rfl ?_
                    show Steps p.tables e below (T854.setTop (mkF m 253 L_828 [(.ref cx0733)])) _
                    refine XS.aload X854.here hx rfl (hb hby at_253) rfl rfl ?_
                    show Steps p.tables e below (T854.setTop (mkF m 255 L_828 [(.ref b533), (.ref cx0733)])) _
                    refine XS.iconst X854.here hx rfl (hb hby at_255) ?_
                    show Steps p.tables e below (T854.setTop (mkF m 256 L_828 [(.int (1 : Int32)), (.ref b533), (.ref cx0733)])) _
                    refine X854.laload hx (j := (1 : Int32)) (v := (.long (j0_0 q0 q1 p3))) (by rw [e854]; exact Ar857.1) (State.isArrayOf_alike hZ.alike Ar857.2.1) Ar857.2.2 hin858 hat859 (g := (mkF m 256 L_828 [(.int (1 : Int32)), (.ref b533), (.ref cx0733)])) rfl rfl (hb hby at_256) _ ?_
                    show Steps p.tables e below (T854.setTop (mkF m 257 L_828 [(.long (j0_0 q0 q1 p3)), (.ref cx0733)])) _
                    refine st860 _ ?_
                    exact k)
                  by_cases hc861 : (nar .boolean (j7_0 (j0_0 q0 q1 p3) (j4_0 (j0_1 q0 q1 q2 p3) (j4_0 (j0_0 q0 q1 p3) (j4_0 q0 (0 : Int32) own_k0 own_v0) (j4_1 q0 own_k0 own_v0) (j4_2 q0 (((p3.toUInt32 >>> ((5 : Int32) &&& 31).toUInt32).toInt32) &&& (3 : Int32)) own_k0 own_v0)) (j4_1 (j0_0 q0 q1 p3) (j4_1 q0 own_k0 own_v0) (j4_2 q0 (((p3.toUInt32 >>> ((5 : Int32) &&& 31).toUInt32).toInt32) &&& (3 : Int32)) own_k0 own_v0)) (j4_2 (j0_0 q0 q1 p3) (((p3.toUInt32 >>> ((7 : Int32) &&& 31).toUInt32).toInt32) &&& (3 : Int32)) (j4_1 q0 own_k0 own_v0) (j4_2 q0 (((p3.toUInt32 >>> ((5 : Int32) &&& 31).toUInt32).toInt32) &&& (3 : Int32)) own_k0 own_v0))) (own_res (j4_1 (j0_1 q0 q1 q2 p3) (j4_1 (j0_0 q0 q1 p3) (j4_1 q0 own_k0 own_v0) (j4_2 q0 (((p3.toUInt32 >>> ((5 : Int32) &&& 31).toUInt32).toInt32) &&& (3 : Int32)) own_k0 own_v0)) (j4_2 (j0_0 q0 q1 p3) (((p3.toUInt32 >>> ((7 : Int32) &&& 31).toUInt32).toInt32) &&& (3 : Int32)) (j4_1 q0 own_k0 own_v0) (j4_2 q0 (((p3.toUInt32 >>> ((5 : Int32) &&& 31).toUInt32).toInt32) &&& (3 : Int32)) own_k0 own_v0))) (j4_2 (j0_1 q0 q1 q2 p3) (((p3.toUInt32 >>> ((9 : Int32) &&& 31).toUInt32).toInt32) &&& (4194303 : Int32)) (j4_1 (j0_0 q0 q1 p3) (j4_1 q0 own_k0 own_v0) (j4_2 q0 (((p3.toUInt32 >>> ((5 : Int32) &&& 31).toUInt32).toInt32) &&& (3 : Int32)) own_k0 own_v0)) (j4_2 (j0_0 q0 q1 p3) (((p3.toUInt32 >>> ((7 : Int32) &&& 31).toUInt32).toInt32) &&& (3 : Int32)) (j4_1 q0 own_k0 own_v0) (j4_2 q0 (((p3.toUInt32 >>> ((5 : Int32) &&& 31).toUInt32).toInt32) &&& (3 : Int32)) own_k0 own_v0))) 16))) = (0 : Int32)
                  · skip
                    obtain ⟨fs, hr, hrun, hended, hW, hsame⟩ := X860.leave (v := some (.int (0 : Int32))) (fun h => by rw [Bd.returns] at h; cases h) (BodyLoose.notSynchronized Bd)
                    refine ⟨_, _, pre862 _ ?_, hrun, hended, _, _, rfl, ?_, ⟨_, rfl⟩, hW, hsame.mono (by decide) (by decide)⟩
                    · skip
                      show Steps p.tables e below (T860.setTop (mkF m 260 L_828 [(.int (nar .boolean (j7_0 (j0_0 q0 q1 p3) (j4_0 (j0_1 q0 q1 q2 p3) (j4_0 (j0_0 q0 q1 p3) (j4_0 q0 (0 : Int32) own_k0 own_v0) (j4_1 q0 own_k0 own_v0) (j4_2 q0 (((p3.toUInt32 >>> ((5 : Int32) &&& 31).toUInt32).toInt32) &&& (3 : Int32)) own_k0 own_v0)) (j4_1 (j0_0 q0 q1 p3) (j4_1 q0 own_k0 own_v0) (j4_2 q0 (((p3.toUInt32 >>> ((5 : Int32) &&& 31).toUInt32).toInt32) &&& (3 : Int32)) own_k0 own_v0)) (j4_2 (j0_0 q0 q1 p3) (((p3.toUInt32 >>> ((7 : Int32) &&& 31).toUInt32).toInt32) &&& (3 : Int32)) (j4_1 q0 own_k0 own_v0) (j4_2 q0 (((p3.toUInt32 >>> ((5 : Int32) &&& 31).toUInt32).toInt32) &&& (3 : Int32)) own_k0 own_v0))) (own_res (j4_1 (j0_1 q0 q1 q2 p3) (j4_1 (j0_0 q0 q1 p3) (j4_1 q0 own_k0 own_v0) (j4_2 q0 (((p3.toUInt32 >>> ((5 : Int32) &&& 31).toUInt32).toInt32) &&& (3 : Int32)) own_k0 own_v0)) (j4_2 (j0_0 q0 q1 p3) (((p3.toUInt32 >>> ((7 : Int32) &&& 31).toUInt32).toInt32) &&& (3 : Int32)) (j4_1 q0 own_k0 own_v0) (j4_2 q0 (((p3.toUInt32 >>> ((5 : Int32) &&& 31).toUInt32).toInt32) &&& (3 : Int32)) own_k0 own_v0))) (j4_2 (j0_1 q0 q1 q2 p3) (((p3.toUInt32 >>> ((9 : Int32) &&& 31).toUInt32).toInt32) &&& (4194303 : Int32)) (j4_1 (j0_0 q0 q1 p3) (j4_1 q0 own_k0 own_v0) (j4_2 q0 (((p3.toUInt32 >>> ((5 : Int32) &&& 31).toUInt32).toInt32) &&& (3 : Int32)) own_k0 own_v0)) (j4_2 (j0_0 q0 q1 p3) (((p3.toUInt32 >>> ((7 : Int32) &&& 31).toUInt32).toInt32) &&& (3 : Int32)) (j4_1 q0 own_k0 own_v0) (j4_2 q0 (((p3.toUInt32 >>> ((5 : Int32) &&& 31).toUInt32).toInt32) &&& (3 : Int32)) own_k0 own_v0))) 16))))])) _
                      refine XS.ifNo X860.here hx rfl (hb hby at_260) rfl ((if0 _ _).trans (teq hc861).2) ?_
                      show Steps p.tables e below (T860.setTop (mkF m 263 L_828 [])) _
                      refine XS.iconst X860.here hx rfl (hb hby at_263) ?_
                      show Steps p.tables e below (T860.setTop (mkF m 264 L_828 [(.int (0 : Int32))])) _
                      exact retN X860 hx (t := .boolean) Bd.returns (by simp) (hb hby at_264) hr
                    · show Q0 Z q0 q1 q2 p3 h0 n0 _ T860.heap _
                      rw [e860]
                      have hv : (0 : Int32) = (v0 q0 q1 q2 p3) := by first | exact ((if_neg hc562).trans ((if_neg hc594).trans ((if_neg hc648).trans ((if_neg hc762).trans ((if_neg hc829).trans ((if_pos hc846).trans ((if_pos hc849).trans ((if_neg hc855).trans (if_pos hc861))))))))).symm | (unfold v0; first | (rw [if_neg hc562, if_neg hc594, if_neg hc648, if_neg hc762, if_neg hc829, if_pos hc846, if_pos hc849, if_neg hc855, if_pos hc861]) | (simp only [if_neg hc562, if_neg hc594, if_neg hc648, if_neg hc762, if_neg hc829, if_pos hc846, if_pos hc849, if_neg hc855, if_pos hc861]))
                      exact ⟨(by rw [← hv]), N860⟩
                  · skip
                    obtain ⟨fs, hr, hrun, hended, hW, hsame⟩ := X860.leave (v := some (.int (1 : Int32))) (fun h => by rw [Bd.returns] at h; cases h) (BodyLoose.notSynchronized Bd)
                    refine ⟨_, _, pre862 _ ?_, hrun, hended, _, _, rfl, ?_, ⟨_, rfl⟩, hW, hsame.mono (by decide) (by decide)⟩
                    · skip
                      show Steps p.tables e below (T860.setTop (mkF m 260 L_828 [(.int (nar .boolean (j7_0 (j0_0 q0 q1 p3) (j4_0 (j0_1 q0 q1 q2 p3) (j4_0 (j0_0 q0 q1 p3) (j4_0 q0 (0 : Int32) own_k0 own_v0) (j4_1 q0 own_k0 own_v0) (j4_2 q0 (((p3.toUInt32 >>> ((5 : Int32) &&& 31).toUInt32).toInt32) &&& (3 : Int32)) own_k0 own_v0)) (j4_1 (j0_0 q0 q1 p3) (j4_1 q0 own_k0 own_v0) (j4_2 q0 (((p3.toUInt32 >>> ((5 : Int32) &&& 31).toUInt32).toInt32) &&& (3 : Int32)) own_k0 own_v0)) (j4_2 (j0_0 q0 q1 p3) (((p3.toUInt32 >>> ((7 : Int32) &&& 31).toUInt32).toInt32) &&& (3 : Int32)) (j4_1 q0 own_k0 own_v0) (j4_2 q0 (((p3.toUInt32 >>> ((5 : Int32) &&& 31).toUInt32).toInt32) &&& (3 : Int32)) own_k0 own_v0))) (own_res (j4_1 (j0_1 q0 q1 q2 p3) (j4_1 (j0_0 q0 q1 p3) (j4_1 q0 own_k0 own_v0) (j4_2 q0 (((p3.toUInt32 >>> ((5 : Int32) &&& 31).toUInt32).toInt32) &&& (3 : Int32)) own_k0 own_v0)) (j4_2 (j0_0 q0 q1 p3) (((p3.toUInt32 >>> ((7 : Int32) &&& 31).toUInt32).toInt32) &&& (3 : Int32)) (j4_1 q0 own_k0 own_v0) (j4_2 q0 (((p3.toUInt32 >>> ((5 : Int32) &&& 31).toUInt32).toInt32) &&& (3 : Int32)) own_k0 own_v0))) (j4_2 (j0_1 q0 q1 q2 p3) (((p3.toUInt32 >>> ((9 : Int32) &&& 31).toUInt32).toInt32) &&& (4194303 : Int32)) (j4_1 (j0_0 q0 q1 p3) (j4_1 q0 own_k0 own_v0) (j4_2 q0 (((p3.toUInt32 >>> ((5 : Int32) &&& 31).toUInt32).toInt32) &&& (3 : Int32)) own_k0 own_v0)) (j4_2 (j0_0 q0 q1 p3) (((p3.toUInt32 >>> ((7 : Int32) &&& 31).toUInt32).toInt32) &&& (3 : Int32)) (j4_1 q0 own_k0 own_v0) (j4_2 q0 (((p3.toUInt32 >>> ((5 : Int32) &&& 31).toUInt32).toInt32) &&& (3 : Int32)) own_k0 own_v0))) 16))))])) _
                      refine XS.ifYes X860.here hx rfl (pc0 := 260) (pc' := 265) rfl (hb hby at_260) rfl ((if0 _ _).trans (feq hc861).2) (by decide) (by decide) ?_
                      show Steps p.tables e below (T860.setTop (mkF m 265 L_828 [])) _
                      refine XS.iload X860.here hx rfl (hb hby at_265) rfl ?_
                      show Steps p.tables e below (T860.setTop (mkF m 267 L_828 [(.int (2 : Int32))])) _
                      refine XS.iconst X860.here hx rfl (hb hby at_267) ?_
                      show Steps p.tables e below (T860.setTop (mkF m 268 L_828 [(.int (3 : Int32)), (.int (2 : Int32))])) _
                      refine XS.icmpYes X860.here hx rfl (pc0 := 268) (pc' := 285) rfl (hb hby at_268) rfl (tlt (by decide : (2 : Int32) < (3 : Int32))).1 (by decide) (by decide) ?_
                      show Steps p.tables e below (T860.setTop (mkF m 285 L_828 [])) _
                      refine XS.iconst X860.here hx rfl (hb hby at_285) ?_
                      show Steps p.tables e below (T860.setTop (mkF m 286 L_828 [(.int (1 : Int32))])) _
                      exact retN X860 hx (t := .boolean) Bd.returns (by simp) (hb hby at_286) hr
                    · show Q0 Z q0 q1 q2 p3 h0 n0 _ T860.heap _
                      rw [e860]
                      have hv : (1 : Int32) = (v0 q0 q1 q2 p3) := by first | exact ((if_neg hc562).trans ((if_neg hc594).trans ((if_neg hc648).trans ((if_neg hc762).trans ((if_neg hc829).trans ((if_pos hc846).trans ((if_pos hc849).trans ((if_neg hc855).trans (if_neg hc861))))))))).symm | (unfold v0; first | (rw [if_neg hc562, if_neg hc594, if_neg hc648, if_neg hc762, if_neg hc829, if_pos hc846, if_pos hc849, if_neg hc855, if_neg hc861]) | (simp only [if_neg hc562, if_neg hc594, if_neg hc648, if_neg hc762, if_neg hc829, if_pos hc846, if_pos hc849, if_neg hc855, if_neg hc861]))
                      exact ⟨(by rw [← hv]), N860⟩
              · skip
                obtain ⟨fs, hr, hrun, hended, hW, hsame⟩ := X817.leave (v := some (.int (0 : Int32))) (fun h => by rw [Bd.returns] at h; cases h) (BodyLoose.notSynchronized Bd)
                refine ⟨_, _, pre850 _ ?_, hrun, hended, _, _, rfl, ?_, ⟨_, rfl⟩, hW, hsame.mono (by decide) (by decide)⟩
                · skip
                  show Steps p.tables e below (T817.setTop (mkF m 220 L_828 [(.int (2 : Int32)), (.int (j4_0 (j0_1 q0 q1 q2 p3) (j4_0 (j0_0 q0 q1 p3) (j4_0 q0 (0 : Int32) own_k0 own_v0) (j4_1 q0 own_k0 own_v0) (j4_2 q0 (((p3.toUInt32 >>> ((5 : Int32) &&& 31).toUInt32).toInt32) &&& (3 : Int32)) own_k0 own_v0)) (j4_1 (j0_0 q0 q1 p3) (j4_1 q0 own_k0 own_v0) (j4_2 q0 (((p3.toUInt32 >>> ((5 : Int32) &&& 31).toUInt32).toInt32) &&& (3 : Int32)) own_k0 own_v0)) (j4_2 (j0_0 q0 q1 p3) (((p3.toUInt32 >>> ((7 : Int32) &&& 31).toUInt32).toInt32) &&& (3 : Int32)) (j4_1 q0 own_k0 own_v0) (j4_2 q0 (((p3.toUInt32 >>> ((5 : Int32) &&& 31).toUInt32).toInt32) &&& (3 : Int32)) own_k0 own_v0))))])) _
                  refine XS.icmpNo X817.here hx rfl (hb hby at_220) rfl (feq hc849).1 ?_
                  show Steps p.tables e below (T817.setTop (mkF m 223 L_828 [])) _
                  refine XS.iconst X817.here hx rfl (hb hby at_223) ?_
                  show Steps p.tables e below (T817.setTop (mkF m 224 L_828 [(.int (0 : Int32))])) _
                  exact retN X817 hx (t := .boolean) Bd.returns (by simp) (hb hby at_224) hr
                · show Q0 Z q0 q1 q2 p3 h0 n0 _ T817.heap _
                  rw [e817]
                  have hv : (0 : Int32) = (v0 q0 q1 q2 p3) := by first | exact ((if_neg hc562).trans ((if_neg hc594).trans ((if_neg hc648).trans ((if_neg hc762).trans ((if_neg hc829).trans ((if_pos hc846).trans (if_neg hc849))))))).symm | (unfold v0; first | (rw [if_neg hc562, if_neg hc594, if_neg hc648, if_neg hc762, if_neg hc829, if_pos hc846, if_neg hc849]) | (simp only [if_neg hc562, if_neg hc594, if_neg hc648, if_neg hc762, if_neg hc829, if_pos hc846, if_neg hc849]))
                  exact ⟨(by rw [← hv]), N827⟩
            · skip
              obtain ⟨cl863, Ar863, q863, S863, M863, H863, G863⟩ := id V817
              have hin864 : ¬ ((2 : Int32) < 0 ∨ cl863.slots.size ≤ ((2 : Int32)).toNatClampNeg) := inb_of S863 ⟨by decide, by decide⟩
              obtain ⟨T865, h865, X865, e865, W865, st865⟩ := stJ X817 hx hZ e817 Ar863 (j := (2 : Int32)) hin864 (g := (mkF m 208 L_828 [(.long (j0_1 q0 q1 q2 p3)), (.int (2 : Int32)), (.ref b533)])) rfl rfl (hb hby at_208)
              have V865 : Arv Z h865 b533 k533 .long (3 : Int32) [(.long q0), (.long (j0_0 q0 q1 p3)), (.long (j0_1 q0 q1 q2 p3))] (.long (0 : Int64)) := Arv.set Ar863 q863 S863 M863 H863 G863 rfl W865 2 rfl (Nat.le_of_ble_eq_true rfl)
              have f867 := f819.wr W865
              have f868 := f820.other W865 (Or.inl (Ne.symm ne538))
              have f869 := f821.other W865 (Or.inl (Ne.symm ne538))
              have f870 := f822.other W865 (Or.inl (Ne.symm ne538))
              have f871 := f823.other W865 (Ne.symm ne555)
              have f872 := f824.other W865 (Ne.symm ne557)
              have f873 := f825.other W865 (Ne.symm ne742)
              have Z874 := Nat.le_trans Z826 (Keep.of_wr W865).1
              have N875 := Fr.snoc X865 N827 g_b533
              let L_876 : Array Slot := #[.val (.long q0), .second, .val (.long (j0_0 q0 q1 p3)), .second, .val (.long (j0_1 q0 q1 q2 p3)), .second, .val (.int p3), .val (.int (p3 &&& (3 : Int32))), .val (.int (((p3.toUInt32 >>> ((3 : Int32) &&& 31).toUInt32).toInt32) &&& (3 : Int32))), .val (.int (((p3.toUInt32 >>> ((5 : Int32) &&& 31).toUInt32).toInt32) &&& (3 : Int32))), .val (.int (((p3.toUInt32 >>> ((7 : Int32) &&& 31).toUInt32).toInt32) &&& (3 : Int32))), .val (.int (((p3.toUInt32 >>> ((9 : Int32) &&& 31).toUInt32).toInt32) &&& (4194303 : Int32))), .val (.ref b533), .val (.ref b536), .val (.ref cx0733), .val (.int (3 : Int32))]
              obtain ⟨cl877, Ar877, q877, S877, M877, H877, G877⟩ := id f873
              have pre879 := fun (t : State) (k : Steps p.tables e below (T865.setTop (mkF m 220 L_876 [(.int (3 : Int32)), (.int (j4_0 (j0_1 q0 q1 q2 p3) (j4_0 (j0_0 q0 q1 p3) (j4_0 q0 (0 : Int32) own_k0 own_v0) (j4_1 q0 own_k0 own_v0) (j4_2 q0 (((p3.toUInt32 >>> ((5 : Int32) &&& 31).toUInt32).toInt32) &&& (3 : Int32)) own_k0 own_v0)) (j4_1 (j0_0 q0 q1 p3) (j4_1 q0 own_k0 own_v0) (j4_2 q0 (((p3.toUInt32 >>> ((5 : Int32) &&& 31).toUInt32).toInt32) &&& (3 : Int32)) own_k0 own_v0)) (j4_2 (j0_0 q0 q1 p3) (((p3.toUInt32 >>> ((7 : Int32) &&& 31).toUInt32).toInt32) &&& (3 : Int32)) (j4_1 q0 own_k0 own_v0) (j4_2 q0 (((p3.toUInt32 >>> ((5 : Int32) &&& 31).toUInt32).toInt32) &&& (3 : Int32)) own_k0 own_v0))))])) t) => pre847 t (by
                show Steps p.tables e below (T817.setTop (mkF m 199 L_828 [(.int (lcmpW (j0_1 q0 q1 q2 p3) (j0_0 q0 q1 p3)))])) _
                refine XS.ifNo X817.here hx rfl (hb hby at_199) rfl ((if0 _ _).trans (feq (mt (own_eq (j0_1 q0 q1 q2 p3) (j0_0 q0 q1 p3)).mp hc846)).1) ?_
                show Steps p.tables e below (T817.setTop (mkF m 202 L_828 [])) _
                refine XS.aload X817.here hx rfl (hb hby at_202) rfl rfl ?_
                show Steps p.tables e below (T817.setTop (mkF m 204 L_828 [(.ref b533)])) _
                refine XS.iload X817.here hx rfl (hb hby at_204) rfl ?_
                show Steps p.tables e below (T817.setTop (mkF m 206 L_828 [(.int (2 : Int32)), (.ref b533)])) _
                refine XS.lload X817.here hx rfl (hb hby at_206) rfl ?_
                show Steps p.tables e below (T817.setTop (mkF m 208 L_828 [(.long (j0_1 q0 q1 q2 p3)), (.int (2 : Int32)), (.ref b533)])) _
                refine st865 _ ?_
                show Steps p.tables e below (T865.setTop (mkF m 209 L_828 [])) _
                refine XS.iload X865.here hx rfl (hb hby at_209) rfl ?_
                show Steps p.tables e below (T865.setTop (mkF m 211 L_828 [(.int (2 : Int32))])) _
                refine XS.iconst X865.here hx rfl (hb hby at_211) ?_
                show Steps p.tables e below (T865.setTop (mkF m 212 L_828 [(.int (1 : Int32)), (.int (2 : Int32))])) _
                refine XS.iadd X865.here hx rfl (hb hby at_212) rfl ?_
                show Steps p.tables e below (T865.setTop (mkF m 213 L_828 [(.int (3 : Int32))])) _
                refine XS.istore X865.here hx rfl (hb hby at_213) rfl (l' := L_876) rfl ?_
                show Steps p.tables e below (T865.setTop (mkF m 215 L_876 [])) _
                refine XS.aload X865.here hx rfl (hb hby at_215) rfl rfl ?_
                show Steps p.tables e below (T865.setTop (mkF m 217 L_876 [(.ref cx0733)])) _
                refine X865.arraylength hx (by rw [e865]; exact Ar877.1) (State.isArrayOf_alike hZ.alike Ar877.2.1) (g := (mkF m 217 L_876 [(.ref cx0733)])) rfl rfl (hb hby at_217) _ ?_
                rw [len_of S877 M877]
                show Steps p.tables e below (T865.setTop (mkF m 218 L_876 [(.int (j4_0 (j0_1 q0 q1 q2 p3) (j4_0 (j0_0 q0 q1 p3) (j4_0 q0 (0 : Int32) own_k0 own_v0) (j4_1 q0 own_k0 own_v0) (j4_2 q0 (((p3.toUInt32 >>> ((5 : Int32) &&& 31).toUInt32).toInt32) &&& (3 : Int32)) own_k0 own_v0)) (j4_1 (j0_0 q0 q1 p3) (j4_1 q0 own_k0 own_v0) (j4_2 q0 (((p3.toUInt32 >>> ((5 : Int32) &&& 31).toUInt32).toInt32) &&& (3 : Int32)) own_k0 own_v0)) (j4_2 (j0_0 q0 q1 p3) (((p3.toUInt32 >>> ((7 : Int32) &&& 31).toUInt32).toInt32) &&& (3 : Int32)) (j4_1 q0 own_k0 own_v0) (j4_2 q0 (((p3.toUInt32 >>> ((5 : Int32) &&& 31).toUInt32).toInt32) &&& (3 : Int32)) own_k0 own_v0))))])) _
                refine XS.iload X865.here hx rfl (hb hby at_218) rfl ?_
                exact k)
              by_cases hc878 : (j4_0 (j0_1 q0 q1 q2 p3) (j4_0 (j0_0 q0 q1 p3) (j4_0 q0 (0 : Int32) own_k0 own_v0) (j4_1 q0 own_k0 own_v0) (j4_2 q0 (((p3.toUInt32 >>> ((5 : Int32) &&& 31).toUInt32).toInt32) &&& (3 : Int32)) own_k0 own_v0)) (j4_1 (j0_0 q0 q1 p3) (j4_1 q0 own_k0 own_v0) (j4_2 q0 (((p3.toUInt32 >>> ((5 : Int32) &&& 31).toUInt32).toInt32) &&& (3 : Int32)) own_k0 own_v0)) (j4_2 (j0_0 q0 q1 p3) (((p3.toUInt32 >>> ((7 : Int32) &&& 31).toUInt32).toInt32) &&& (3 : Int32)) (j4_1 q0 own_k0 own_v0) (j4_2 q0 (((p3.toUInt32 >>> ((5 : Int32) &&& 31).toUInt32).toInt32) &&& (3 : Int32)) own_k0 own_v0))) = (3 : Int32)
              · skip
                obtain ⟨cl880, Ar880, q880, S880, M880, H880, G880⟩ := id V865
                have hin881 : ¬ ((0 : Int32) < 0 ∨ cl880.slots.size ≤ ((0 : Int32)).toNatClampNeg) := inb_of S880 ⟨by decide, by decide⟩
                have hat882 : cl880.slots[((0 : Int32)).toNatClampNeg]? = some (.long q0) := H880.at hin881 rfl
                obtain ⟨_, _, ⟨T883, L883, k883, n883⟩, -, X883, ⟨Lc883, hQ883, l883, y883, z883⟩, st883⟩ := Jvm.LawKit.callS X865 hx (y := (⟨"com/example/pathfield/pathfield/query/LongIntMapKeysPinLaw", "has", "([JJ)Z"⟩ : MethodName)) hown (mvT hZ (hw _ (List.mem_of_getElem? (i := 36) rfl))) (mvT hZ (hw _ (List.mem_of_getElem? (i := 37) rfl))) (mvT hZ (hw _ (List.mem_of_getElem? (i := 38) rfl))) (mvT hZ (hw _ (List.mem_of_getElem? (i := 39) rfl))) (by decide) (backOf (W := 0) (rm7 l Z aw hw [] cx0733 q0 ((j4_0 (j0_1 q0 q1 q2 p3) (j4_0 (j0_0 q0 q1 p3) (j4_0 q0 (0 : Int32) own_k0 own_v0) (j4_1 q0 own_k0 own_v0) (j4_2 q0 (((p3.toUInt32 >>> ((5 : Int32) &&& 31).toUInt32).toInt32) &&& (3 : Int32)) own_k0 own_v0)) (j4_1 (j0_0 q0 q1 p3) (j4_1 q0 own_k0 own_v0) (j4_2 q0 (((p3.toUInt32 >>> ((5 : Int32) &&& 31).toUInt32).toInt32) &&& (3 : Int32)) own_k0 own_v0)) (j4_2 (j0_0 q0 q1 p3) (((p3.toUInt32 >>> ((7 : Int32) &&& 31).toUInt32).toInt32) &&& (3 : Int32)) (j4_1 q0 own_k0 own_v0) (j4_2 q0 (((p3.toUInt32 >>> ((5 : Int32) &&& 31).toUInt32).toInt32) &&& (3 : Int32)) own_k0 own_v0)))) ((own_res (j4_1 (j0_1 q0 q1 q2 p3) (j4_1 (j0_0 q0 q1 p3) (j4_1 q0 own_k0 own_v0) (j4_2 q0 (((p3.toUInt32 >>> ((5 : Int32) &&& 31).toUInt32).toInt32) &&& (3 : Int32)) own_k0 own_v0)) (j4_2 (j0_0 q0 q1 p3) (((p3.toUInt32 >>> ((7 : Int32) &&& 31).toUInt32).toInt32) &&& (3 : Int32)) (j4_1 q0 own_k0 own_v0) (j4_2 q0 (((p3.toUInt32 >>> ((5 : Int32) &&& 31).toUInt32).toInt32) &&& (3 : Int32)) own_k0 own_v0))) (j4_2 (j0_1 q0 q1 q2 p3) (((p3.toUInt32 >>> ((9 : Int32) &&& 31).toUInt32).toInt32) &&& (4194303 : Int32)) (j4_1 (j0_0 q0 q1 p3) (j4_1 q0 own_k0 own_v0) (j4_2 q0 (((p3.toUInt32 >>> ((5 : Int32) &&& 31).toUInt32).toInt32) &&& (3 : Int32)) own_k0 own_v0)) (j4_2 (j0_0 q0 q1 p3) (((p3.toUInt32 >>> ((7 : Int32) &&& 31).toUInt32).toInt32) &&& (3 : Int32)) (j4_1 q0 own_k0 own_v0) (j4_2 q0 (((p3.toUInt32 >>> ((5 : Int32) &&& 31).toUInt32).toInt32) &&& (3 : Int32)) own_k0 own_v0))) 16)) cy0733 h865 n0 Z874 f873) hZ (hw _ (List.mem_of_getElem? (i := 39) rfl)) (hw _ (List.mem_of_getElem? (i := 38) rfl)) (by decide) (by decide)) (g := (mkF m 237 L_876 [(.long q0), (.ref cx0733)])) rfl (by rw [hml]; rfl) (argsL := [(.ref cx0733), (.long q0)]) (rest := []) (lenOf pd_8 rfl) rfl (by show 2 * 0 + _ ≤ _; exact Nat.le_of_eq rfl) (hb hby at_237) (fun _ _ => ⟨rfl, e865, (by decide : 5 + 0 ≤ _), (by decide : 41 + 0 ≤ _)⟩)
                dsimp only [Pt.U, Pt.locs, Pt.cells, Pt.slots] at X883 l883 y883 z883 st883 hQ883
                replace l883 := l883.symm
                subst l883 y883 z883
                obtain ⟨rfl, N883q, e883⟩ := hQ883
                have N883 := Fr.app N875 N883q
                have pre885 := fun (t : State) (k : Steps p.tables e below (T883.setTop (mkF m 240 L_876 [(.int (nar .boolean (j7_0 q0 (j4_0 (j0_1 q0 q1 q2 p3) (j4_0 (j0_0 q0 q1 p3) (j4_0 q0 (0 : Int32) own_k0 own_v0) (j4_1 q0 own_k0 own_v0) (j4_2 q0 (((p3.toUInt32 >>> ((5 : Int32) &&& 31).toUInt32).toInt32) &&& (3 : Int32)) own_k0 own_v0)) (j4_1 (j0_0 q0 q1 p3) (j4_1 q0 own_k0 own_v0) (j4_2 q0 (((p3.toUInt32 >>> ((5 : Int32) &&& 31).toUInt32).toInt32) &&& (3 : Int32)) own_k0 own_v0)) (j4_2 (j0_0 q0 q1 p3) (((p3.toUInt32 >>> ((7 : Int32) &&& 31).toUInt32).toInt32) &&& (3 : Int32)) (j4_1 q0 own_k0 own_v0) (j4_2 q0 (((p3.toUInt32 >>> ((5 : Int32) &&& 31).toUInt32).toInt32) &&& (3 : Int32)) own_k0 own_v0))) (own_res (j4_1 (j0_1 q0 q1 q2 p3) (j4_1 (j0_0 q0 q1 p3) (j4_1 q0 own_k0 own_v0) (j4_2 q0 (((p3.toUInt32 >>> ((5 : Int32) &&& 31).toUInt32).toInt32) &&& (3 : Int32)) own_k0 own_v0)) (j4_2 (j0_0 q0 q1 p3) (((p3.toUInt32 >>> ((7 : Int32) &&& 31).toUInt32).toInt32) &&& (3 : Int32)) (j4_1 q0 own_k0 own_v0) (j4_2 q0 (((p3.toUInt32 >>> ((5 : Int32) &&& 31).toUInt32).toInt32) &&& (3 : Int32)) own_k0 own_v0))) (j4_2 (j0_1 q0 q1 q2 p3) (((p3.toUInt32 >>> ((9 : Int32) &&& 31).toUInt32).toInt32) &&& (4194303 : Int32)) (j4_1 (j0_0 q0 q1 p3) (j4_1 q0 own_k0 own_v0) (j4_2 q0 (((p3.toUInt32 >>> ((5 : Int32) &&& 31).toUInt32).toInt32) &&& (3 : Int32)) own_k0 own_v0)) (j4_2 (j0_0 q0 q1 p3) (((p3.toUInt32 >>> ((7 : Int32) &&& 31).toUInt32).toInt32) &&& (3 : Int32)) (j4_1 q0 own_k0 own_v0) (j4_2 q0 (((p3.toUInt32 >>> ((5 : Int32) &&& 31).toUInt32).toInt32) &&& (3 : Int32)) own_k0 own_v0))) 16))))])) t) => pre879 t (by
                  show Steps p.tables e below (T865.setTop (mkF m 220 L_876 [(.int (3 : Int32)), (.int (j4_0 (j0_1 q0 q1 q2 p3) (j4_0 (j0_0 q0 q1 p3) (j4_0 q0 (0 : Int32) own_k0 own_v0) (j4_1 q0 own_k0 own_v0) (j4_2 q0 (((p3.toUInt32 >>> ((5 : Int32) &&& 31).toUInt32).toInt32) &&& (3 : Int32)) own_k0 own_v0)) (j4_1 (j0_0 q0 q1 p3) (j4_1 q0 own_k0 own_v0) (j4_2 q0 (((p3.toUInt32 >>> ((5 : Int32) &&& 31).toUInt32).toInt32) &&& (3 : Int32)) own_k0 own_v0)) (j4_2 (j0_0 q0 q1 p3) (((p3.toUInt32 >>> ((7 : Int32) &&& 31).toUInt32).toInt32) &&& (3 : Int32)) (j4_1 q0 own_k0 own_v0) (j4_2 q0 (((p3.toUInt32 >>> ((5 : Int32) &&& 31).toUInt32).toInt32) &&& (3 : Int32)) own_k0 own_v0))))])) _
                  refine XS.icmpYes X865.here hx rfl (pc0 := 220) (pc' := 225) rfl (hb hby at_220) rfl (teq hc878).1 (by decide) (by decide) ?_
                  show Steps p.tables e below (T865.setTop (mkF m 225 L_876 [])) _
                  refine XS.iload X865.here hx rfl (hb hby at_225) rfl ?_
                  show Steps p.tables e below (T865.setTop (mkF m 227 L_876 [(.int (3 : Int32))])) _
                  refine XS.iconst X865.here hx rfl (hb hby at_227) ?_
                  show Steps p.tables e below (T865.setTop (mkF m 228 L_876 [(.int (1 : Int32)), (.int (3 : Int32))])) _
                  refine XS.icmpNo X865.here hx rfl (hb hby at_228) rfl (flt (by decide : ¬ ((3 : Int32) < (1 : Int32)))).1 ?_
                  show Steps p.tables e below (T865.setTop (mkF m 231 L_876 [])) _
                  refine XS.aload X865.here hx rfl (hb hby at_231) rfl rfl ?_
                  show Steps p.tables e below (T865.setTop (mkF m 233 L_876 [(.ref cx0733)])) _
                  refine XS.aload X865.here hx rfl (hb hby at_233) rfl rfl ?_
                  show Steps p.tables e below (T865.setTop (mkF m 235 L_876 [(.ref b533), (.ref cx0733)])) _
                  refine XS.iconst X865.here hx rfl (hb hby at_235) ?_
                  show Steps p.tables e below (T865.setTop (mkF m 236 L_876 [(.int (0 : Int32)), (.ref b533), (.ref cx0733)])) _
                  refine X865.laload hx (j := (0 : Int32)) (v := (.long q0)) (by rw [e865]; exact Ar880.1) (State.isArrayOf_alike hZ.alike Ar880.2.1) Ar880.2.2 hin881 hat882 (g := (mkF m 236 L_876 [(.int (0 : Int32)), (.ref b533), (.ref cx0733)])) rfl rfl (hb hby at_236) _ ?_
                  show Steps p.tables e below (T865.setTop (mkF m 237 L_876 [(.long q0), (.ref cx0733)])) _
                  refine st883 _ ?_
                  exact k)
                by_cases hc884 : (nar .boolean (j7_0 q0 (j4_0 (j0_1 q0 q1 q2 p3) (j4_0 (j0_0 q0 q1 p3) (j4_0 q0 (0 : Int32) own_k0 own_v0) (j4_1 q0 own_k0 own_v0) (j4_2 q0 (((p3.toUInt32 >>> ((5 : Int32) &&& 31).toUInt32).toInt32) &&& (3 : Int32)) own_k0 own_v0)) (j4_1 (j0_0 q0 q1 p3) (j4_1 q0 own_k0 own_v0) (j4_2 q0 (((p3.toUInt32 >>> ((5 : Int32) &&& 31).toUInt32).toInt32) &&& (3 : Int32)) own_k0 own_v0)) (j4_2 (j0_0 q0 q1 p3) (((p3.toUInt32 >>> ((7 : Int32) &&& 31).toUInt32).toInt32) &&& (3 : Int32)) (j4_1 q0 own_k0 own_v0) (j4_2 q0 (((p3.toUInt32 >>> ((5 : Int32) &&& 31).toUInt32).toInt32) &&& (3 : Int32)) own_k0 own_v0))) (own_res (j4_1 (j0_1 q0 q1 q2 p3) (j4_1 (j0_0 q0 q1 p3) (j4_1 q0 own_k0 own_v0) (j4_2 q0 (((p3.toUInt32 >>> ((5 : Int32) &&& 31).toUInt32).toInt32) &&& (3 : Int32)) own_k0 own_v0)) (j4_2 (j0_0 q0 q1 p3) (((p3.toUInt32 >>> ((7 : Int32) &&& 31).toUInt32).toInt32) &&& (3 : Int32)) (j4_1 q0 own_k0 own_v0) (j4_2 q0 (((p3.toUInt32 >>> ((5 : Int32) &&& 31).toUInt32).toInt32) &&& (3 : Int32)) own_k0 own_v0))) (j4_2 (j0_1 q0 q1 q2 p3) (((p3.toUInt32 >>> ((9 : Int32) &&& 31).toUInt32).toInt32) &&& (4194303 : Int32)) (j4_1 (j0_0 q0 q1 p3) (j4_1 q0 own_k0 own_v0) (j4_2 q0 (((p3.toUInt32 >>> ((5 : Int32) &&& 31).toUInt32).toInt32) &&& (3 : Int32)) own_k0 own_v0)) (j4_2 (j0_0 q0 q1 p3) (((p3.toUInt32 >>> ((7 : Int32) &&& 31).toUInt32).toInt32) &&& (3 : Int32)) (j4_1 q0 own_k0 own_v0) (j4_2 q0 (((p3.toUInt32 >>> ((5 : Int32) &&& 31).toUInt32).toInt32) &&& (3 : Int32)) own_k0 own_v0))) 16))) = (0 : Int32)
                · skip
                  obtain ⟨fs, hr, hrun, hended, hW, hsame⟩ := X883.leave (v := some (.int (0 : Int32))) (fun h => by rw [Bd.returns] at h; cases h) (BodyLoose.notSynchronized Bd)
                  refine ⟨_, _, pre885 _ ?_, hrun, hended, _, _, rfl, ?_, ⟨_, rfl⟩, hW, hsame.mono (by decide) (by decide)⟩
                  · skip
                    show Steps p.tables e below (T883.setTop (mkF m 240 L_876 [(.int (nar .boolean (j7_0 q0 (j4_0 (j0_1 q0 q1 q2 p3) (j4_0 (j0_0 q0 q1 p3) (j4_0 q0 (0 : Int32) own_k0 own_v0) (j4_1 q0 own_k0 own_v0) (j4_2 q0 (((p3.toUInt32 >>> ((5 : Int32) &&& 31).toUInt32).toInt32) &&& (3 : Int32)) own_k0 own_v0)) (j4_1 (j0_0 q0 q1 p3) (j4_1 q0 own_k0 own_v0) (j4_2 q0 (((p3.toUInt32 >>> ((5 : Int32) &&& 31).toUInt32).toInt32) &&& (3 : Int32)) own_k0 own_v0)) (j4_2 (j0_0 q0 q1 p3) (((p3.toUInt32 >>> ((7 : Int32) &&& 31).toUInt32).toInt32) &&& (3 : Int32)) (j4_1 q0 own_k0 own_v0) (j4_2 q0 (((p3.toUInt32 >>> ((5 : Int32) &&& 31).toUInt32).toInt32) &&& (3 : Int32)) own_k0 own_v0))) (own_res (j4_1 (j0_1 q0 q1 q2 p3) (j4_1 (j0_0 q0 q1 p3) (j4_1 q0 own_k0 own_v0) (j4_2 q0 (((p3.toUInt32 >>> ((5 : Int32) &&& 31).toUInt32).toInt32) &&& (3 : Int32)) own_k0 own_v0)) (j4_2 (j0_0 q0 q1 p3) (((p3.toUInt32 >>> ((7 : Int32) &&& 31).toUInt32).toInt32) &&& (3 : Int32)) (j4_1 q0 own_k0 own_v0) (j4_2 q0 (((p3.toUInt32 >>> ((5 : Int32) &&& 31).toUInt32).toInt32) &&& (3 : Int32)) own_k0 own_v0))) (j4_2 (j0_1 q0 q1 q2 p3) (((p3.toUInt32 >>> ((9 : Int32) &&& 31).toUInt32).toInt32) &&& (4194303 : Int32)) (j4_1 (j0_0 q0 q1 p3) (j4_1 q0 own_k0 own_v0) (j4_2 q0 (((p3.toUInt32 >>> ((5 : Int32) &&& 31).toUInt32).toInt32) &&& (3 : Int32)) own_k0 own_v0)) (j4_2 (j0_0 q0 q1 p3) (((p3.toUInt32 >>> ((7 : Int32) &&& 31).toUInt32).toInt32) &&& (3 : Int32)) (j4_1 q0 own_k0 own_v0) (j4_2 q0 (((p3.toUInt32 >>> ((5 : Int32) &&& 31).toUInt32).toInt32) &&& (3 : Int32)) own_k0 own_v0))) 16))))])) _
                    refine XS.ifNo X883.here hx rfl (hb hby at_240) rfl ((if0 _ _).trans (teq hc884).2) ?_
                    show Steps p.tables e below (T883.setTop (mkF m 243 L_876 [])) _
                    refine XS.iconst X883.here hx rfl (hb hby at_243) ?_
                    show Steps p.tables e below (T883.setTop (mkF m 244 L_876 [(.int (0 : Int32))])) _
                    exact retN X883 hx (t := .boolean) Bd.returns (by simp) (hb hby at_244) hr
                  · show Q0 Z q0 q1 q2 p3 h0 n0 _ T883.heap _
                    rw [e883]
                    have hv : (0 : Int32) = (v0 q0 q1 q2 p3) := by first | exact ((if_neg hc562).trans ((if_neg hc594).trans ((if_neg hc648).trans ((if_neg hc762).trans ((if_neg hc829).trans ((if_neg hc846).trans ((if_pos hc878).trans (if_pos hc884)))))))).symm | (unfold v0; first | (rw [if_neg hc562, if_neg hc594, if_neg hc648, if_neg hc762, if_neg hc829, if_neg hc846, if_pos hc878, if_pos hc884]) | (simp only [if_neg hc562, if_neg hc594, if_neg hc648, if_neg hc762, if_neg hc829, if_neg hc846, if_pos hc878, if_pos hc884]))
                    exact ⟨(by rw [← hv]), N883⟩
                · skip
                  obtain ⟨cl886, Ar886, q886, S886, M886, H886, G886⟩ := id V865
                  have hin887 : ¬ ((1 : Int32) < 0 ∨ cl886.slots.size ≤ ((1 : Int32)).toNatClampNeg) := inb_of S886 ⟨by decide, by decide⟩
                  have hat888 : cl886.slots[((1 : Int32)).toNatClampNeg]? = some (.long (j0_0 q0 q1 p3)) := H886.at hin887 rfl
                  obtain ⟨_, _, ⟨T889, L889, k889, n889⟩, -, X889, ⟨Lc889, hQ889, l889, y889, z889⟩, st889⟩ := Jvm.LawKit.callS X883 hx (y := (⟨"com/example/pathfield/pathfield/query/LongIntMapKeysPinLaw", "has", "([JJ)Z"⟩ : MethodName)) hown (mvT hZ (hw _ (List.mem_of_getElem? (i := 36) rfl))) (mvT hZ (hw _ (List.mem_of_getElem? (i := 37) rfl))) (mvT hZ (hw _ (List.mem_of_getElem? (i := 38) rfl))) (mvT hZ (hw _ (List.mem_of_getElem? (i := 39) rfl))) (by decide) (backOf (W := 0) (rm7 l Z aw hw [] cx0733 ((j0_0 q0 q1 p3)) ((j4_0 (j0_1 q0 q1 q2 p3) (j4_0 (j0_0 q0 q1 p3) (j4_0 q0 (0 : Int32) own_k0 own_v0) (j4_1 q0 own_k0 own_v0) (j4_2 q0 (((p3.toUInt32 >>> ((5 : Int32) &&& 31).toUInt32).toInt32) &&& (3 : Int32)) own_k0 own_v0)) (j4_1 (j0_0 q0 q1 p3) (j4_1 q0 own_k0 own_v0) (j4_2 q0 (((p3.toUInt32 >>> ((5 : Int32) &&& 31).toUInt32).toInt32) &&& (3 : Int32)) own_k0 own_v0)) (j4_2 (j0_0 q0 q1 p3) (((p3.toUInt32 >>> ((7 : Int32) &&& 31).toUInt32).toInt32) &&& (3 : Int32)) (j4_1 q0 own_k0 own_v0) (j4_2 q0 (((p3.toUInt32 >>> ((5 : Int32) &&& 31).toUInt32).toInt32) &&& (3 : Int32)) own_k0 own_v0)))) ((own_res (j4_1 (j0_1 q0 q1 q2 p3) (j4_1 (j0_0 q0 q1 p3) (j4_1 q0 own_k0 own_v0) (j4_2 q0 (((p3.toUInt32 >>> ((5 : Int32) &&& 31).toUInt32).toInt32) &&& (3 : Int32)) own_k0 own_v0)) (j4_2 (j0_0 q0 q1 p3) (((p3.toUInt32 >>> ((7 : Int32) &&& 31).toUInt32).toInt32) &&& (3 : Int32)) (j4_1 q0 own_k0 own_v0) (j4_2 q0 (((p3.toUInt32 >>> ((5 : Int32) &&& 31).toUInt32).toInt32) &&& (3 : Int32)) own_k0 own_v0))) (j4_2 (j0_1 q0 q1 q2 p3) (((p3.toUInt32 >>> ((9 : Int32) &&& 31).toUInt32).toInt32) &&& (4194303 : Int32)) (j4_1 (j0_0 q0 q1 p3) (j4_1 q0 own_k0 own_v0) (j4_2 q0 (((p3.toUInt32 >>> ((5 : Int32) &&& 31).toUInt32).toInt32) &&& (3 : Int32)) own_k0 own_v0)) (j4_2 (j0_0 q0 q1 p3) (((p3.toUInt32 >>> ((7 : Int32) &&& 31).toUInt32).toInt32) &&& (3 : Int32)) (j4_1 q0 own_k0 own_v0) (j4_2 q0 (((p3.toUInt32 >>> ((5 : Int32) &&& 31).toUInt32).toInt32) &&& (3 : Int32)) own_k0 own_v0))) 16)) cy0733 h865 n0 Z874 f873) hZ (hw _ (List.mem_of_getElem? (i := 39) rfl)) (hw _ (List.mem_of_getElem? (i := 38) rfl)) (by decide) (by decide)) (g := (mkF m 257 L_876 [(.long (j0_0 q0 q1 p3)), (.ref cx0733)])) rfl (by rw [hml]; rfl) (argsL := [(.ref cx0733), (.long (j0_0 q0 q1 p3))]) (rest := []) (lenOf pd_8 rfl) rfl (by show 2 * 0 + _ ≤ _; exact Nat.le_of_eq rfl) (hb hby at_257) (fun _ _ => ⟨rfl, e883, (by decide : 5 + 0 ≤ _), (by decide : 41 + 0 ≤ _)⟩)
                  dsimp only [Pt.U, Pt.locs, Pt.cells, Pt.slots] at X889 l889 y889 z889 st889 hQ889
                  replace l889 := l889.symm
                  subst l889 y889 z889
                  obtain ⟨rfl, N889q, e889⟩ := hQ889
                  have N889 := Fr.app N883 N889q
                  have pre891 := fun (t : State) (k : Steps p.tables e below (T889.setTop (mkF m 260 L_876 [(.int (nar .boolean (j7_0 (j0_0 q0 q1 p3) (j4_0 (j0_1 q0 q1 q2 p3) (j4_0 (j0_0 q0 q1 p3) (j4_0 q0 (0 : Int32) own_k0 own_v0) (j4_1 q0 own_k0 own_v0) (j4_2 q0 (((p3.toUInt32 >>> ((5 : Int32) &&& 31).toUInt32).toInt32) &&& (3 : Int32)) own_k0 own_v0)) (j4_1 (j0_0 q0 q1 p3) (j4_1 q0 own_k0 own_v0) (j4_2 q0 (((p3.toUInt32 >>> ((5 : Int32) &&& 31).toUInt32).toInt32) &&& (3 : Int32)) own_k0 own_v0)) (j4_2 (j0_0 q0 q1 p3) (((p3.toUInt32 >>> ((7 : Int32) &&& 31).toUInt32).toInt32) &&& (3 : Int32)) (j4_1 q0 own_k0 own_v0) (j4_2 q0 (((p3.toUInt32 >>> ((5 : Int32) &&& 31).toUInt32).toInt32) &&& (3 : Int32)) own_k0 own_v0))) (own_res (j4_1 (j0_1 q0 q1 q2 p3) (j4_1 (j0_0 q0 q1 p3) (j4_1 q0 own_k0 own_v0) (j4_2 q0 (((p3.toUInt32 >>> ((5 : Int32) &&& 31).toUInt32).toInt32) &&& (3 : Int32)) own_k0 own_v0)) (j4_2 (j0_0 q0 q1 p3) (((p3.toUInt32 >>> ((7 : Int32) &&& 31).toUInt32).toInt32) &&& (3 : Int32)) (j4_1 q0 own_k0 own_v0) (j4_2 q0 (((p3.toUInt32 >>> ((5 : Int32) &&& 31).toUInt32).toInt32) &&& (3 : Int32)) own_k0 own_v0))) (j4_2 (j0_1 q0 q1 q2 p3) (((p3.toUInt32 >>> ((9 : Int32) &&& 31).toUInt32).toInt32) &&& (4194303 : Int32)) (j4_1 (j0_0 q0 q1 p3) (j4_1 q0 own_k0 own_v0) (j4_2 q0 (((p3.toUInt32 >>> ((5 : Int32) &&& 31).toUInt32).toInt32) &&& (3 : Int32)) own_k0 own_v0)) (j4_2 (j0_0 q0 q1 p3) (((p3.toUInt32 >>> ((7 : Int32) &&& 31).toUInt32).toInt32) &&& (3 : Int32)) (j4_1 q0 own_k0 own_v0) (j4_2 q0 (((p3.toUInt32 >>> ((5 : Int32) &&& 31).toUInt32).toInt32) &&& (3 : Int32)) own_k0 own_v0))) 16))))])) t) => pre885 t (by
                    show Steps p.tables e below (T883.setTop (mkF m 240 L_876 [(.int (nar .boolean (j7_0 q0 (j4_0 (j0_1 q0 q1 q2 p3) (j4_0 (j0_0 q0 q1 p3) (j4_0 q0 (0 : Int32) own_k0 own_v0) (j4_1 q0 own_k0 own_v0) (j4_2 q0 (((p3.toUInt32 >>> ((5 : Int32) &&& 31).toUInt32).toInt32) &&& (3 : Int32)) own_k0 own_v0)) (j4_1 (j0_0 q0 q1 p3) (j4_1 q0 own_k0 own_v0) (j4_2 q0 (((p3.toUInt32 >>> ((5 : Int32) &&& 31).toUInt32).toInt32) &&& (3 : Int32)) own_k0 own_v0)) (j4_2 (j0_0 q0 q1 p3) (((p3.toUInt32 >>> ((7 : Int32) &&& 31).toUInt32).toInt32) &&& (3 : Int32)) (j4_1 q0 own_k0 own_v0) (j4_2 q0 (((p3.toUInt32 >>> ((5 : Int32) &&& 31).toUInt32).toInt32) &&& (3 : Int32)) own_k0 own_v0))) (own_res (j4_1 (j0_1 q0 q1 q2 p3) (j4_1 (j0_0 q0 q1 p3) (j4_1 q0 own_k0 own_v0) (j4_2 q0 (((p3.toUInt32 >>> ((5 : Int32) &&& 31).toUInt32).toInt32) &&& (3 : Int32)) own_k0 own_v0)) (j4_2 (j0_0 q0 q1 p3) (((p3.toUInt32 >>> ((7 : Int32) &&& 31).toUInt32).toInt32) &&& (3 : Int32)) (j4_1 q0 own_k0 own_v0) (j4_2 q0 (((p3.toUInt32 >>> ((5 : Int32) &&& 31).toUInt32).toInt32) &&& (3 : Int32)) own_k0 own_v0))) (j4_2 (j0_1 q0 q1 q2 p3) (((p3.toUInt32 >>> ((9 : Int32) &&& 31).toUInt32).toInt32) &&& (4194303 : Int32)) (j4_1 (j0_0 q0 q1 p3) (j4_1 q0 own_k0 own_v0) (j4_2 q0 (((p3.toUInt32 >>> ((5 : Int32) &&& 31).toUInt32).toInt32) &&& (3 : Int32)) own_k0 own_v0)) (j4_2 (j0_0 q0 q1 p3) (((p3.toUInt32 >>> ((7 : Int32) &&& 31).toUInt32).toInt32) &&& (3 : Int32)) (j4_1 q0 own_k0 own_v0) (j4_2 q0 (((p3.toUInt32 >>> ((5 : Int32) &&& 31).toUInt32).toInt32) &&& (3 : Int32)) own_k0 own_v0))) 16))))])) _
                    refine XS.ifYes X883.here hx rfl (pc0 := 240) (pc' := 245) rfl (hb hby at_240) rfl ((if0 _ _).trans (feq hc884).2) (by decide) (by decide) ?_
                    show Steps p.tables e below (T883.setTop (mkF m 245 L_876 [])) _
                    refine XS.iload X883.here hx rfl (hb hby at_245) rfl ?_
                    show Steps p.tables e below (T883.setTop (mkF m 247 L_876 [(.int (3 : Int32))])) _
                    refine XS.iconst X883.here hx rfl (hb hby at_247) ?_
                    show Steps p.tables e below (T883.setTop (mkF m 248 L_876 [(.int (2 : Int32)), (.int (3 : Int32))])) _
                    refine XS.icmpNo X883.here hx rfl (hb hby at_248) rfl (flt (by decide : ¬ ((3 : Int32) < (2 : Int32)))).1 ?_
                    show Steps p.tables e below (T883.setTop (mkF m 251 L_876 [])) _
                    refine XS.aload X883.here hx rfl (hb hby at_251) rfl rfl ?_
                    show Steps p.tables e below (T883.setTop (mkF m 253 L_876 [(.ref cx0733)])) _
                    refine XS.aload X883.here hx rfl (hb hby at_253) rfl rfl ?_
                    show Steps p.tables e below (T883.setTop (mkF m 255 L_876 [(.ref b533), (.ref cx0733)])) _
                    refine XS.iconst X883.here hx rfl (hb hby at_255) ?_
                    show Steps p.tables e below (T883.setTop (mkF m 256 L_876 [(.int (1 : Int32)), (.ref b533), (.ref cx0733)])) _
                    refine X883.laload hx (j := (1 : Int32)) (v := (.long (j0_0 q0 q1 p3))) (by rw [e883]; exact Ar886.1) (State.isArrayOf_alike hZ.alike Ar886.2.1) Ar886.2.2 hin887 hat888 (g := (mkF m 256 L_876 [(.int (1 : Int32)), (.ref b533), (.ref cx0733)])) rfl rfl (hb hby at_256) _ ?_
                    show Steps p.tables e below (T883.setTop (mkF m 257 L_876 [(.long (j0_0 q0 q1 p3)), (.ref cx0733)])) _
                    refine st889 _ ?_
                    exact k)
                  by_cases hc890 : (nar .boolean (j7_0 (j0_0 q0 q1 p3) (j4_0 (j0_1 q0 q1 q2 p3) (j4_0 (j0_0 q0 q1 p3) (j4_0 q0 (0 : Int32) own_k0 own_v0) (j4_1 q0 own_k0 own_v0) (j4_2 q0 (((p3.toUInt32 >>> ((5 : Int32) &&& 31).toUInt32).toInt32) &&& (3 : Int32)) own_k0 own_v0)) (j4_1 (j0_0 q0 q1 p3) (j4_1 q0 own_k0 own_v0) (j4_2 q0 (((p3.toUInt32 >>> ((5 : Int32) &&& 31).toUInt32).toInt32) &&& (3 : Int32)) own_k0 own_v0)) (j4_2 (j0_0 q0 q1 p3) (((p3.toUInt32 >>> ((7 : Int32) &&& 31).toUInt32).toInt32) &&& (3 : Int32)) (j4_1 q0 own_k0 own_v0) (j4_2 q0 (((p3.toUInt32 >>> ((5 : Int32) &&& 31).toUInt32).toInt32) &&& (3 : Int32)) own_k0 own_v0))) (own_res (j4_1 (j0_1 q0 q1 q2 p3) (j4_1 (j0_0 q0 q1 p3) (j4_1 q0 own_k0 own_v0) (j4_2 q0 (((p3.toUInt32 >>> ((5 : Int32) &&& 31).toUInt32).toInt32) &&& (3 : Int32)) own_k0 own_v0)) (j4_2 (j0_0 q0 q1 p3) (((p3.toUInt32 >>> ((7 : Int32) &&& 31).toUInt32).toInt32) &&& (3 : Int32)) (j4_1 q0 own_k0 own_v0) (j4_2 q0 (((p3.toUInt32 >>> ((5 : Int32) &&& 31).toUInt32).toInt32) &&& (3 : Int32)) own_k0 own_v0))) (j4_2 (j0_1 q0 q1 q2 p3) (((p3.toUInt32 >>> ((9 : Int32) &&& 31).toUInt32).toInt32) &&& (4194303 : Int32)) (j4_1 (j0_0 q0 q1 p3) (j4_1 q0 own_k0 own_v0) (j4_2 q0 (((p3.toUInt32 >>> ((5 : Int32) &&& 31).toUInt32).toInt32) &&& (3 : Int32)) own_k0 own_v0)) (j4_2 (j0_0 q0 q1 p3) (((p3.toUInt32 >>> ((7 : Int32) &&& 31).toUInt32).toInt32) &&& (3 : Int32)) (j4_1 q0 own_k0 own_v0) (j4_2 q0 (((p3.toUInt32 >>> ((5 : Int32) &&& 31).toUInt32).toInt32) &&& (3 : Int32)) own_k0 own_v0))) 16))) = (0 : Int32)
                  · skip
                    obtain ⟨fs, hr, hrun, hended, hW, hsame⟩ := X889.leave (v := some (.int (0 : Int32))) (fun h => by rw [Bd.returns] at h; cases h) (BodyLoose.notSynchronized Bd)
                    refine ⟨_, _, pre891 _ ?_, hrun, hended, _, _, rfl, ?_, ⟨_, rfl⟩, hW, hsame.mono (by decide) (by decide)⟩
                    · skip
                      show Steps p.tables e below (T889.setTop (mkF m 260 L_876 [(.int (nar .boolean (j7_0 (j0_0 q0 q1 p3) (j4_0 (j0_1 q0 q1 q2 p3) (j4_0 (j0_0 q0 q1 p3) (j4_0 q0 (0 : Int32) own_k0 own_v0) (j4_1 q0 own_k0 own_v0) (j4_2 q0 (((p3.toUInt32 >>> ((5 : Int32) &&& 31).toUInt32).toInt32) &&& (3 : Int32)) own_k0 own_v0)) (j4_1 (j0_0 q0 q1 p3) (j4_1 q0 own_k0 own_v0) (j4_2 q0 (((p3.toUInt32 >>> ((5 : Int32) &&& 31).toUInt32).toInt32) &&& (3 : Int32)) own_k0 own_v0)) (j4_2 (j0_0 q0 q1 p3) (((p3.toUInt32 >>> ((7 : Int32) &&& 31).toUInt32).toInt32) &&& (3 : Int32)) (j4_1 q0 own_k0 own_v0) (j4_2 q0 (((p3.toUInt32 >>> ((5 : Int32) &&& 31).toUInt32).toInt32) &&& (3 : Int32)) own_k0 own_v0))) (own_res (j4_1 (j0_1 q0 q1 q2 p3) (j4_1 (j0_0 q0 q1 p3) (j4_1 q0 own_k0 own_v0) (j4_2 q0 (((p3.toUInt32 >>> ((5 : Int32) &&& 31).toUInt32).toInt32) &&& (3 : Int32)) own_k0 own_v0)) (j4_2 (j0_0 q0 q1 p3) (((p3.toUInt32 >>> ((7 : Int32) &&& 31).toUInt32).toInt32) &&& (3 : Int32)) (j4_1 q0 own_k0 own_v0) (j4_2 q0 (((p3.toUInt32 >>> ((5 : Int32) &&& 31).toUInt32).toInt32) &&& (3 : Int32)) own_k0 own_v0))) (j4_2 (j0_1 q0 q1 q2 p3) (((p3.toUInt32 >>> ((9 : Int32) &&& 31).toUInt32).toInt32) &&& (4194303 : Int32)) (j4_1 (j0_0 q0 q1 p3) (j4_1 q0 own_k0 own_v0) (j4_2 q0 (((p3.toUInt32 >>> ((5 : Int32) &&& 31).toUInt32).toInt32) &&& (3 : Int32)) own_k0 own_v0)) (j4_2 (j0_0 q0 q1 p3) (((p3.toUInt32 >>> ((7 : Int32) &&& 31).toUInt32).toInt32) &&& (3 : Int32)) (j4_1 q0 own_k0 own_v0) (j4_2 q0 (((p3.toUInt32 >>> ((5 : Int32) &&& 31).toUInt32).toInt32) &&& (3 : Int32)) own_k0 own_v0))) 16))))])) _
                      refine XS.ifNo X889.here hx rfl (hb hby at_260) rfl ((if0 _ _).trans (teq hc890).2) ?_
                      show Steps p.tables e below (T889.setTop (mkF m 263 L_876 [])) _
                      refine XS.iconst X889.here hx rfl (hb hby at_263) ?_
                      show Steps p.tables e below (T889.setTop (mkF m 264 L_876 [(.int (0 : Int32))])) _
                      exact retN X889 hx (t := .boolean) Bd.returns (by simp) (hb hby at_264) hr
                    · show Q0 Z q0 q1 q2 p3 h0 n0 _ T889.heap _
                      rw [e889]
                      have hv : (0 : Int32) = (v0 q0 q1 q2 p3) := by first | exact ((if_neg hc562).trans ((if_neg hc594).trans ((if_neg hc648).trans ((if_neg hc762).trans ((if_neg hc829).trans ((if_neg hc846).trans ((if_pos hc878).trans ((if_neg hc884).trans (if_pos hc890))))))))).symm | (unfold v0; first | (rw [if_neg hc562, if_neg hc594, if_neg hc648, if_neg hc762, if_neg hc829, if_neg hc846, if_pos hc878, if_neg hc884, if_pos hc890]) | (simp only [if_neg hc562, if_neg hc594, if_neg hc648, if_neg hc762, if_neg hc829, if_neg hc846, if_pos hc878, if_neg hc884, if_pos hc890]))
                      exact ⟨(by rw [← hv]), N889⟩
                  · skip
                    obtain ⟨cl892, Ar892, q892, S892, M892, H892, G892⟩ := id V865
                    have hin893 : ¬ ((2 : Int32) < 0 ∨ cl892.slots.size ≤ ((2 : Int32)).toNatClampNeg) := inb_of S892 ⟨by decide, by decide⟩
                    have hat894 : cl892.slots[((2 : Int32)).toNatClampNeg]? = some (.long (j0_1 q0 q1 q2 p3)) := H892.at hin893 rfl
                    obtain ⟨_, _, ⟨T895, L895, k895, n895⟩, -, X895, ⟨Lc895, hQ895, l895, y895, z895⟩, st895⟩ := Jvm.LawKit.callS X889 hx (y := (⟨"com/example/pathfield/pathfield/query/LongIntMapKeysPinLaw", "has", "([JJ)Z"⟩ : MethodName)) hown (mvT hZ (hw _ (List.mem_of_getElem? (i := 36) rfl))) (mvT hZ (hw _ (List.mem_of_getElem? (i := 37) rfl))) (mvT hZ (hw _ (List.mem_of_getElem? (i := 38) rfl))) (mvT hZ (hw _ (List.mem_of_getElem? (i := 39) rfl))) (by decide) (backOf (W := 0) (rm7 l Z aw hw [] cx0733 ((j0_1 q0 q1 q2 p3)) ((j4_0 (j0_1 q0 q1 q2 p3) (j4_0 (j0_0 q0 q1 p3) (j4_0 q0 (0 : Int32) own_k0 own_v0) (j4_1 q0 own_k0 own_v0) (j4_2 q0 (((p3.toUInt32 >>> ((5 : Int32) &&& 31).toUInt32).toInt32) &&& (3 : Int32)) own_k0 own_v0)) (j4_1 (j0_0 q0 q1 p3) (j4_1 q0 own_k0 own_v0) (j4_2 q0 (((p3.toUInt32 >>> ((5 : Int32) &&& 31).toUInt32).toInt32) &&& (3 : Int32)) own_k0 own_v0)) (j4_2 (j0_0 q0 q1 p3) (((p3.toUInt32 >>> ((7 : Int32) &&& 31).toUInt32).toInt32) &&& (3 : Int32)) (j4_1 q0 own_k0 own_v0) (j4_2 q0 (((p3.toUInt32 >>> ((5 : Int32) &&& 31).toUInt32).toInt32) &&& (3 : Int32)) own_k0 own_v0)))) ((own_res (j4_1 (j0_1 q0 q1 q2 p3) (j4_1 (j0_0 q0 q1 p3) (j4_1 q0 own_k0 own_v0) (j4_2 q0 (((p3.toUInt32 >>> ((5 : Int32) &&& 31).toUInt32).toInt32) &&& (3 : Int32)) own_k0 own_v0)) (j4_2 (j0_0 q0 q1 p3) (((p3.toUInt32 >>> ((7 : Int32) &&& 31).toUInt32).toInt32) &&& (3 : Int32)) (j4_1 q0 own_k0 own_v0) (j4_2 q0 (((p3.toUInt32 >>> ((5 : Int32) &&& 31).toUInt32).toInt32) &&& (3 : Int32)) own_k0 own_v0))) (j4_2 (j0_1 q0 q1 q2 p3) (((p3.toUInt32 >>> ((9 : Int32) &&& 31).toUInt32).toInt32) &&& (4194303 : Int32)) (j4_1 (j0_0 q0 q1 p3) (j4_1 q0 own_k0 own_v0) (j4_2 q0 (((p3.toUInt32 >>> ((5 : Int32) &&& 31).toUInt32).toInt32) &&& (3 : Int32)) own_k0 own_v0)) (j4_2 (j0_0 q0 q1 p3) (((p3.toUInt32 >>> ((7 : Int32) &&& 31).toUInt32).toInt32) &&& (3 : Int32)) (j4_1 q0 own_k0 own_v0) (j4_2 q0 (((p3.toUInt32 >>> ((5 : Int32) &&& 31).toUInt32).toInt32) &&& (3 : Int32)) own_k0 own_v0))) 16)) cy0733 h865 n0 Z874 f873) hZ (hw _ (List.mem_of_getElem? (i := 39) rfl)) (hw _ (List.mem_of_getElem? (i := 38) rfl)) (by decide) (by decide)) (g := (mkF m 277 L_876 [(.long (j0_1 q0 q1 q2 p3)), (.ref cx0733)])) rfl (by rw [hml]; rfl) (argsL := [(.ref cx0733), (.long (j0_1 q0 q1 q2 p3))]) (rest := []) (lenOf pd_8 rfl) rfl (by show 2 * 0 + _ ≤ _; exact Nat.le_of_eq rfl) (hb hby at_277) (fun _ _ => ⟨rfl, e889, (by decide : 5 + 0 ≤ _), (by decide : 41 + 0 ≤ _)⟩)
                    dsimp only [Pt.U, Pt.locs, Pt.cells, Pt.slots] at X895 l895 y895 z895 st895 hQ895
                    replace l895 := l895.symm
                    subst l895 y895 z895
                    obtain ⟨rfl, N895q, e895⟩ := hQ895
                    have N895 := Fr.app N889 N895q
                    have pre897 := fun (t : State) (k : Steps p.tables e below (T895.setTop (mkF m 280 L_876 [(.int (nar .boolean (j7_0 (j0_1 q0 q1 q2 p3) (j4_0 (j0_1 q0 q1 q2 p3) (j4_0 (j0_0 q0 q1 p3) (j4_0 q0 (0 : Int32) own_k0 own_v0) (j4_1 q0 own_k0 own_v0) (j4_2 q0 (((p3.toUInt32 >>> ((5 : Int32) &&& 31).toUInt32).toInt32) &&& (3 : Int32)) own_k0 own_v0)) (j4_1 (j0_0 q0 q1 p3) (j4_1 q0 own_k0 own_v0) (j4_2 q0 (((p3.toUInt32 >>> ((5 : Int32) &&& 31).toUInt32).toInt32) &&& (3 : Int32)) own_k0 own_v0)) (j4_2 (j0_0 q0 q1 p3) (((p3.toUInt32 >>> ((7 : Int32) &&& 31).toUInt32).toInt32) &&& (3 : Int32)) (j4_1 q0 own_k0 own_v0) (j4_2 q0 (((p3.toUInt32 >>> ((5 : Int32) &&& 31).toUInt32).toInt32) &&& (3 : Int32)) own_k0 own_v0))) (own_res (j4_1 (j0_1 q0 q1 q2 p3) (j4_1 (j0_0 q0 q1 p3) (j4_1 q0 own_k0 own_v0) (j4_2 q0 (((p3.toUInt32 >>> ((5 : Int32) &&& 31).toUInt32).toInt32) &&& (3 : Int32)) own_k0 own_v0)) (j4_2 (j0_0 q0 q1 p3) (((p3.toUInt32 >>> ((7 : Int32) &&& 31).toUInt32).toInt32) &&& (3 : Int32)) (j4_1 q0 own_k0 own_v0) (j4_2 q0 (((p3.toUInt32 >>> ((5 : Int32) &&& 31).toUInt32).toInt32) &&& (3 : Int32)) own_k0 own_v0))) (j4_2 (j0_1 q0 q1 q2 p3) (((p3.toUInt32 >>> ((9 : Int32) &&& 31).toUInt32).toInt32) &&& (4194303 : Int32)) (j4_1 (j0_0 q0 q1 p3) (j4_1 q0 own_k0 own_v0) (j4_2 q0 (((p3.toUInt32 >>> ((5 : Int32) &&& 31).toUInt32).toInt32) &&& (3 : Int32)) own_k0 own_v0)) (j4_2 (j0_0 q0 q1 p3) (((p3.toUInt32 >>> ((7 : Int32) &&& 31).toUInt32).toInt32) &&& (3 : Int32)) (j4_1 q0 own_k0 own_v0) (j4_2 q0 (((p3.toUInt32 >>> ((5 : Int32) &&& 31).toUInt32).toInt32) &&& (3 : Int32)) own_k0 own_v0))) 16))))])) t) => pre891 t (by
                      show Steps p.tables e below (T889.setTop (mkF m 260 L_876 [(.int (nar .boolean (j7_0 (j0_0 q0 q1 p3) (j4_0 (j0_1 q0 q1 q2 p3) (j4_0 (j0_0 q0 q1 p3) (j4_0 q0 (0 : Int32) own_k0 own_v0) (j4_1 q0 own_k0 own_v0) (j4_2 q0 (((p3.toUInt32 >>> ((5 : Int32) &&& 31).toUInt32).toInt32) &&& (3 : Int32)) own_k0 own_v0)) (j4_1 (j0_0 q0 q1 p3) (j4_1 q0 own_k0 own_v0) (j4_2 q0 (((p3.toUInt32 >>> ((5 : Int32) &&& 31).toUInt32).toInt32) &&& (3 : Int32)) own_k0 own_v0)) (j4_2 (j0_0 q0 q1 p3) (((p3.toUInt32 >>> ((7 : Int32) &&& 31).toUInt32).toInt32) &&& (3 : Int32)) (j4_1 q0 own_k0 own_v0) (j4_2 q0 (((p3.toUInt32 >>> ((5 : Int32) &&& 31).toUInt32).toInt32) &&& (3 : Int32)) own_k0 own_v0))) (own_res (j4_1 (j0_1 q0 q1 q2 p3) (j4_1 (j0_0 q0 q1 p3) (j4_1 q0 own_k0 own_v0) (j4_2 q0 (((p3.toUInt32 >>> ((5 : Int32) &&& 31).toUInt32).toInt32) &&& (3 : Int32)) own_k0 own_v0)) (j4_2 (j0_0 q0 q1 p3) (((p3.toUInt32 >>> ((7 : Int32) &&& 31).toUInt32).toInt32) &&& (3 : Int32)) (j4_1 q0 own_k0 own_v0) (j4_2 q0 (((p3.toUInt32 >>> ((5 : Int32) &&& 31).toUInt32).toInt32) &&& (3 : Int32)) own_k0 own_v0))) (j4_2 (j0_1 q0 q1 q2 p3) (((p3.toUInt32 >>> ((9 : Int32) &&& 31).toUInt32).toInt32) &&& (4194303 : Int32)) (j4_1 (j0_0 q0 q1 p3) (j4_1 q0 own_k0 own_v0) (j4_2 q0 (((p3.toUInt32 >>> ((5 : Int32) &&& 31).toUInt32).toInt32) &&& (3 : Int32)) own_k0 own_v0)) (j4_2 (j0_0 q0 q1 p3) (((p3.toUInt32 >>> ((7 : Int32) &&& 31).toUInt32).toInt32) &&& (3 : Int32)) (j4_1 q0 own_k0 own_v0) (j4_2 q0 (((p3.toUInt32 >>> ((5 : Int32) &&& 31).toUInt32).toInt32) &&& (3 : Int32)) own_k0 own_v0))) 16))))])) _
                      refine XS.ifYes X889.here hx rfl (pc0 := 260) (pc' := 265) rfl (hb hby at_260) rfl ((if0 _ _).trans (feq hc890).2) (by decide) (by decide) ?_
                      show Steps p.tables e below (T889.setTop (mkF m 265 L_876 [])) _
                      refine XS.iload X889.here hx rfl (hb hby at_265) rfl ?_
                      show Steps p.tables e below (T889.setTop (mkF m 267 L_876 [(.int (3 : Int32))])) _
                      refine XS.iconst X889.here hx rfl (hb hby at_267) ?_
                      show Steps p.tables e below (T889.setTop (mkF m 268 L_876 [(.int (3 : Int32)), (.int (3 : Int32))])) _
                      refine XS.icmpNo X889.here hx rfl (hb hby at_268) rfl (flt (by decide : ¬ ((3 : Int32) < (3 : Int32)))).1 ?_
                      show Steps p.tables e below (T889.setTop (mkF m 271 L_876 [])) _
                      refine XS.aload X889.here hx rfl (hb hby at_271) rfl rfl ?_
                      show Steps p.tables e below (T889.setTop (mkF m 273 L_876 [(.ref cx0733)])) _
                      refine XS.aload X889.here hx rfl (hb hby at_273) rfl rfl ?_
                      show Steps p.tables e below (T889.setTop (mkF m 275 L_876 [(.ref b533), (.ref cx0733)])) _
                      refine XS.iconst X889.here hx rfl (hb hby at_275) ?_
                      show Steps p.tables e below (T889.setTop (mkF m 276 L_876 [(.int (2 : Int32)), (.ref b533), (.ref cx0733)])) _
                      refine X889.laload hx (j := (2 : Int32)) (v := (.long (j0_1 q0 q1 q2 p3))) (by rw [e889]; exact Ar892.1) (State.isArrayOf_alike hZ.alike Ar892.2.1) Ar892.2.2 hin893 hat894 (g := (mkF m 276 L_876 [(.int (2 : Int32)), (.ref b533), (.ref cx0733)])) rfl rfl (hb hby at_276) _ ?_
                      show Steps p.tables e below (T889.setTop (mkF m 277 L_876 [(.long (j0_1 q0 q1 q2 p3)), (.ref cx0733)])) _
                      refine st895 _ ?_
                      exact k)
                    by_cases hc896 : (nar .boolean (j7_0 (j0_1 q0 q1 q2 p3) (j4_0 (j0_1 q0 q1 q2 p3) (j4_0 (j0_0 q0 q1 p3) (j4_0 q0 (0 : Int32) own_k0 own_v0) (j4_1 q0 own_k0 own_v0) (j4_2 q0 (((p3.toUInt32 >>> ((5 : Int32) &&& 31).toUInt32).toInt32) &&& (3 : Int32)) own_k0 own_v0)) (j4_1 (j0_0 q0 q1 p3) (j4_1 q0 own_k0 own_v0) (j4_2 q0 (((p3.toUInt32 >>> ((5 : Int32) &&& 31).toUInt32).toInt32) &&& (3 : Int32)) own_k0 own_v0)) (j4_2 (j0_0 q0 q1 p3) (((p3.toUInt32 >>> ((7 : Int32) &&& 31).toUInt32).toInt32) &&& (3 : Int32)) (j4_1 q0 own_k0 own_v0) (j4_2 q0 (((p3.toUInt32 >>> ((5 : Int32) &&& 31).toUInt32).toInt32) &&& (3 : Int32)) own_k0 own_v0))) (own_res (j4_1 (j0_1 q0 q1 q2 p3) (j4_1 (j0_0 q0 q1 p3) (j4_1 q0 own_k0 own_v0) (j4_2 q0 (((p3.toUInt32 >>> ((5 : Int32) &&& 31).toUInt32).toInt32) &&& (3 : Int32)) own_k0 own_v0)) (j4_2 (j0_0 q0 q1 p3) (((p3.toUInt32 >>> ((7 : Int32) &&& 31).toUInt32).toInt32) &&& (3 : Int32)) (j4_1 q0 own_k0 own_v0) (j4_2 q0 (((p3.toUInt32 >>> ((5 : Int32) &&& 31).toUInt32).toInt32) &&& (3 : Int32)) own_k0 own_v0))) (j4_2 (j0_1 q0 q1 q2 p3) (((p3.toUInt32 >>> ((9 : Int32) &&& 31).toUInt32).toInt32) &&& (4194303 : Int32)) (j4_1 (j0_0 q0 q1 p3) (j4_1 q0 own_k0 own_v0) (j4_2 q0 (((p3.toUInt32 >>> ((5 : Int32) &&& 31).toUInt32).toInt32) &&& (3 : Int32)) own_k0 own_v0)) (j4_2 (j0_0 q0 q1 p3) (((p3.toUInt32 >>> ((7 : Int32) &&& 31).toUInt32).toInt32) &&& (3 : Int32)) (j4_1 q0 own_k0 own_v0) (j4_2 q0 (((p3.toUInt32 >>> ((5 : Int32) &&& 31).toUInt32).toInt32) &&& (3 : Int32)) own_k0 own_v0))) 16))) = (0 : Int32)
                    · skip
                      obtain ⟨fs, hr, hrun, hended, hW, hsame⟩ := X895.leave (v := some (.int (0 : Int32))) (fun h => by rw [Bd.returns] at h; cases h) (BodyLoose.notSynchronized Bd)
                      refine ⟨_, _, pre897 _ ?_, hrun, hended, _, _, rfl, ?_, ⟨_, rfl⟩, hW, hsame.mono (by decide) (by decide)⟩
                      · skip
                        show Steps p.tables e below (T895.setTop (mkF m 280 L_876 [(.int (nar .boolean (j7_0 (j0_1 q0 q1 q2 p3) (j4_0 (j0_1 q0 q1 q2 p3) (j4_0 (j0_0 q0 q1 p3) (j4_0 q0 (0 : Int32) own_k0 own_v0) (j4_1 q0 own_k0 own_v0) (j4_2 q0 (((p3.toUInt32 >>> ((5 : Int32) &&& 31).toUInt32).toInt32) &&& (3 : Int32)) own_k0 own_v0)) (j4_1 (j0_0 q0 q1 p3) (j4_1 q0 own_k0 own_v0) (j4_2 q0 (((p3.toUInt32 >>> ((5 : Int32) &&& 31).toUInt32).toInt32) &&& (3 : Int32)) own_k0 own_v0)) (j4_2 (j0_0 q0 q1 p3) (((p3.toUInt32 >>> ((7 : Int32) &&& 31).toUInt32).toInt32) &&& (3 : Int32)) (j4_1 q0 own_k0 own_v0) (j4_2 q0 (((p3.toUInt32 >>> ((5 : Int32) &&& 31).toUInt32).toInt32) &&& (3 : Int32)) own_k0 own_v0))) (own_res (j4_1 (j0_1 q0 q1 q2 p3) (j4_1 (j0_0 q0 q1 p3) (j4_1 q0 own_k0 own_v0) (j4_2 q0 (((p3.toUInt32 >>> ((5 : Int32) &&& 31).toUInt32).toInt32) &&& (3 : Int32)) own_k0 own_v0)) (j4_2 (j0_0 q0 q1 p3) (((p3.toUInt32 >>> ((7 : Int32) &&& 31).toUInt32).toInt32) &&& (3 : Int32)) (j4_1 q0 own_k0 own_v0) (j4_2 q0 (((p3.toUInt32 >>> ((5 : Int32) &&& 31).toUInt32).toInt32) &&& (3 : Int32)) own_k0 own_v0))) (j4_2 (j0_1 q0 q1 q2 p3) (((p3.toUInt32 >>> ((9 : Int32) &&& 31).toUInt32).toInt32) &&& (4194303 : Int32)) (j4_1 (j0_0 q0 q1 p3) (j4_1 q0 own_k0 own_v0) (j4_2 q0 (((p3.toUInt32 >>> ((5 : Int32) &&& 31).toUInt32).toInt32) &&& (3 : Int32)) own_k0 own_v0)) (j4_2 (j0_0 q0 q1 p3) (((p3.toUInt32 >>> ((7 : Int32) &&& 31).toUInt32).toInt32) &&& (3 : Int32)) (j4_1 q0 own_k0 own_v0) (j4_2 q0 (((p3.toUInt32 >>> ((5 : Int32) &&& 31).toUInt32).toInt32) &&& (3 : Int32)) own_k0 own_v0))) 16))))])) _
                        refine XS.ifNo X895.here hx rfl (hb hby at_280) rfl ((if0 _ _).trans (teq hc896).2) ?_
                        show Steps p.tables e below (T895.setTop (mkF m 283 L_876 [])) _
                        refine XS.iconst X895.here hx rfl (hb hby at_283) ?_
                        show Steps p.tables e below (T895.setTop (mkF m 284 L_876 [(.int (0 : Int32))])) _
                        exact retN X895 hx (t := .boolean) Bd.returns (by simp) (hb hby at_284) hr
                      · show Q0 Z q0 q1 q2 p3 h0 n0 _ T895.heap _
                        rw [e895]
                        have hv : (0 : Int32) = (v0 q0 q1 q2 p3) := by first | exact ((if_neg hc562).trans ((if_neg hc594).trans ((if_neg hc648).trans ((if_neg hc762).trans ((if_neg hc829).trans ((if_neg hc846).trans ((if_pos hc878).trans ((if_neg hc884).trans ((if_neg hc890).trans (if_pos hc896)))))))))).symm | (unfold v0; first | (rw [if_neg hc562, if_neg hc594, if_neg hc648, if_neg hc762, if_neg hc829, if_neg hc846, if_pos hc878, if_neg hc884, if_neg hc890, if_pos hc896]) | (simp only [if_neg hc562, if_neg hc594, if_neg hc648, if_neg hc762, if_neg hc829, if_neg hc846, if_pos hc878, if_neg hc884, if_neg hc890, if_pos hc896]))
                        exact ⟨(by rw [← hv]), N895⟩
                    · skip
                      obtain ⟨fs, hr, hrun, hended, hW, hsame⟩ := X895.leave (v := some (.int (1 : Int32))) (fun h => by rw [Bd.returns] at h; cases h) (BodyLoose.notSynchronized Bd)
                      refine ⟨_, _, pre897 _ ?_, hrun, hended, _, _, rfl, ?_, ⟨_, rfl⟩, hW, hsame.mono (by decide) (by decide)⟩
                      · skip
                        show Steps p.tables e below (T895.setTop (mkF m 280 L_876 [(.int (nar .boolean (j7_0 (j0_1 q0 q1 q2 p3) (j4_0 (j0_1 q0 q1 q2 p3) (j4_0 (j0_0 q0 q1 p3) (j4_0 q0 (0 : Int32) own_k0 own_v0) (j4_1 q0 own_k0 own_v0) (j4_2 q0 (((p3.toUInt32 >>> ((5 : Int32) &&& 31).toUInt32).toInt32) &&& (3 : Int32)) own_k0 own_v0)) (j4_1 (j0_0 q0 q1 p3) (j4_1 q0 own_k0 own_v0) (j4_2 q0 (((p3.toUInt32 >>> ((5 : Int32) &&& 31).toUInt32).toInt32) &&& (3 : Int32)) own_k0 own_v0)) (j4_2 (j0_0 q0 q1 p3) (((p3.toUInt32 >>> ((7 : Int32) &&& 31).toUInt32).toInt32) &&& (3 : Int32)) (j4_1 q0 own_k0 own_v0) (j4_2 q0 (((p3.toUInt32 >>> ((5 : Int32) &&& 31).toUInt32).toInt32) &&& (3 : Int32)) own_k0 own_v0))) (own_res (j4_1 (j0_1 q0 q1 q2 p3) (j4_1 (j0_0 q0 q1 p3) (j4_1 q0 own_k0 own_v0) (j4_2 q0 (((p3.toUInt32 >>> ((5 : Int32) &&& 31).toUInt32).toInt32) &&& (3 : Int32)) own_k0 own_v0)) (j4_2 (j0_0 q0 q1 p3) (((p3.toUInt32 >>> ((7 : Int32) &&& 31).toUInt32).toInt32) &&& (3 : Int32)) (j4_1 q0 own_k0 own_v0) (j4_2 q0 (((p3.toUInt32 >>> ((5 : Int32) &&& 31).toUInt32).toInt32) &&& (3 : Int32)) own_k0 own_v0))) (j4_2 (j0_1 q0 q1 q2 p3) (((p3.toUInt32 >>> ((9 : Int32) &&& 31).toUInt32).toInt32) &&& (4194303 : Int32)) (j4_1 (j0_0 q0 q1 p3) (j4_1 q0 own_k0 own_v0) (j4_2 q0 (((p3.toUInt32 >>> ((5 : Int32) &&& 31).toUInt32).toInt32) &&& (3 : Int32)) own_k0 own_v0)) (j4_2 (j0_0 q0 q1 p3) (((p3.toUInt32 >>> ((7 : Int32) &&& 31).toUInt32).toInt32) &&& (3 : Int32)) (j4_1 q0 own_k0 own_v0) (j4_2 q0 (((p3.toUInt32 >>> ((5 : Int32) &&& 31).toUInt32).toInt32) &&& (3 : Int32)) own_k0 own_v0))) 16))))])) _
                        refine XS.ifYes X895.here hx rfl (pc0 := 280) (pc' := 285) rfl (hb hby at_280) rfl ((if0 _ _).trans (feq hc896).2) (by decide) (by decide) ?_
                        show Steps p.tables e below (T895.setTop (mkF m 285 L_876 [])) _
                        refine XS.iconst X895.here hx rfl (hb hby at_285) ?_
                        show Steps p.tables e below (T895.setTop (mkF m 286 L_876 [(.int (1 : Int32))])) _
                        exact retN X895 hx (t := .boolean) Bd.returns (by simp) (hb hby at_286) hr
                      · show Q0 Z q0 q1 q2 p3 h0 n0 _ T895.heap _
                        rw [e895]
                        have hv : (1 : Int32) = (v0 q0 q1 q2 p3) := by first | exact ((if_neg hc562).trans ((if_neg hc594).trans ((if_neg hc648).trans ((if_neg hc762).trans ((if_neg hc829).trans ((if_neg hc846).trans ((if_pos hc878).trans ((if_neg hc884).trans ((if_neg hc890).trans (if_neg hc896)))))))))).symm | (unfold v0; first | (rw [if_neg hc562, if_neg hc594, if_neg hc648, if_neg hc762, if_neg hc829, if_neg hc846, if_pos hc878, if_neg hc884, if_neg hc890, if_neg hc896]) | (simp only [if_neg hc562, if_neg hc594, if_neg hc648, if_neg hc762, if_neg hc829, if_neg hc846, if_pos hc878, if_neg hc884, if_neg hc890, if_neg hc896]))
                        exact ⟨(by rw [← hv]), N895⟩
              · skip
                obtain ⟨fs, hr, hrun, hended, hW, hsame⟩ := X865.leave (v := some (.int (0 : Int32))) (fun h => by rw [Bd.returns] at h; cases h) (BodyLoose.notSynchronized Bd)
                refine ⟨_, _, pre879 _ ?_, hrun, hended, _, _, rfl, ?_, ⟨_, rfl⟩, hW, hsame.mono (by decide) (by decide)⟩
                · skip
                  show Steps p.tables e below (T865.setTop (mkF m 220 L_876 [(.int (3 : Int32)), (.int (j4_0 (j0_1 q0 q1 q2 p3) (j4_0 (j0_0 q0 q1 p3) (j4_0 q0 (0 : Int32) own_k0 own_v0) (j4_1 q0 own_k0 own_v0) (j4_2 q0 (((p3.toUInt32 >>> ((5 : Int32) &&& 31).toUInt32).toInt32) &&& (3 : Int32)) own_k0 own_v0)) (j4_1 (j0_0 q0 q1 p3) (j4_1 q0 own_k0 own_v0) (j4_2 q0 (((p3.toUInt32 >>> ((5 : Int32) &&& 31).toUInt32).toInt32) &&& (3 : Int32)) own_k0 own_v0)) (j4_2 (j0_0 q0 q1 p3) (((p3.toUInt32 >>> ((7 : Int32) &&& 31).toUInt32).toInt32) &&& (3 : Int32)) (j4_1 q0 own_k0 own_v0) (j4_2 q0 (((p3.toUInt32 >>> ((5 : Int32) &&& 31).toUInt32).toInt32) &&& (3 : Int32)) own_k0 own_v0))))])) _
                  refine XS.icmpNo X865.here hx rfl (hb hby at_220) rfl (feq hc878).1 ?_
                  show Steps p.tables e below (T865.setTop (mkF m 223 L_876 [])) _
                  refine XS.iconst X865.here hx rfl (hb hby at_223) ?_
                  show Steps p.tables e below (T865.setTop (mkF m 224 L_876 [(.int (0 : Int32))])) _
                  exact retN X865 hx (t := .boolean) Bd.returns (by simp) (hb hby at_224) hr
                · show Q0 Z q0 q1 q2 p3 h0 n0 _ T865.heap _
                  rw [e865]
                  have hv : (0 : Int32) = (v0 q0 q1 q2 p3) := by first | exact ((if_neg hc562).trans ((if_neg hc594).trans ((if_neg hc648).trans ((if_neg hc762).trans ((if_neg hc829).trans ((if_neg hc846).trans (if_neg hc878))))))).symm | (unfold v0; first | (rw [if_neg hc562, if_neg hc594, if_neg hc648, if_neg hc762, if_neg hc829, if_neg hc846, if_neg hc878]) | (simp only [if_neg hc562, if_neg hc594, if_neg hc648, if_neg hc762, if_neg hc829, if_neg hc846, if_neg hc878]))
                  exact ⟨(by rw [← hv]), N875⟩
theorem law_one (q0 q1 q2 : Int64) (p3 : Int32) : (v0 q0 q1 q2 p3) = 1 := by
  have va := own_v3 p3 5; have vb := own_v3 p3 7; have vc := own_v22 p3 9
  unfold v0
  generalize (((p3.toUInt32 >>> ((5 : Int32) &&& 31).toUInt32).toInt32) &&& (3 : Int32)) = wa at *
  generalize (((p3.toUInt32 >>> ((7 : Int32) &&& 31).toUInt32).toInt32) &&& (3 : Int32)) = wb at *
  generalize (((p3.toUInt32 >>> ((9 : Int32) &&& 31).toUInt32).toInt32) &&& (4194303 : Int32)) = wc at *
  generalize j0_1 q0 q1 q2 p3 = c at *
  generalize j0_0 q0 q1 p3 = b at *
  generalize (p3 &&& (3 : Int32)) = N at *
  obtain ⟨i, H1, R1⟩ := own_s1 q0 wa va
  obtain ⟨O2, H2, R2, h2⟩ := own_s2 H1 R1 b wb vb
  have l2 : O2.length ≤ 2 := by rcases h2 with ⟨-, rfl⟩ | ⟨-, j, rfl⟩ <;> simp
  obtain ⟨O3, H3, h3⟩ := own_s3 H2 R2 l2 c wc vc
  have e1 := H1.2.2.1
  have e2 := H2.2.2.1
  have e3 := H3.2.2.1
  by_cases n1 : N < (1 : Int32)
  · rw [if_pos n1]
  · rw [if_neg n1]
    by_cases n2 : N < (2 : Int32)
    · rw [if_pos n2, if_pos (by rw [e1]; rfl), if_neg (own_end H1 (by simp) (x := q0) (i := i) (by simp))]
    · rw [if_neg n2]
      by_cases n3 : N < (3 : Int32)
      · rw [if_pos n3]
        rcases h2 with ⟨rfl, rfl⟩ | ⟨ne, j, rfl⟩
        · rw [if_pos rfl, if_pos (by rw [e2]; rfl), if_neg (own_end H2 (by simp) (x := b) (i := i) (by simp))]
        · rw [if_neg ne, if_pos (by rw [e2]; rfl), if_neg (own_end H2 (by simp) (x := q0) (i := i) (by simp)), if_neg (own_end H2 (by simp) (x := b) (i := j) (by simp))]
      · rw [if_neg n3]
        rcases h2 with ⟨rfl, rfl⟩ | ⟨ne, j, rfl⟩
        · rw [if_pos rfl]
          rcases h3 with ⟨⟨l, m⟩, rfl⟩ | ⟨m, l, rfl⟩
          · simp only [List.mem_singleton, Prod.mk.injEq] at m
            rw [if_pos m.1, if_pos (by rw [e3]; rfl), if_neg (own_end H3 (by simp) (x := b) (i := i) (by simp))]
          · have hc : ¬ c = b := fun q => m ⟨i, by simp [q]⟩
            rw [if_neg hc, if_neg hc, if_pos (by rw [e3]; rfl), if_neg (own_end H3 (by simp) (x := b) (i := i) (by simp)), if_neg (own_end H3 (by simp) (x := c) (i := l) (by simp))]
        · rw [if_neg ne]
          rcases h3 with ⟨⟨l, m⟩, rfl⟩ | ⟨m, l, rfl⟩
          · simp only [List.mem_cons, List.not_mem_nil, or_false, Prod.mk.injEq] at m
            have p1 : j4_0 c (j4_0 b (j4_0 q0 0 own_k0 own_v0) (j4_1 q0 own_k0 own_v0) (j4_2 q0 wa own_k0 own_v0)) (j4_1 b (j4_1 q0 own_k0 own_v0) (j4_2 q0 wa own_k0 own_v0)) (j4_2 b wb (j4_1 q0 own_k0 own_v0) (j4_2 q0 wa own_k0 own_v0)) = (2 : Int32) := by rw [e3]; rfl
            have z1 := own_end H3 (by simp) (x := q0) (i := i) (by simp)
            have z2 := own_end H3 (by simp) (x := b) (i := j) (by simp)
            by_cases hc : c = q0
            · rw [if_pos hc, if_pos p1, if_neg z1, if_neg z2]
            · have hb : c = b := m.elim (fun y => y.1) fun y => absurd y.1 hc
              rw [if_neg hc, if_pos hb, if_pos p1, if_neg z1, if_neg z2]
          · have hc : ¬ c = q0 := fun q => m ⟨i, by simp [q]⟩
            have hb : ¬ c = b := fun q => m ⟨j, by simp [q]⟩
            rw [if_neg hc, if_neg hb, if_pos (by rw [e3]; rfl), if_neg (own_end H3 (by simp) (x := q0) (i := i) (by simp)), if_neg (own_end H3 (by simp) (x := b) (i := j) (by simp)), if_neg (own_end H3 (by simp) (x := c) (i := l) (by simp))]
set_option maxRecDepth 65536 in
set_option maxHeartbeats 40000000 in
theorem comes_1 {Post : Tables → Env → Array Value → State → Outcome → State → Prop} (hpost : ∀ tb e args s v u, (limb_1_1.after args s (.returned v) u = true ∧ limb_1_2.after args s (.returned v) u = true ∧ True) → FrameEnd s (.returned v) u (Jvm.fieldLocs frame_1_writes args s ++ Jvm.arrayLocs frame_1_arrays args s ++ Jvm.staticLocs frame_1_statics s) 24 192 → Post tb e args s (.returned v) u) :
    ArmFor flags0 classFile x code maxLocals ret World_1 tables_1 room_1 Calls_1 rest_1 Pre_1 Post := by
  intro l hfl _ _ p e ha hc hk s m args below hf hA hF happ hP
  obtain ⟨hcalls, hrest, hpre⟩ := hP
  obtain ⟨-, -, -, hnamed, -, -, -, hat⟩ := (Spec.applies_iff hf).mp happ
  obtain ⟨hg, hn⟩ := and_e (Cond.before_iff.mp (show (Jvm.Cond.and given_1 narrow_1).before args s = true from hpre))
  obtain ⟨hcount, r0⟩ := and_e hg
  obtain ⟨k0, r1⟩ := and_e r0
  obtain ⟨k1, r2⟩ := and_e r1
  obtain ⟨k2, r3⟩ := and_e r2
  have k3 := r3
  obtain ⟨w0, w1, w2, w3, rfl⟩ : ∃ w0 w1 w2 w3 : Value, args = #[w0, w1, w2, w3] := by
    have hs : args.size = 4 := by simpa [Cond.value, given_1] using hcount
    obtain ⟨L⟩ := args
    match L, hs with
    | [w0, w1, w2, w3], _ => exact ⟨w0, w1, w2, w3, rfl⟩
  have hw := fun d (hd : d ∈ tables_1) => atoms_spec (ws := Jvm.Cond.code x code maxLocals ret :: tables_1) hat d (List.mem_cons_of_mem _ hd)
  obtain ⟨i0, ei0⟩ := isL_v k0
  obtain rfl : w0 = (.long i0) := Option.some.inj ei0
  obtain ⟨i1, ei1⟩ := isL_v k1
  obtain rfl : w1 = (.long i1) := Option.some.inj ei1
  obtain ⟨i2, ei2⟩ := isL_v k2
  obtain rfl : w2 = (.long i2) := Option.some.inj ei2
  obtain ⟨i3, ei3⟩ := is_v k3
  obtain rfl : w3 = (.int i3) := Option.some.inj ei3
  obtain ⟨n, o, h1, h2, h3, v, L, rfl, ⟨hv, N⟩, hq⟩ := rm0 l s _ hw tables_1 i0 i1 i2 i3 s.heap s.heap.size (Nat.le_refl _) p e ha hc hk s m _ below hf ((Spec.applies_iff_loose hf).mp happ).1 ⟨rfl, State.Warmed39.refl s, rfl⟩ trivial
  rw [law_one i0 i1 i2 i3] at hv
  subst hv
  refine ⟨n, _, h1, h2, h3, hpost _ _ _ _ _ _ ⟨Cond.after_iff.mpr rfl, Cond.after_iff.mpr (eq_i res_at (Term.int_eval (1)) rfl), trivial⟩ ⟨hq.1, hq.2.1, (hq.2.2.sift fun y hy => Or.inr (N y hy)).mono (by decide) (by decide)⟩⟩
theorem main_1_1 : Claimed_1_1 := comes_1 fun _ _ _ _ _ _ h hF => ⟨h.1, hF⟩
theorem main_1_2 : Claimed_1_2 := comes_1 fun _ _ _ _ _ _ h hF => ⟨h.2.1, hF⟩
end Jvm.Pilot.@@N@@
namespace Jvm.Pilot.@@N@@
open Jvm Jvm.ClassFile Sem Op Lib Jvm.Free Jvm.Stand Jvm.Pilot.@@N@@.Jvm.D
/-! MADE BY PROGRAM (witnessworld.py) out of the Statement's table words and the real class files: 12 classes; the members and pool entries that the words name. The judged class is class 1, her method 2. -/
namespace start1
open Jvm.ClassFile
def u (s : String) : CpInfo := .utf8 (stringToUtf16 s)
/-- a pool by its gaps: so many unusable entries, then the entry; so many at the end -/
def gap : Nat → List CpInfo → List CpInfo
  | 0, r => r
  | n + 1, r => .unusable :: gap n r
def poolList (es : List (Nat × CpInfo)) (last : Nat) : List CpInfo := es.foldr (fun e r => gap e.1 (e.2 :: r)) (gap last [])
def pool (es : List (Nat × CpInfo)) (last : Nat) : Array CpInfo := ⟨poolList es last⟩
def fileOf (pool : Array CpInfo) (this : Nat) (attrs : Array Attribute := #[]) (ms : Array MethodInfo := #[]) (fl : Nat := 33) (sup : Nat := 0) (ifs : Array Nat := #[]) (fds : Array FieldInfo := #[]) : ClassFile where
  minorVersion := 0
  majorVersion := 65
  constantPool := pool
  accessFlags := fl
  thisClass := this
  superClass := sup
  interfaces := ifs
  fields := fds
  methods := ms
  attributes := attrs
def plain (name : String) (sup : Option ClassId) : Class where
  name := name
  kind := .ordinary
  loader := none
  accessFlags := 33
  super := sup
  interfaces := #[]
  cf := none
  fields := #[]
  methods := #[]
  instanceTypes := #[]
  staticTypes := #[]
  resolved := #[]
  callSites := []
  init := .initialized
  statics := none
  mirror := none

def pool0 : Array CpInfo := pool [(5, u "<init>"), (0, u "()V"), (1, .class_ 10), (1, u "java/lang/Object")] 113

def k0c0 : Code := { maxStack := 0, maxLocals := 1, code := object_method_1_code, exceptionTable := #[], attributes := #[] }
def k0m0 : Method := { name := "<init>", desc := "()V", sig := { parameters := [], returnType := none }, accessFlags := 1, code := some k0c0 }
/-- java/lang/Object -/
def k0 : Class := { plain "java/lang/Object" none with
  accessFlags := 33
  interfaces := #[]
  cf := some (fileOf pool0 8 #[] #[{ accessFlags := 1, nameIndex := 5, descriptorIndex := 6, attributes := #[] }] 33 0 #[] #[])
  fields := #[]
  methods := #[k0m0]
  instanceTypes := #[]
  staticTypes := #[]
  resolved := Array.replicate 124 none
  statics := none }

def pool1 : Array CpInfo := pool [(2, .class_ 4), (0, .nameAndType 5 6), (0, u "java/lang/Object"), (0, u "<init>"), (0, u "()V"), (0, .integer 4194303), (0, .class_ 9), (0, u "com/example/pathfield/pathfield/query/LongIntMap"), (0, .methodref 8 3), (0, .methodref 8 12), (0, .nameAndType 13 14), (0, u "put"), (0, u "(JI)V"), (0, .methodref 8 16), (0, .nameAndType 17 18), (0, u "keys"), (0, u "()[J"), (0, .methodref 20 21), (0, .class_ 22), (0, .nameAndType 23 24), (0, u "com/example/pathfield/pathfield/query/LongIntMapKeysPinLaw"), (0, u "has"), (0, u "([JJ)Z"), (3, u "law"), (0, u "(JJJI)Z")] 4

def k1m0 : Method := { name := "<init>", desc := "()V", sig := { parameters := [], returnType := none }, accessFlags := 1, code := none }
def k1c1 : Code := { maxStack := 4, maxLocals := 3, code := method_2_code, exceptionTable := #[], attributes := #[] }
def k1m1 : Method := { name := "has", desc := "([JJ)Z", sig := { parameters := [(.array .long), .long], returnType := some .boolean }, accessFlags := 10, code := some k1c1 }
def k1c2 : Code := { maxStack := 4, maxLocals := 16, code := code, exceptionTable := #[], attributes := #[] }
def k1m2 : Method := { name := "law", desc := "(JJJI)Z", sig := { parameters := [.long, .long, .long, .int], returnType := some .boolean }, accessFlags := 9, code := some k1c2 }
/-- com/example/pathfield/pathfield/query/LongIntMapKeysPinLaw -/
def k1 : Class := { plain "com/example/pathfield/pathfield/query/LongIntMapKeysPinLaw" (some 0) with
  accessFlags := 49
  interfaces := #[]
  cf := some (fileOf pool1 20 #[] #[{ accessFlags := 1, nameIndex := 5, descriptorIndex := 6, attributes := #[] }, { accessFlags := 10, nameIndex := 23, descriptorIndex := 24, attributes := #[] }, { accessFlags := 9, nameIndex := 28, descriptorIndex := 29, attributes := #[] }] 49 2 #[] #[])
  fields := #[]
  methods := #[k1m0, k1m1, k1m2]
  instanceTypes := #[]
  staticTypes := #[]
  resolved := Array.replicate 34 none
  statics := none }

def pool2 : Array CpInfo := pool [(1, .methodref 2 3), (0, .class_ 4), (0, .nameAndType 5 6), (0, u "java/lang/Object"), (0, u "<init>"), (0, u "()V"), (0, .fieldref 8 9), (0, .class_ 10), (0, .nameAndType 11 12), (0, u "com/example/pathfield/pathfield/query/LongIntMap"), (0, u "keys"), (0, u "[J"), (0, .fieldref 8 14), (0, .nameAndType 15 16), (0, u "values"), (0, u "[I"), (0, .methodref 18 19), (0, .class_ 20), (0, .nameAndType 21 22), (0, u "java/util/Arrays"), (0, u "fill"), (0, u "([II)V"), (0, .fieldref 8 24), (0, .nameAndType 25 26), (0, u "size"), (0, u "I"), (0, .methodref 8 28), (0, .nameAndType 29 30), (0, u "slot"), (0, u "(JI)I"), (5, u "put"), (0, u "(JI)V"), (0, .long 11400714819323198485), (1, u "NO_VALUE"), (8, u "()[J")] 4

def k2c0 : Code := { maxStack := 2, maxLocals := 1, code := prog_31_method_1_code, exceptionTable := #[], attributes := #[] }
def k2m0 : Method := { name := "<init>", desc := "()V", sig := { parameters := [], returnType := none }, accessFlags := 0, code := some k2c0 }
def k2c1 : Code := { maxStack := 4, maxLocals := 6, code := prog_31_method_4_code, exceptionTable := #[], attributes := #[] }
def k2m1 : Method := { name := "put", desc := "(JI)V", sig := { parameters := [.long, .int], returnType := none }, accessFlags := 0, code := some k2c1 }
def k2c2 : Code := { maxStack := 4, maxLocals := 4, code := prog_31_method_5_code, exceptionTable := #[], attributes := #[] }
def k2m2 : Method := { name := "keys", desc := "()[J", sig := { parameters := [], returnType := some (.array .long) }, accessFlags := 0, code := some k2c2 }
def k2c3 : Code := { maxStack := 5, maxLocals := 5, code := prog_31_method_7_code, exceptionTable := #[], attributes := #[] }
def k2m3 : Method := { name := "slot", desc := "(JI)I", sig := { parameters := [.long, .int], returnType := some .int }, accessFlags := 10, code := some k2c3 }
/-- com/example/pathfield/pathfield/query/LongIntMap -/
def k2 : Class := { plain "com/example/pathfield/pathfield/query/LongIntMap" (some 0) with
  accessFlags := 48
  interfaces := #[]
  cf := some (fileOf pool2 8 #[] #[{ accessFlags := 0, nameIndex := 5, descriptorIndex := 6, attributes := #[] }, { accessFlags := 0, nameIndex := 36, descriptorIndex := 37, attributes := #[] }, { accessFlags := 0, nameIndex := 11, descriptorIndex := 49, attributes := #[] }, { accessFlags := 10, nameIndex := 29, descriptorIndex := 30, attributes := #[] }] 48 2 #[] #[{ accessFlags := 26, nameIndex := 40, descriptorIndex := 26, attributes := #[] }, { accessFlags := 2, nameIndex := 11, descriptorIndex := 12, attributes := #[] }, { accessFlags := 2, nameIndex := 15, descriptorIndex := 16, attributes := #[] }, { accessFlags := 2, nameIndex := 25, descriptorIndex := 26, attributes := #[] }])
  fields := #[{ name := "NO_VALUE", type := .int, accessFlags := 26, slot := 0, constantValue := 0 }, { name := "keys", type := (.array .long), accessFlags := 2, slot := 0, constantValue := 0 }, { name := "values", type := (.array .int), accessFlags := 2, slot := 1, constantValue := 0 }, { name := "size", type := .int, accessFlags := 2, slot := 2, constantValue := 0 }]
  methods := #[k2m0, k2m1, k2m2, k2m3]
  instanceTypes := #[(.array .long), (.array .int), .int]
  staticTypes := #[.int]
  resolved := Array.replicate 54 none
  statics := none }

def pool3 : Array CpInfo := pool [(2, .class_ 4), (1, u "java/lang/Object"), (0, u "<init>"), (0, u "()V"), (7, .class_ 16), (1, u "java/util/Arrays"), (57, .class_ 76), (1, u "java/util/Arrays$NaturalOrder"), (36, .class_ 115), (1, u "java/util/Arrays$LegacyMergeSort"), (1, u "Z"), (257, .class_ 376), (0, u "java/util/Arrays$ArrayList"), (68, u "$assertionsDisabled"), (269, u "MIN_ARRAY_SORT_GRAN"), (0, u "I"), (2, u "INSERTIONSORT_THRESHOLD"), (120, u "fill"), (4, u "([II)V"), (129, .class_ 976), (0, u "java/util/Arrays$ArrayItr")] 52

def k3m0 : Method := { name := "<init>", desc := "()V", sig := { parameters := [], returnType := none }, accessFlags := 2, code := none }
def k3c1 : Code := { maxStack := 3, maxLocals := 4, code := jdk_65_method_103_code, exceptionTable := #[], attributes := #[] }
def k3m1 : Method := { name := "fill", desc := "([II)V", sig := { parameters := [(.array .int), .int], returnType := none }, accessFlags := 9, code := some k3c1 }
/-- java/util/Arrays -/
def k3 : Class := { plain "java/util/Arrays" (some 0) with
  accessFlags := 49
  interfaces := #[]
  cf := some (fileOf pool3 14 #[.nestMembers #[975, 375, 113, 74]] #[{ accessFlags := 2, nameIndex := 5, descriptorIndex := 6, attributes := #[] }, { accessFlags := 9, nameIndex := 840, descriptorIndex := 845, attributes := #[] }] 49 2 #[] #[{ accessFlags := 26, nameIndex := 715, descriptorIndex := 716, attributes := #[] }, { accessFlags := 26, nameIndex := 719, descriptorIndex := 716, attributes := #[] }, { accessFlags := 4120, nameIndex := 445, descriptorIndex := 117, attributes := #[] }])
  fields := #[{ name := "MIN_ARRAY_SORT_GRAN", type := .int, accessFlags := 26, slot := 0, constantValue := 0 }, { name := "INSERTIONSORT_THRESHOLD", type := .int, accessFlags := 26, slot := 1, constantValue := 0 }, { name := "$assertionsDisabled", type := .boolean, accessFlags := 4120, slot := 2, constantValue := 0 }]
  methods := #[k3m0, k3m1]
  instanceTypes := #[]
  staticTypes := #[.int, .int, .boolean]
  resolved := Array.replicate 1029 none
  statics := none }

def pool4 : Array CpInfo := pool [(1, u "java/lang/Cloneable"), (0, .class_ 1), (0, u "java/lang/Object"), (0, .class_ 3)] 3

/-- java/lang/Cloneable -/
def k4 : Class := { plain "java/lang/Cloneable" (some 0) with
  accessFlags := 1537
  interfaces := #[]
  cf := some (fileOf pool4 2 #[] #[] 1537 4 #[] #[])
  fields := #[]
  methods := #[]
  instanceTypes := #[]
  staticTypes := #[]
  resolved := Array.replicate 8 none
  statics := none }

def pool5 : Array CpInfo := pool [(1, u "java/io/Serializable"), (0, .class_ 1), (0, u "java/lang/Object"), (0, .class_ 3)] 3

/-- java/io/Serializable -/
def k5 : Class := { plain "java/io/Serializable" (some 0) with
  accessFlags := 1537
  interfaces := #[]
  cf := some (fileOf pool5 2 #[] #[] 1537 4 #[] #[])
  fields := #[]
  methods := #[]
  instanceTypes := #[]
  staticTypes := #[]
  resolved := Array.replicate 8 none
  statics := none }

/-- the primitive byte -/
def k6 : Class := { plain "byte" none with kind := .primitive 'B', accessFlags := 0x411 }
/-- [B -/
def k7 : Class := { plain "[B" (some 0) with kind := .array 6 .byte, interfaces := #[4, 5], accessFlags := 1041 }

/-- the primitive int -/
def k8 : Class := { plain "int" none with kind := .primitive 'I', accessFlags := 0x411 }
/-- [I -/
def k9 : Class := { plain "[I" (some 0) with kind := .array 8 .int, interfaces := #[4, 5], accessFlags := 1041 }

/-- the primitive long -/
def k10 : Class := { plain "long" none with kind := .primitive 'J', accessFlags := 0x411 }
/-- [J -/
def k11 : Class := { plain "[J" (some 0) with kind := .array 10 .long, interfaces := #[4, 5], accessFlags := 1041 }

def heap : Heap := #[]
def classes : Array Class := #[k0, k1, k2, k3, k4, k5, k6, k7, k8, k9, k10, k11]
def interned : List (Array UInt16 × Addr) := []
def slotsUsed : Nat := 0
def theMethod : MethodId := ⟨1, 2⟩
def args0 : Array Value := #[.long 5, .long 5, .long 5, .int 5]
def aboutOver (below : List Frame) : State where
  vm := { classes := classes, interned := interned.toArray }
  heap := heap
  slotsUsed := slotsUsed
  threads := #[{ frames := .invoking theMethod args0 :: below }]
def below0 : List Frame := [.native { method := ⟨0, 0⟩, args := #[] }]
def about1 : State := aboutOver below0
def p0 : Program := .bare "" "" ""
def e0 : Env := launch0.env 0 0 0
theorem w_frames : about1.frames = Frame.invoking theMethod args0 :: below0 := rfl
set_option maxRecDepth 65536 in
theorem w_args : argsFit about1.vm theMethod args0 = true := by decide +kernel
set_option maxRecDepth 65536 in
theorem w_heap : heapFits about1 = true := by decide +kernel
set_option maxRecDepth 65536 in
theorem w_runnable : about1.curStatus? = some .runnable := by decide +kernel
set_option maxRecDepth 65536 in
theorem w_alone : about1.alone = true := by decide +kernel
set_option maxRecDepth 65536 in
theorem w_named : about1.methodNamed? x = some theMethod := by decide +kernel
set_option maxRecDepth 65536 in
theorem w_hears : about1.hears theMethod below0 = true := by decide +kernel
set_option maxRecDepth 65536 in
theorem w_ripe : about1.ripe theMethod args0 below0 = true := by decide +kernel
theorem w_running : about1.status = .running := rfl
set_option maxRecDepth 65536 in
theorem w_room : about1.hasRoom e0.platform room_1 = true :=
  launch0.hasRoom_least _ room_1 (by decide +kernel) (by decide +kernel) (by decide +kernel) (by decide +kernel) (by decide +kernel) (by decide +kernel)
theorem allAtoms_all (ts : List Jvm.Cond) (a : Array Jvm.Value) (st : Jvm.State) : (allAtoms ts).before a st = ts.all (fun c => c.before a st) := by
  induction ts with
  | nil => rfl
  | cons c t ih =>
    show (Jvm.Cond.and c (allAtoms t)).before a st = _
    rw [Jvm.Cond.before_and, ih, List.all_cons]
def words1 : List Jvm.Cond := Jvm.Cond.code x code maxLocals ret :: tables_1
/-- a 'code' word, met by the world's own term for the bytes: nothing is compared byte by byte -/
theorem code_word {y : MethodName} {bytes : ByteArray} {mx : Nat} {rt : Option FieldType} {a : Array Value} {s : State} {m : MethodId} {meth : Method} {c : Code} (h1 : s.methodNamed? y = some m) (h2 : s.vm.method? m = some meth) (h3 : meth.code = some c) (h4 : c.code = bytes)
    (h5 : (c.maxLocals == mx && c.exceptionTable.isEmpty && decide (c.maxStack ≤ mostOperands) && decide (meth.sig.returnType = rt) && !meth.locks && decide (parseMethodDescriptor y.desc = some meth.sig)) = true) : (Jvm.Cond.code y bytes mx rt).before a s = true := by
  simp only [Bool.and_eq_true, beq_iff_eq, Bool.not_eq_true', decide_eq_true_eq] at h5
  obtain ⟨⟨⟨⟨⟨g1, g2⟩, g3⟩, g4⟩, g5⟩, g6⟩ := h5
  simp [Cond.before, Cond.holds, Cond.value, h1, h2, h3, h4, g1, g2, g3, g4, g5, g6]
def isCode : Jvm.Cond → Bool
  | .code _ _ _ _ => true
  | _ => false
theorem all_split {L : List Jvm.Cond} {P : Jvm.Cond → Bool} (h1 : L.all (fun c => isCode c || P c) = true) (h2 : ∀ c ∈ L.filter isCode, P c = true) : L.all P = true := by
  refine List.all_eq_true.mpr fun c hc => ?_
  have h := List.all_eq_true.mp h1 c hc
  rcases Bool.eq_false_or_eq_true (isCode c) with hi | hi
  · exact h2 c (List.mem_filter.mpr ⟨hc, hi⟩)
  · simpa [hi] using h
set_option maxRecDepth 65536 in
theorem w_c0 : (Jvm.Cond.code x code maxLocals ret).before args0 about1 = true := code_word (m := ⟨1, 2⟩) (meth := k1m2) (c := k1c2) (by decide +kernel) rfl rfl rfl (by decide +kernel)
set_option maxRecDepth 65536 in
theorem w_c1 : (Jvm.Cond.code ({ cls := "com/example/pathfield/pathfield/query/LongIntMap", name := "<init>", desc := "()V" } : Jvm.MethodName) prog_31_method_1_code (1 : Nat) (Option.none : Option Jvm.ClassFile.FieldType)).before args0 about1 = true := code_word (m := ⟨2, 0⟩) (meth := k2m0) (c := k2c0) (by decide +kernel) rfl rfl rfl (by decide +kernel)
set_option maxRecDepth 65536 in
theorem w_c2 : (Jvm.Cond.code ({ cls := "java/lang/Object", name := "<init>", desc := "()V" } : Jvm.MethodName) object_method_1_code (1 : Nat) (Option.none : Option Jvm.ClassFile.FieldType)).before args0 about1 = true := code_word (m := ⟨0, 0⟩) (meth := k0m0) (c := k0c0) (by decide +kernel) rfl rfl rfl (by decide +kernel)
set_option maxRecDepth 65536 in
theorem w_c3 : (Jvm.Cond.code ({ cls := "java/util/Arrays", name := "fill", desc := "([II)V" } : Jvm.MethodName) jdk_65_method_103_code (4 : Nat) (Option.none : Option Jvm.ClassFile.FieldType)).before args0 about1 = true := code_word (m := ⟨3, 1⟩) (meth := k3m1) (c := k3c1) (by decide +kernel) rfl rfl rfl (by decide +kernel)
set_option maxRecDepth 65536 in
theorem w_c4 : (Jvm.Cond.code ({ cls := "com/example/pathfield/pathfield/query/LongIntMap", name := "put", desc := "(JI)V" } : Jvm.MethodName) prog_31_method_4_code (6 : Nat) (Option.none : Option Jvm.ClassFile.FieldType)).before args0 about1 = true := code_word (m := ⟨2, 1⟩) (meth := k2m1) (c := k2c1) (by decide +kernel) rfl rfl rfl (by decide +kernel)
set_option maxRecDepth 65536 in
theorem w_c5 : (Jvm.Cond.code ({ cls := "com/example/pathfield/pathfield/query/LongIntMap", name := "slot", desc := "(JI)I" } : Jvm.MethodName) prog_31_method_7_code (5 : Nat) (Option.some Jvm.ClassFile.FieldType.int)).before args0 about1 = true := code_word (m := ⟨2, 3⟩) (meth := k2m3) (c := k2c3) (by decide +kernel) rfl rfl rfl (by decide +kernel)
set_option maxRecDepth 65536 in
theorem w_c6 : (Jvm.Cond.code ({ cls := "com/example/pathfield/pathfield/query/LongIntMap", name := "keys", desc := "()[J" } : Jvm.MethodName) prog_31_method_5_code (4 : Nat) (Option.some (Jvm.ClassFile.FieldType.array Jvm.ClassFile.FieldType.long))).before args0 about1 = true := code_word (m := ⟨2, 2⟩) (meth := k2m2) (c := k2c2) (by decide +kernel) rfl rfl rfl (by decide +kernel)
set_option maxRecDepth 65536 in
theorem w_c7 : (Jvm.Cond.code ({ cls := "com/example/pathfield/pathfield/query/LongIntMapKeysPinLaw", name := "has", desc := "([JJ)Z" } : Jvm.MethodName) method_2_code (3 : Nat) (Option.some Jvm.ClassFile.FieldType.boolean)).before args0 about1 = true := code_word (m := ⟨1, 1⟩) (meth := k1m1) (c := k1c1) (by decide +kernel) rfl rfl rfl (by decide +kernel)
def codes1 : List Jvm.Cond := [Jvm.Cond.code x code maxLocals ret, Jvm.Cond.code ({ cls := "com/example/pathfield/pathfield/query/LongIntMap", name := "<init>", desc := "()V" } : Jvm.MethodName) prog_31_method_1_code (1 : Nat) (Option.none : Option Jvm.ClassFile.FieldType), Jvm.Cond.code ({ cls := "java/lang/Object", name := "<init>", desc := "()V" } : Jvm.MethodName) object_method_1_code (1 : Nat) (Option.none : Option Jvm.ClassFile.FieldType), Jvm.Cond.code ({ cls := "java/util/Arrays", name := "fill", desc := "([II)V" } : Jvm.MethodName) jdk_65_method_103_code (4 : Nat) (Option.none : Option Jvm.ClassFile.FieldType), Jvm.Cond.code ({ cls := "com/example/pathfield/pathfield/query/LongIntMap", name := "put", desc := "(JI)V" } : Jvm.MethodName) prog_31_method_4_code (6 : Nat) (Option.none : Option Jvm.ClassFile.FieldType), Jvm.Cond.code ({ cls := "com/example/pathfield/pathfield/query/LongIntMap", name := "slot", desc := "(JI)I" } : Jvm.MethodName) prog_31_method_7_code (5 : Nat) (Option.some Jvm.ClassFile.FieldType.int), Jvm.Cond.code ({ cls := "com/example/pathfield/pathfield/query/LongIntMap", name := "keys", desc := "()[J" } : Jvm.MethodName) prog_31_method_5_code (4 : Nat) (Option.some (Jvm.ClassFile.FieldType.array Jvm.ClassFile.FieldType.long)), Jvm.Cond.code ({ cls := "com/example/pathfield/pathfield/query/LongIntMapKeysPinLaw", name := "has", desc := "([JJ)Z" } : Jvm.MethodName) method_2_code (3 : Nat) (Option.some Jvm.ClassFile.FieldType.boolean)]
set_option maxRecDepth 65536 in
theorem codes_eq : words1.filter isCode = codes1 := rfl
theorem w_codes : ∀ c ∈ words1.filter isCode, c.before args0 about1 = true := by
  rw [codes_eq]
  intro c hc
  simp only [codes1, List.mem_cons, List.not_mem_nil, or_false] at hc
  rcases hc with rfl | rfl | rfl | rfl | rfl | rfl | rfl | rfl
  · exact w_c0
  · exact w_c1
  · exact w_c2
  · exact w_c3
  · exact w_c4
  · exact w_c5
  · exact w_c6
  · exact w_c7
set_option maxRecDepth 65536 in
theorem w_t1 : (words1.take 24).all (fun c => isCode c || c.before args0 about1) = true := by decide +kernel
set_option maxRecDepth 65536 in
theorem w_t2 : (words1.drop 24).all (fun c => isCode c || c.before args0 about1) = true := by decide +kernel
theorem w_tables : (allAtoms (Jvm.Cond.code x code maxLocals ret :: tables_1)).before args0 about1 = true := by
  rw [allAtoms_all]
  show words1.all (fun c => c.before args0 about1) = true
  refine all_split ?_ w_codes
  rw [← List.take_append_drop 24 words1, List.all_append, w_t1, w_t2]
  rfl
set_option maxRecDepth 65536 in
theorem w_case : (Jvm.Cond.and given_1 narrow_1).before args0 about1 = true := by decide +kernel
theorem w_applies : (headSpec (Jvm.Cond.code x code maxLocals ret :: tables_1) room_1).applies x e0.platform about1 = true :=
  (Spec.applies_iff w_frames).mpr ⟨w_running, w_runnable, w_alone, w_named, w_hears, w_ripe, w_room, w_tables⟩
theorem atStart : AtStart classFile x code maxLocals ret World_1 tables_1 room_1 Calls_1 rest_1 Pre_1 launch0 p0 e0 about1 theMethod args0 below0 :=
  ⟨lists_1, trivial, launch0.admits_env _ _ _, launch0.least_env, fairChoices_fair.cas, fairChoices_fair.clock, w_frames, w_args, w_heap, w_applies, trivial, trivial, w_case⟩
end start1
theorem witness_1 : WitnessClaimed_1 := ⟨start1.p0, start1.e0, start1.about1, start1.theMethod, start1.args0, start1.below0, start1.atStart⟩
end Jvm.Pilot.@@N@@
