import JvmDerived
import JvmDerived.Pilot.@@N@@Statement
import JvmDerived.Pilot.@@N@@Code
set_option linter.unusedVariables false
set_option linter.unusedSimpArgs false
namespace Jvm.Pilot.@@N@@
open Jvm Jvm.ClassFile Sem Op Lib Jvm.Free Jvm.Stand Jvm.LawKit Jvm.RoadKit Bundle Jvm.Pilot.@@N@@.Jvm.D
/-- what is left to show at a frame of the walk: the run from there ends as the contract says -/
def own_G (p : Program) (e : Env) (below : List Frame) (s : State) (Q : Option Value → Heap → List Loc → Prop) (ce sl : Nat) (T : State) (g : JFrame) : Prop :=
  ∃ s₂ o, Steps p.tables e below (T.setTop g) s₂ ∧ s₂.status = .running ∧ Ended s₂ below o ∧ ∃ v L, o = .returned v ∧ Q v s₂.heap L ∧ FrameEnd s o s₂ L ce sl
theorem own_w {p : Program} {e : Env} {below : List Frame} {s : State} {Q : Option Value → Heap → List Loc → Prop} {ce sl : Nat} {T T' : State} {g g' : JFrame}
    (st : ∀ target, Steps p.tables e below (T'.setTop g') target → Steps p.tables e below (T.setTop g) target) (k : own_G p e below s Q ce sl T' g') : own_G p e below s Q ce sl T g := by
  obtain ⟨u, o, a, r⟩ := k
  exact ⟨u, o, st u a, r⟩
theorem own_t {p : Program} {e : Env} {below : List Frame} {s : State} {Q : Option Value → Heap → List Loc → Prop} {ce sl : Nat} {T T' : State} {g g' : JFrame}
    (st : Steps p.tables e below (T.setTop g) (T'.setTop g')) (k : own_G p e below s Q ce sl T' g') : own_G p e below s Q ce sl T g := own_w (fun _ k => st.trans k) k
theorem own_sta {Z : State} {h h' : Heap} {C n d : String} {v : Value} {a : Addr} (F : Sta Z h C n d v) (K : Keep h h' [a]) (na : ∀ cell : Cell, h[a]? = some cell → cell.vm.isStatics = false) : Sta Z h' C n d v := by
  obtain ⟨cf, i, k, f, st, cell, h1, h2, h3, h4, h5, h6, h7⟩ := F
  refine ⟨cf, i, k, f, st, cell, h1, h2, h3, h4, K.2.1 st cell h5 (fun q => ?_), h6, h7⟩
  have e : st = a := List.mem_singleton.mp q
  subst e
  rw [na _ h5] at h6; cases h6
theorem own_nb {P : Prop} [Decidable P] : narrow .boolean (.int (if P then (1 : Int32) else 0)) = .int (if P then (1 : Int32) else 0) := by split <;> rfl
theorem own_ite0 {P : Prop} [Decidable P] : ((if P then (1 : Int32) else 0) = 0) = ¬ P := by by_cases h : P <;> simp [h]
def own_Ar (Z : State) (h : Heap) (a : Addr) (ty : FieldType) (xs : List Int32) : Prop := ∃ c : Cell, Arr Z h a c ty ∧ c.slots = (xs.map Value.int).toArray
section Arrays
variable {Z : State} {h h' : Heap} {a b : Addr} {ty : FieldType} {xs : List Int32} {c : Cell} {i : Nat} {j x y v : Int32} {sl : Nat} {u : Value} {ws : List Addr}
theorem own_Ar_lt (V : own_Ar Z h a ty xs) : a < h.size := by obtain ⟨c, A, -⟩ := V; exact A.lt
theorem own_Ar_ext (V : own_Ar Z h a ty xs) (E : Ext h h') : own_Ar Z h' a ty xs := by obtain ⟨c, A, r⟩ := V; exact ⟨c, A.ext E, r⟩
theorem own_Ar_other (V : own_Ar Z h b ty xs) (W : Wr h h' a sl u) (q : b ≠ a) : own_Ar Z h' b ty xs := by obtain ⟨c, A, r⟩ := V; exact ⟨c, A.other W q, r⟩
theorem own_Ar_keep (V : own_Ar Z h a ty xs) (K : Keep h h' ws) (q : a ∉ ws) : own_Ar Z h' a ty xs := by obtain ⟨c, A, r⟩ := V; exact ⟨c, ⟨K.2.1 a c A.1 q, A.2⟩, r⟩
theorem own_Ar_new {cA : ClassId} {n : Int32} {k : Nat} (A : Arr Z h a (newA cA ty n) ty) (hd : defaultValue ty = .int 0) (hn : n.toNatClampNeg = k) : own_Ar Z h a ty (List.replicate k 0) := by
  refine ⟨_, A, ?_⟩
  show Array.replicate n.toNatClampNeg (defaultValue ty) = _
  rw [hd, hn]; simp
theorem own_ix (hj : j.toInt = (i : Int)) : j.toNatClampNeg = i := by show j.toInt.toNat = i; rw [hj]; rfl
theorem own_Ar_set (V : own_Ar Z h a ty xs) (W : Wr h h' a j.toNatClampNeg (.int y)) (hj : j.toInt = (i : Int)) (hv : y = v) : own_Ar Z h' a ty (xs.set i v) := by
  obtain ⟨c, A, hs⟩ := V
  subst hv
  refine ⟨_, A.same W, ?_⟩
  show c.slots.setIfInBounds _ _ = _
  rw [hs, own_ix hj]; simp [List.map_set]
theorem own_Ar_in (hs : c.slots = (xs.map Value.int).toArray) (hj : j.toInt = (i : Int)) (hi : i < xs.length) : ¬ (j < 0 ∨ c.slots.size ≤ j.toNatClampNeg) := by
  rw [hs, own_ix hj, Int32.lt_iff_toInt_lt, hj, show (0 : Int32).toInt = 0 from rfl]
  simp; omega
theorem own_Ar_at (hs : c.slots = (xs.map Value.int).toArray) (hj : j.toInt = (i : Int)) (hx : xs[i]? = some x) : c.slots[j.toNatClampNeg]? = some (.int x) := by
  rw [hs, own_ix hj]; simp [hx]
theorem own_fitc (A : Arr Z h a c ty) (hs : c.slots = (xs.map Value.int).toArray) (hf : ∀ x ∈ xs, fits ty (.int x) = true) : FitC Z c := fitC_of A fun i hi v hv => by
  rw [hs] at hv
  simp only [List.getElem?_toArray, List.getElem?_map, Option.map_eq_some_iff] at hv
  obtain ⟨x, hx, rfl⟩ := hv
  exact hf x (List.mem_of_getElem? hx)
theorem own_get_lt (hx : xs[i]? = some x) : i < xs.length := (List.getElem?_eq_some_iff.mp hx).1
end Arrays
theorem own_rem {x y : Int32} (d : Nat) (hy : y.toInt = d) (hd : 0 < d) (hx : 0 ≤ x.toInt) : (x - (x / y) * y).toInt = x.toInt % d := by
  have q := (c_idiv x y d hy (by intro h; rw [h] at hy; have : (-1 : Int32).toInt = -1 := by decide
                                 omega)).1 hx
  have m := c_imul (x / y) y
  have s := c_isub x (x / y * y)
  rw [q, hy] at m
  have e := Int.mul_ediv_add_emod x.toInt d
  have r0 := Int.emod_nonneg x.toInt (show (d : Int) ≠ 0 by omega)
  have r1 := Int.emod_lt_of_pos x.toInt (show (0 : Int) < d by omega)
  have p0 : 0 ≤ x.toInt / d := Int.ediv_nonneg hx (by omega)
  have p1 : 0 ≤ (d : Int) * (x.toInt / d) := Int.mul_nonneg (by omega) p0
  rw [Int.mul_comm (x.toInt / d) d] at m
  have l1 := x.toInt_lt; have l2 := (x / y * y).toInt_lt; have l3 := (x / y * y).le_toInt; have l4 := (x - x / y * y).toInt_lt; have l5 := (x - x / y * y).le_toInt
  have hy2 := y.toInt_lt
  generalize (d : Int) * (x.toInt / d) = P at *
  generalize x.toInt % (d : Int) = r at *
  omega
theorem own_ifc {A B : Prop} [Decidable A] [Decidable B] (h : A ↔ B) : (if A then (1 : Int32) else 0) = if B then 1 else 0 := by
  by_cases a : A
  · rw [if_pos a, if_pos (h.mp a)]
  · rw [if_neg a, if_neg fun b => a (h.mpr b)]
def own_ArD (Z : State) (h : Heap) (a : Addr) (xs : List UInt64) : Prop := ∃ c : Cell, Arr Z h a c .double ∧ c.slots = (xs.map Value.double).toArray
section ArraysD
variable {Z : State} {h h' : Heap} {a b : Addr} {xs : List UInt64} {c : Cell} {i : Nat} {j : Int32} {x y : UInt64} {sl : Nat} {u : Value} {ws : List Addr}
theorem own_ArD_ext (V : own_ArD Z h a xs) (E : Ext h h') : own_ArD Z h' a xs := by obtain ⟨c, A, r⟩ := V; exact ⟨c, A.ext E, r⟩
theorem own_ArD_keep (V : own_ArD Z h a xs) (K : Keep h h' ws) (q : a ∉ ws) : own_ArD Z h' a xs := by obtain ⟨c, A, r⟩ := V; exact ⟨c, ⟨K.2.1 a c A.1 q, A.2⟩, r⟩
theorem own_ArD_new {cA : ClassId} {n : Int32} {k : Nat} (A : Arr Z h a (newA cA .double n) .double) (hn : n.toNatClampNeg = k) : own_ArD Z h a (List.replicate k 0) := by
  refine ⟨_, A, ?_⟩
  show Array.replicate n.toNatClampNeg (defaultValue .double) = _
  rw [show defaultValue .double = Value.double 0 from rfl, hn]; simp
theorem own_ArD_set (V : own_ArD Z h a xs) (W : Wr h h' a j.toNatClampNeg (.double y)) (hj : j.toInt = (i : Int)) : own_ArD Z h' a (xs.set i y) := by
  obtain ⟨c, A, hs⟩ := V
  refine ⟨_, A.same W, ?_⟩
  show c.slots.setIfInBounds _ _ = _
  rw [hs, own_ix hj]; simp [List.map_set]
theorem own_ArD_in (hs : c.slots = (xs.map Value.double).toArray) (hj : j.toInt = (i : Int)) (hi : i < xs.length) : ¬ (j < 0 ∨ c.slots.size ≤ j.toNatClampNeg) := by
  rw [hs, own_ix hj, Int32.lt_iff_toInt_lt, hj, show (0 : Int32).toInt = 0 from rfl]
  simp; omega
theorem own_ArD_at (hs : c.slots = (xs.map Value.double).toArray) (hj : j.toInt = (i : Int)) (hx : xs[i]? = some x) : c.slots[j.toNatClampNeg]? = some (.double x) := by
  rw [hs, own_ix hj]; simp [hx]
end ArraysD
section Rnd
open Jvm.FP.Core
/-- x is the double n / 2^1074 -/
def own_D (x : UInt64) (n : Nat) : Prop := ∃ c q, val64 x = .fin false c q ∧ zmag b64 (.fin false c q) = n
theorem own_rnd {s : Bool} {M N c : Nat} {q : Int} (hN : 0 < N) (h1 : 4503599627370496 * N ≤ M) (h : roundRatio b64 s M N b64.qmin = .fin s c q) :
    9007199254740992 * (zmag b64 (.fin s c q) * N) ≤ 9007199254740993 * M ∧ 9007199254740991 * M ≤ 9007199254740992 * (zmag b64 (.fin s c q) * N) := by
  have hM : 0 < M := by omega
  have g1 := quantum_ge b64 M N b64.qmin
  have g2 := nearest_units_le (f := b64) hM hN b64.qmin
  have g3 := quantum_not_below (f := b64) hM hN b64.qmin
  unfold roundRatio at h
  rw [if_neg (by omega)] at h
  unfold roundAt at h
  generalize quantum b64 M N b64.qmin = r at h g1 g2 g3
  have hv := (settle_value good_b64 (e0 := b64.qmin) g2 h g1).2
  have e1 : unitsNum M b64.qmin r = M := by unfold unitsNum; rw [show (b64.qmin - r).toNat = 0 by omega]; simp
  have g4 : 4503599627370496 * unitsDen N b64.qmin r ≤ M := by
    rcases g3 with g3 | g3
    · subst g3; unfold unitsDen; simpa using h1
    · rw [show (b64.p : Int) - 1 = ((52 : Nat) : Int) by decide, ← units_below, e1] at g3
      have : (2 : Nat) ^ 52 = 4503599627370496 := by decide
      rw [this] at g3; omega
  obtain ⟨s1, s2, -⟩ := nearest_spec M (unitsDen N b64.qmin r) (unitsDen_pos hN _ _)
  rw [e1] at hv
  have e2 : zmag b64 (.fin s c q) * N = nearest M (unitsDen N b64.qmin r) * unitsDen N b64.qmin r := by
    show inUnits c q b64.qmin * N = _
    rw [hv]
    unfold inUnits unitsDen
    rw [Nat.mul_assoc, Nat.mul_comm N]
  rw [e2]
  rw [Nat.add_mul, Nat.one_mul, Nat.mul_assoc] at s1
  rw [Nat.mul_assoc] at s2
  generalize nearest M (unitsDen N b64.qmin r) * unitsDen N b64.qmin r = mD at *
  generalize unitsDen N b64.qmin r = D at *
  omega
def own_B : Nat := 2 ^ 1200
theorem own_big : Jvm.FP.Core.fits b64 (.fin false (2 ^ 52) 74) ∧ zmag b64 (.fin false (2 ^ 52) 74) = own_B := by
  constructor
  · refine ⟨by decide, by decide, by decide, Or.inr (by decide)⟩
  · decide +kernel
theorem own_fin {s : Bool} {M N : Nat} (hN : 0 < N) (h : M ≤ own_B * N) : ∃ c q, roundRatio b64 s M N b64.qmin = .fin s c q := by
  rcases roundRatio_cases b64 s M N b64.qmin with ⟨c, q, hR⟩ | hR
  · exact ⟨c, q, hR⟩
  · exfalso
    have q := zmag_roundRatio_le good_b64 (s := s) (A := M) (B := N) (e := b64.qmin) (e0 := b64.qmin) hN own_big.1 (fun z => by cases z) (Int.le_refl _) (Int.le_refl _) (by
      rw [own_big.2]; unfold inUnits; simpa using h)
    rw [hR, own_big.2] at q
    revert q
    show ¬ (b64.tails * 2 ^ (b64.exps - 2) ≤ own_B)
    decide +kernel
/-- the rounded ratio M / N (in units of 2^-1074), as a double -/
theorem own_of {x : UInt64} {M N : Nat} (hv : val64 x = roundRatio b64 false M N b64.qmin) (hN : 0 < N) (h : M ≤ own_B * N) :
    ∃ z, own_D x z ∧ (4503599627370496 * N ≤ M → 9007199254740992 * (z * N) ≤ 9007199254740993 * M ∧ 9007199254740991 * M ≤ 9007199254740992 * (z * N)) ∧ (M = 0 → z = 0) ∧
      (∀ y k, own_D y k → k * N ≤ M → k ≤ z) ∧ (∀ y k, own_D y k → M ≤ k * N → z ≤ k) := by
  obtain ⟨c, q, hR⟩ := own_fin (s := false) hN h
  refine ⟨_, ⟨c, q, hv.trans hR, rfl⟩, fun h1 => own_rnd hN h1 hR, fun hz => ?_, fun y k hy hk => ?_, fun y k hy hk => ?_⟩
  · subst hz
    unfold roundRatio at hR
    rw [if_pos rfl] at hR
    cases hR
    rfl
  · obtain ⟨c', q', g1, g2⟩ := hy
    have w := zmag_roundRatio_ge good_b64 (s := false) (A := M) (B := N) (e := b64.qmin) (e0 := b64.qmin) (V := .fin false c' q') hN (g1 ▸ val64_fits y) (Int.le_refl _) (Int.le_refl _) (by rw [g2]; unfold inUnits; simpa using hk)
    rw [hR, g2] at w; exact w
  · obtain ⟨c', q', g1, g2⟩ := hy
    have w := zmag_roundRatio_le good_b64 (s := false) (A := M) (B := N) (e := b64.qmin) (e0 := b64.qmin) (V := .fin false c' q') hN (g1 ▸ val64_fits y) (fun z => by cases z) (Int.le_refl _) (Int.le_refl _) (by rw [g2]; unfold inUnits; simpa using hk)
    rw [hR, g2] at w; exact w
def own_U : Nat := 2 ^ 1074
theorem own_fitD {x : UInt64} {c : Nat} {q : Int} (h : val64 x = .fin false c q) : -1074 ≤ q := (show Jvm.FP.Core.fits b64 (.fin false c q) from h ▸ val64_fits x).2.1
theorem own_addV {x y : UInt64} {m n : Nat} (hx : own_D x m) (hy : own_D y n) : val64 (dadd x y) = roundRatio b64 false (m + n) 1 b64.qmin := by
  obtain ⟨c, q, hx, rfl⟩ := hx
  obtain ⟨d, r, hy, rfl⟩ := hy
  have h1 := own_fitD hx
  have h2 := own_fitD hy
  rw [val64_dadd, hx, hy]
  have e1 : exactSum (.fin false c q) (.fin false d r) = .fin false (inUnits c q (min q r) + inUnits d r (min q r)) (min q r) := by
    have e2 : sumUnits false c q false d r (min q r) = ((inUnits c q (min q r) + inUnits d r (min q r) : Nat) : Int) := by simp [sumUnits, signed]
    show Datum.fin (sumSign false false _) (Int.natAbs _) _ = _
    rw [e2]
    have e3 : sumSign false false ((inUnits c q (min q r) + inUnits d r (min q r) : Nat) : Int) = false := by
      unfold sumSign
      split
      · rfl
      · exact decide_eq_false (by omega)
    rw [e3]; rfl
  rw [e1]
  show roundRatio b64 false _ 1 (min q r) = _
  refine roundRatio_congr (by decide) (by decide) ?_
  have hq : b64.qmin = -1074 := by decide
  show _ = (inUnits c q b64.qmin + inUnits d r b64.qmin) * 1 * _
  rw [inUnits_move c (q := q) (e := b64.qmin) (r := min q r) (by omega) (by omega), inUnits_move d (q := r) (e := b64.qmin) (r := min q r) (by omega) (by omega), show (b64.qmin - min q r).toNat = 0 by omega]
  rw [← Nat.add_mul]; simp
theorem own_mulV {x y : UInt64} {m n : Nat} (hx : own_D x m) (hy : own_D y n) : val64 (dmul x y) = roundRatio b64 false (m * n) own_U b64.qmin := by
  obtain ⟨c, q, hx, rfl⟩ := hx
  obtain ⟨d, r, hy, rfl⟩ := hy
  have h1 := own_fitD hx
  have h2 := own_fitD hy
  rw [val64_dmul, hx, hy]
  show roundRatio b64 false (c * d) 1 (q + r) = _
  refine roundRatio_congr (by decide) (Nat.two_pow_pos _) ?_
  have hq : b64.qmin = -1074 := by decide
  show c * d * own_U * _ = inUnits c q b64.qmin * inUnits d r b64.qmin * 1 * _
  unfold own_U inUnits
  rw [hq]
  have e : 1074 + (q + r - -1074).toNat = (q - -1074).toNat + (r - -1074).toNat + (-1074 - (q + r)).toNat := by omega
  calc c * d * 2 ^ 1074 * 2 ^ (q + r - -1074).toNat = c * d * 2 ^ (1074 + (q + r - -1074).toNat) := by rw [Nat.pow_add, Nat.mul_assoc]
    _ = c * d * (2 ^ (q - -1074).toNat * 2 ^ (r - -1074).toNat * 2 ^ (-1074 - (q + r)).toNat) := by rw [e, Nat.pow_add, Nat.pow_add]
    _ = _ := by rw [Nat.mul_one]; ac_rfl
theorem own_divV {x y : UInt64} {m n : Nat} (hx : own_D x m) (hy : own_D y n) (hn : 0 < n) : val64 (ddiv x y) = roundRatio b64 false (m * own_U) n b64.qmin := by
  obtain ⟨c, q, hx, rfl⟩ := hx
  obtain ⟨d, r, hy, rfl⟩ := hy
  have h1 := own_fitD hx
  have h2 := own_fitD hy
  have hd : 0 < d := Nat.pos_of_ne_zero fun z => by subst z; simp [zmag, inUnits] at hn
  rw [val64_ddiv, hx, hy]
  show (if d = 0 then _ else roundRatio b64 false c d (q - r)) = _
  rw [if_neg (by omega)]
  refine roundRatio_congr hd hn ?_
  have hq : b64.qmin = -1074 := by decide
  show c * inUnits d r b64.qmin * _ = inUnits c q b64.qmin * own_U * d * _
  unfold own_U inUnits
  rw [hq]
  have e : (r - -1074).toNat + (q - r - -1074).toNat = (q - -1074).toNat + 1074 + (-1074 - (q - r)).toNat := by omega
  calc c * (d * 2 ^ (r - -1074).toNat) * 2 ^ (q - r - -1074).toNat = c * d * 2 ^ ((r - -1074).toNat + (q - r - -1074).toNat) := by rw [Nat.pow_add]; ac_rfl
    _ = c * d * (2 ^ (q - -1074).toNat * 2 ^ 1074 * 2 ^ (-1074 - (q - r)).toNat) := by rw [e, Nat.pow_add, Nat.pow_add]
    _ = _ := by
      generalize 2 ^ 1074 = U
      generalize 2 ^ (q - -1074).toNat = V
      generalize 2 ^ (-1074 - (q - r)).toNat = W
      ac_rfl
theorem own_UB : 1606938044258990275541962092341162602522202993782792835301376 ≤ own_U ∧ own_U * 1099511627776 ≤ own_B := ⟨by decide +kernel, by decide +kernel⟩
theorem own_l2d {a : Int64} {n : Nat} (h : a.toInt = (n : Int)) (hn : n < 9007199254740992) : own_D (l2d a) (n * own_U) := by
  obtain ⟨c, q, hs⟩ := l2d_shape a
  have W := l2d_whole (a := a) ⟨by omega, by omega⟩
  rw [decide_eq_false (by omega)] at hs
  refine ⟨c, q, hs, ?_⟩
  have hq := own_fitD hs
  rw [hs, h] at W
  have W' : c * 2 ^ q.toNat = n * 2 ^ (-q).toNat := by
    have w2 : ((c * 2 ^ q.toNat : Nat) : Int) = ((n * 2 ^ (-q).toNat : Nat) : Int) := by rw [Int.natCast_mul n]; exact W
    exact Int.ofNat.inj w2
  show inUnits c q b64.qmin = _
  unfold inUnits own_U
  rw [show b64.qmin = -1074 by decide]
  refine Nat.eq_of_mul_eq_mul_right (Nat.two_pow_pos (-q).toNat) ?_
  have e : (q - -1074).toNat + (-q).toNat = q.toNat + 1074 := by omega
  calc c * 2 ^ (q - -1074).toNat * 2 ^ (-q).toNat = c * 2 ^ ((q - -1074).toNat + (-q).toNat) := by rw [Nat.pow_add, Nat.mul_assoc]
    _ = c * 2 ^ q.toNat * 2 ^ 1074 := by rw [e, Nat.pow_add, Nat.mul_assoc]
    _ = n * 2 ^ (-q).toNat * 2 ^ 1074 := by rw [W']
    _ = _ := by rw [Nat.mul_right_comm]
theorem own_one : own_D dconst1 own_U := ⟨_, _, val64_dconst1, by decide +kernel⟩
theorem own_zero : own_D dconst0 0 := ⟨_, _, val64_dconst0, by decide +kernel⟩
theorem own_q {x L : UInt64} {w l : Nat} (hx : own_D x (w * own_U)) (hL : own_D L (l * own_U)) (hl : 0 < l) (hw : w ≤ l) (hl2 : l < 2147483648) :
    ∃ z, own_D (ddiv x L) z ∧ 9007199254740991 * (w * own_U) ≤ 9007199254740992 * (z * l) ∧ 9007199254740992 * (z * l) ≤ 9007199254740993 * (w * own_U) ∧ z ≤ own_U ∧ (z = 0 ∨ 1267650600228229401496703205376 ≤ z) := by
  obtain ⟨u1, u2⟩ := own_UB
  have key := fun hn hb => own_of (own_divV hx hL hn) hn hb
  have one := own_one
  generalize own_U = U at *
  generalize own_B = B at *
  have u0 : 0 < U := by omega
  have hn : 0 < l * U := Nat.mul_pos hl u0
  have b1 : w * U ≤ l * U := Nat.mul_le_mul_right _ hw
  obtain ⟨z, h1, h2, h3, h4, h5⟩ := key hn (by
    refine Nat.le_trans (Nat.mul_le_mul_right _ b1) ?_
    rw [Nat.mul_comm B]
    exact Nat.mul_le_mul_left _ (by omega))
  have c1 := h5 _ _ one (by rw [Nat.mul_comm U]; exact Nat.mul_le_mul_right _ b1)
  have main : 9007199254740991 * (w * U) ≤ 9007199254740992 * (z * l) ∧ 9007199254740992 * (z * l) ≤ 9007199254740993 * (w * U) := by
    by_cases hw0 : w = 0
    · subst hw0
      have := h3 (by simp)
      subst this; simp
    · obtain ⟨g1, g2⟩ := h2 (by
        have k1 : U ≤ w * U := Nat.le_mul_of_pos_left _ (by omega)
        have k2 : 4503599627370496 * l ≤ w * U := by omega
        have k3 := Nat.mul_le_mul_right U k2
        rw [Nat.mul_assoc] at k3; exact k3)
      have e1 : 9007199254740992 * (z * (l * U)) = 9007199254740992 * (z * l) * U := by rw [Nat.mul_assoc, Nat.mul_assoc]
      have e2 : ∀ k, k * (w * U * U) = k * (w * U) * U := fun k => (Nat.mul_assoc _ _ _).symm
      rw [e1, e2] at g1 g2
      exact ⟨Nat.le_of_mul_le_mul_right g2 u0, Nat.le_of_mul_le_mul_right g1 u0⟩
  refine ⟨z, h1, main.1, main.2, c1, ?_⟩
  by_cases hw0 : w = 0
  · exact Or.inl (h3 (by rw [hw0]; simp))
  · right
    have k1 : U ≤ w * U := Nat.le_mul_of_pos_left _ (by omega)
    have k2 : z * l ≤ z * 2147483648 := Nat.mul_le_mul_left _ (by omega)
    have := main.1
    omega
theorem own_s {x y : UInt64} {m n : Nat} (hx : own_D x m) (hy : own_D y n) (h : m + n = 0 ∨ 4503599627370496 ≤ m + n) (hB : m + n ≤ own_B) :
    ∃ z, own_D (dadd x y) z ∧ 9007199254740991 * (m + n) ≤ 9007199254740992 * z ∧ 9007199254740992 * z ≤ 9007199254740993 * (m + n) ∧ m ≤ z ∧ n ≤ z ∧ (∀ y k, own_D y k → m + n ≤ k → z ≤ k) := by
  have key := fun hb => own_of (own_addV hx hy) (by decide) hb
  generalize own_B = B at *
  obtain ⟨z, h1, h2, h3, h4, h5⟩ := key (by omega)
  refine ⟨z, h1, ?_, ?_, h4 _ _ hx (by omega), h4 _ _ hy (by omega), fun y k hy hk => h5 y k hy (by omega)⟩
  · rcases h with h | h
    · omega
    · have := (h2 (by omega)).2; rw [Nat.mul_one] at this; exact this
  · rcases h with h | h
    · have := h3 h; omega
    · have := (h2 (by omega)).1; rw [Nat.mul_one] at this; exact this
theorem own_core {U w0 w1 w2 l q0 q1 q2 S2 S3 q w r p tol kz t : Nat} (hU : 0 < U)
    (a0 : 9007199254740991 * (w0 * U) ≤ 9007199254740992 * (q0 * l)) (b0 : 9007199254740992 * (q0 * l) ≤ 9007199254740993 * (w0 * U)) (a1 : 9007199254740991 * (w1 * U) ≤ 9007199254740992 * (q1 * l)) (b1 : 9007199254740992 * (q1 * l) ≤ 9007199254740993 * (w1 * U)) (a2 : 9007199254740991 * (w2 * U) ≤ 9007199254740992 * (q2 * l)) (b2 : 9007199254740992 * (q2 * l) ≤ 9007199254740993 * (w2 * U))
    (s2a : 9007199254740991 * (q0 + q1) ≤ 9007199254740992 * S2) (s2b : 9007199254740992 * S2 ≤ 9007199254740993 * (q0 + q1)) (s3a : 9007199254740991 * (S2 + q2) ≤ 9007199254740992 * S3) (s3b : 9007199254740992 * S3 ≤ 9007199254740993 * (S2 + q2))
    (qa : 9007199254740991 * (w * U) ≤ 9007199254740992 * (q * l)) (qb : 9007199254740992 * (q * l) ≤ 9007199254740993 * (w * U)) (ra : 9007199254740991 * (q * U) ≤ 9007199254740992 * (r * S3)) (rb : 9007199254740992 * (r * S3) ≤ 9007199254740993 * (q * U)) (pa : 9007199254740991 * (r * t) ≤ 9007199254740992 * p) (pb : 9007199254740992 * p ≤ 9007199254740993 * (r * t))
    (ht : t = w0 + w1 + w2) (hw : w ≤ t) (h0 : 0 < t) (ta : 9007199254740991 * (t * kz) ≤ 9007199254740992 * tol) (hk : U ≤ kz * 1099511627776) : p ≤ w * U + tol ∧ w * U ≤ p + tol := by
  have tU : t * U = w0 * U + w1 * U + w2 * U := by rw [ht, Nat.add_mul, Nat.add_mul]
  have A1 : 81129638414606663681390495662081 * (q0 + q1 + q2) ≤ 81129638414606681695789005144064 * S3 := by omega
  have A2 : 81129638414606681695789005144064 * S3 ≤ 81129638414606699710187514626049 * (q0 + q1 + q2) := by omega
  have A3 := Nat.mul_le_mul_right l A1
  have A4 := Nat.mul_le_mul_right l A2
  rw [Nat.mul_assoc, Nat.mul_assoc, Nat.add_mul, Nat.add_mul] at A3 A4
  have A5 : 730750818665451215712927172538123444058715062271 * (t * U) ≤ 730750818665451459101842416358141509827966271488 * (S3 * l) := by rw [tU]; generalize w0 * U = x0 at *; generalize w1 * U = x1 at *; generalize w2 * U = x2 at *; generalize q0 * l = y0 at *; generalize q1 * l = y1 at *; generalize q2 * l = y2 at *; generalize S3 * l = z at *; omega
  have A6 : 730750818665451459101842416358141509827966271488 * (S3 * l) ≤ 730750818665451702490757660178213618792745926657 * (t * U) := by rw [tU]; generalize w0 * U = x0 at *; generalize w1 * U = x1 at *; generalize w2 * U = x2 at *; generalize q0 * l = y0 at *; generalize q1 * l = y1 at *; generalize q2 * l = y2 at *; generalize S3 * l = z at *; omega
  have e1 : ∀ k, k * (r * t) * (S3 * l) = k * (r * S3 * (t * l)) := fun k => by rw [Nat.mul_assoc]; congr 1; ac_rfl
  have e2 : ∀ k, k * (q * U) * (t * l) = k * (q * l * (t * U)) := fun k => by rw [Nat.mul_assoc]; congr 1; ac_rfl
  have B1 := Nat.mul_le_mul_right (S3 * l) pb
  have B2 := Nat.mul_le_mul_right (S3 * l) pa
  have B3 := Nat.mul_le_mul_right (t * l) rb
  have B4 := Nat.mul_le_mul_right (t * l) ra
  have B5 := Nat.mul_le_mul_right (t * U) qb
  have B6 := Nat.mul_le_mul_right (t * U) qa
  rw [e1] at B1 B2
  rw [e2] at B3 B4
  rw [Nat.mul_assoc 9007199254740992 p] at B1 B2
  rw [Nat.mul_assoc 9007199254740992 (r * S3)] at B3 B4
  rw [Nat.mul_assoc 9007199254740992 (q * l)] at B5 B6
  rw [Nat.mul_assoc 9007199254740993 (w * U)] at B5
  rw [Nat.mul_assoc 9007199254740991 (w * U)] at B6
  have B7 : 730750818665451459101842416358141509827966271488 * (p * (S3 * l)) ≤ 730750818665451702490757660178213618792745926657 * (w * U * (t * U)) := by generalize p * (S3 * l) = x at *; generalize r * S3 * (t * l) = y at *; generalize q * l * (t * U) = z at *; generalize w * U * (t * U) = v at *; omega
  have B8 : 730750818665451215712927172538123444058715062271 * (w * U * (t * U)) ≤ 730750818665451459101842416358141509827966271488 * (p * (S3 * l)) := by generalize p * (S3 * l) = x at *; generalize r * S3 * (t * l) = y at *; generalize q * l * (t * U) = z at *; generalize w * U * (t * U) = v at *; omega
  have C0 : 0 < t * U := Nat.mul_pos h0 hU
  have C1 : 730750818665451215712927172538123444058715062271 * p * (t * U) ≤ 730750818665451702490757660178213618792745926657 * (w * U) * (t * U) := by
    have z := Nat.mul_le_mul_left p A5
    rw [Nat.mul_left_comm p 730750818665451459101842416358141509827966271488, Nat.mul_left_comm p 730750818665451215712927172538123444058715062271] at z
    rw [Nat.mul_assoc 730750818665451215712927172538123444058715062271 p, Nat.mul_assoc 730750818665451702490757660178213618792745926657 (w * U)]
    exact Nat.le_trans z B7
  have C2 : 730750818665451215712927172538123444058715062271 * (w * U) * (t * U) ≤ 730750818665451702490757660178213618792745926657 * p * (t * U) := by
    have z := Nat.mul_le_mul_left p A6
    rw [Nat.mul_left_comm p 730750818665451459101842416358141509827966271488, Nat.mul_left_comm p 730750818665451702490757660178213618792745926657] at z
    rw [Nat.mul_assoc 730750818665451215712927172538123444058715062271 (w * U), Nat.mul_assoc 730750818665451702490757660178213618792745926657 p]
    exact Nat.le_trans B8 z
  have D1 := Nat.le_of_mul_le_mul_right C1 C0
  have D2 := Nat.le_of_mul_le_mul_right C2 C0
  have D3 : w * U ≤ t * U := Nat.mul_le_mul_right _ hw
  have D4 : t * U ≤ t * kz * 1099511627776 := by rw [Nat.mul_assoc]; exact Nat.mul_le_mul_left _ hk
  clear A1 A2 A3 A4 A5 A6 B1 B2 B3 B4 B5 B6 B7 B8 C0 C1 C2 tU a0 b0 a1 b1 a2 b2 s2a s2b s3a s3b qa qb ra rb pa pb
  generalize w * U = W at *
  generalize t * U = T at *
  generalize t * kz = k at *
  omega
theorem own_r {x y : UInt64} {z s : Nat} (hx : own_D x z) (hy : own_D y s) (hs : 0 < s) (hz : z ≤ s) (hn : z = 0 ∨ 4503599627370496 * s ≤ z * own_U) :
    ∃ r, own_D (ddiv x y) r ∧ 9007199254740991 * (z * own_U) ≤ 9007199254740992 * (r * s) ∧ 9007199254740992 * (r * s) ≤ 9007199254740993 * (z * own_U) ∧ r ≤ own_U ∧ (z = 0 → r = 0) := by
  obtain ⟨u1, u2⟩ := own_UB
  have key := fun hb => own_of (own_divV hx hy hs) hs hb
  have one := own_one
  generalize own_U = U at *
  generalize own_B = B at *
  obtain ⟨r, h1, h2, h3, h4, h5⟩ := key (by
    refine Nat.le_trans (Nat.mul_le_mul_right _ hz) ?_
    rw [Nat.mul_comm B]
    exact Nat.mul_le_mul_left _ (by omega))
  have h3' : z = 0 → r = 0 := fun q => h3 (by rw [q]; simp)
  refine ⟨r, h1, ?_, ?_, h5 _ _ one (by rw [Nat.mul_comm U]; exact Nat.mul_le_mul_right _ hz), h3'⟩
  all_goals
    rcases hn with hn | hn
    · have := h3' hn
      subst hn this; simp
    · obtain ⟨g1, g2⟩ := h2 hn
      first | exact g2 | exact g1
theorem own_m {x y : UInt64} {m n : Nat} (v : Nat) (hx : own_D x m) (hy : own_D y n) (hv : m * n = v * own_U) (h1 : 4503599627370496 ≤ v) (h2 : v ≤ own_B) :
    ∃ z, own_D (dmul x y) z ∧ 9007199254740991 * v ≤ 9007199254740992 * z ∧ 9007199254740992 * z ≤ 9007199254740993 * v := by
  obtain ⟨u1, u2⟩ := own_UB
  have key := fun hn hb => own_of (own_mulV hx hy) hn hb
  generalize own_U = U at *
  generalize own_B = B at *
  have u0 : 0 < U := by omega
  rw [hv] at key
  obtain ⟨z, g1, g2, -, -, -⟩ := key u0 (Nat.mul_le_mul_right _ h2)
  obtain ⟨g3, g4⟩ := g2 (Nat.mul_le_mul_right _ h1)
  rw [← Nat.mul_assoc, ← Nat.mul_assoc] at g3 g4
  exact ⟨z, g1, Nat.le_of_mul_le_mul_right g4 u0, Nat.le_of_mul_le_mul_right g3 u0⟩
def own_K : UInt64 := 4427486594234968593
def own_kzn : Nat := 4951760157141521 * 2 ^ 982
theorem own_kz : own_D own_K own_kzn := ⟨4951760157141521, -92, by decide +kernel, by decide +kernel⟩
theorem own_kzU : own_U ≤ own_kzn * 1099511627776 ∧ own_kzn ≤ own_U := ⟨by decide +kernel, by decide +kernel⟩
def own_Z (x : UInt64) (i : Int) : Prop := val64 x ≠ .nan ∧ zval b64 (val64 x) = i
theorem own_DZ {x : UInt64} {n : Nat} (h : own_D x n) : own_Z x (n : Int) := by
  obtain ⟨c, q, h1, h2⟩ := h
  refine ⟨by rw [h1]; exact Datum.noConfusion, ?_⟩
  rw [h1]
  show signed false (zmag b64 (.fin false c q)) = _
  rw [h2]; rfl
theorem own_DN {x : UInt64} {n : Nat} (h : own_D x n) : Jvm.Free.Fl.NoNaN64 x := Jvm.Free.Fl.val64_no.mpr (own_DZ h).1
theorem own_ZN {x : UInt64} {n : Int} (h : own_Z x n) : Jvm.Free.Fl.NoNaN64 x := Jvm.Free.Fl.val64_no.mpr h.1
theorem own_negZ {x : UInt64} {i : Int} (h : own_Z x i) : own_Z (dneg x) (-i) := by
  refine ⟨by rw [val64_dneg]; exact negate_ne_nan h.1, ?_⟩
  rw [val64_dneg, zval_negate, h.2]
def own_cm (i j : Int) : Int32 := if i < j then -1 else if i = j then 0 else 1
theorem own_cmp {x y : UInt64} {i j : Int} (hx : own_Z x i) (hy : own_Z y j) (o : CmpOp) : cmpValue (dcmp x y) o = own_cm i j := by
  have h : dcmp x y = some (compare i j) := by
    have := order_zval good_b64 (val64_fits x) (val64_fits y) hx.1 hy.1
    rw [hx.2, hy.2] at this; exact this
  rw [h, compare_ite]
  unfold own_cm cmpValue
  by_cases h1 : i < j
  · rw [if_pos h1, if_pos h1]
  · rw [if_neg h1, if_neg h1]
    by_cases h2 : i = j
    · rw [if_pos h2, if_pos h2]
    · rw [if_neg h2, if_neg h2]
theorem own_subZ {x y v : UInt64} {m n j : Nat} (hx : own_D x m) (hy : own_D y n) (hv : own_D v j) (h1 : m ≤ n + j) (h2 : n ≤ m + j) : ∃ i, own_Z (dsub x y) i ∧ i ≤ (j : Int) ∧ -i ≤ (j : Int) := by
  obtain ⟨c, q, hx, ex⟩ := hx
  obtain ⟨d, r, hy, ey⟩ := hy
  obtain ⟨c', q', hv, ev⟩ := hv
  have fx : Jvm.FP.Core.fits b64 (.fin false c q) := hx ▸ val64_fits x
  have fy : Jvm.FP.Core.fits b64 (.fin true d r) := (show Jvm.FP.Core.fits b64 (.fin false d r) from hy ▸ val64_fits y)
  have fv : Jvm.FP.Core.fits b64 (.fin false c' q') := hv ▸ val64_fits v
  obtain ⟨sg, N, e, e1, e2, e3⟩ := sum_units fx fy
  have hs : val64 (dsub x y) = round b64 (.fin sg N e) := by
    rw [val64_dsub, hx, hy, ← e1]; rfl
  have z1 : zval b64 (.fin false c q) = (m : Int) := by rw [← ex]; rfl
  have z2 : zval b64 (.fin true d r) = -(n : Int) := by rw [← ey]; rfl
  have z3 : zval b64 (.fin false c' q') = (j : Int) := by rw [← ev]; rfl
  rw [z1, z2] at e3
  have p0 : ((2 ^ (b64.qmin - b64.qmin).toNat : Nat) : Int) = 1 := by rw [Int.sub_self]; rfl
  refine ⟨_, ⟨by rw [hs]; exact roundRatio_ne_nan _ _ _ _ _, rfl⟩, ?_, ?_⟩
  · rw [hs, ← z3]
    exact zval_round_le good_b64 fv (fun z => by cases z) (Int.le_refl _) e2 (by rw [e3, p0, z3]; omega)
  · have := zval_round_ge good_b64 (s := sg) (c := N) (q := e) (e0 := b64.qmin) (V := .fin true c' q') fv (fun z => by cases z) (Int.le_refl _) e2 (by
      rw [e3, p0, show zval b64 (.fin true c' q') = -(j : Int) by rw [← ev]; rfl]; omega)
    rw [hs]
    rw [show zval b64 (.fin true c' q') = -(j : Int) by rw [← ev]; rfl] at this
    omega
def own_near (r t : UInt64) (w : Int64) : Prop := (w = 0 → own_Z r 0) ∧ (w ≠ 0 → (∃ z : Int, own_Z r z ∧ 0 < z ∧ z ≤ (own_U : Int)) ∧ Jvm.Free.Fl.NoNaN64 (dmul r t) ∧ ∃ i j, own_Z (dsub (dmul r t) (l2d w)) i ∧ own_Z (dmul t own_K) j ∧ i ≤ j ∧ -i ≤ j)
theorem own_each {a : Int64} {Q S T : UInt64} {w0 w1 w2 l q0 q1 q2 S2 S3 q w t : Nat} (ha : a.toInt = (w : Int)) (hw31 : w < 2147483648) (hT : own_D T (t * own_U)) (hQ : own_D Q q) (hS : own_D S S3)
    (a0 : 9007199254740991 * (w0 * own_U) ≤ 9007199254740992 * (q0 * l)) (b0 : 9007199254740992 * (q0 * l) ≤ 9007199254740993 * (w0 * own_U)) (a1 : 9007199254740991 * (w1 * own_U) ≤ 9007199254740992 * (q1 * l)) (b1 : 9007199254740992 * (q1 * l) ≤ 9007199254740993 * (w1 * own_U)) (a2 : 9007199254740991 * (w2 * own_U) ≤ 9007199254740992 * (q2 * l)) (b2 : 9007199254740992 * (q2 * l) ≤ 9007199254740993 * (w2 * own_U))
    (s2a : 9007199254740991 * (q0 + q1) ≤ 9007199254740992 * S2) (s2b : 9007199254740992 * S2 ≤ 9007199254740993 * (q0 + q1)) (s3a : 9007199254740991 * (S2 + q2) ≤ 9007199254740992 * S3) (s3b : 9007199254740992 * S3 ≤ 9007199254740993 * (S2 + q2))
    (qa : 9007199254740991 * (w * own_U) ≤ 9007199254740992 * (q * l)) (qb : 9007199254740992 * (q * l) ≤ 9007199254740993 * (w * own_U)) (v0 : q0 ≤ own_U) (v1 : q1 ≤ own_U) (v2 : q2 ≤ own_U) (hqS : q ≤ S3) (hS0 : 0 < S3) (hl : 0 < l) (hl2 : l < 2147483648)
    (ht : t = w0 + w1 + w2) (hw : w ≤ t) (h0 : 0 < t) (ht2 : t < 1099511627776) : Jvm.Free.Fl.NoNaN64 (ddiv Q S) ∧ own_near (ddiv Q S) T a := by
  obtain ⟨u1, u2⟩ := own_UB
  have R := own_r hQ hS hS0 hqS
  have M1 := fun (ρ : Nat) (hr : own_D (ddiv Q S) ρ) (v : Nat) => own_m v hr hT
  have M2 := fun (v : Nat) => own_m v hT own_kz
  have L := own_l2d ha (by omega)
  obtain ⟨k1, k2⟩ := own_kzU
  unfold own_near
  generalize own_U = U at *
  generalize own_B = B at *
  generalize own_kzn = kz at *
  have S4 : S3 ≤ 4 * U := by omega
  by_cases hw0 : w = 0
  · have q0' : q = 0 := by
      subst hw0
      rcases Nat.eq_zero_or_pos q with h | h
      · exact h
      · have := Nat.mul_pos h hl
        omega
    obtain ⟨r, r1, r2, r3, r4, r5⟩ := R (Or.inl q0')
    have r0 := r5 q0'
    subst r0
    refine ⟨own_DN r1, fun _ => own_DZ r1, fun h => absurd ?_ h⟩
    apply Int64.toInt_inj.mp
    rw [ha, hw0]; rfl
  · have c1 : U ≤ w * U := Nat.le_mul_of_pos_left _ (by omega)
    have c2 : q * l ≤ q * 2147483648 := Nat.mul_le_mul_left _ (by omega)
    have c3 : 1267650600228229401496703205376 ≤ q := by omega
    have c4 : 1267650600228229401496703205376 * U ≤ q * U := Nat.mul_le_mul_right _ c3
    obtain ⟨r, r1, r2, r3, r4, r5⟩ := R (Or.inr (by omega))
    have d1 : r * S3 ≤ r * (4 * U) := Nat.mul_le_mul_left _ S4
    have d2 : 4503599627370496 ≤ r := by
      rcases Nat.lt_or_ge r 4503599627370496 with h | h
      · exfalso
        have d3 : r * (4 * U) ≤ 4503599627370496 * (4 * U) := Nat.mul_le_mul_right _ (by omega)
        omega
      · exact h
    have d4 : r ≤ r * t := Nat.le_mul_of_pos_right _ h0
    have d5 : r * t ≤ U * 1099511627776 := Nat.mul_le_mul r4 (by omega)
    obtain ⟨p, p1, p2, p3⟩ := M1 r r1 (r * t) (by rw [Nat.mul_assoc]) (by omega) (by omega)
    have f1 : kz ≤ t * kz := Nat.le_mul_of_pos_left _ h0
    have f2 : t * kz ≤ 1099511627776 * U := Nat.mul_le_mul (by omega) k2
    obtain ⟨tol, t1, t2, t3⟩ := M2 (t * kz) (by rw [Nat.mul_right_comm]) (by omega) (by omega)
    obtain ⟨g1, g2⟩ := own_core (U := U) (by omega) a0 b0 a1 b1 a2 b2 s2a s2b s3a s3b qa qb r2 r3 p2 p3 ht hw h0 t2 k1
    obtain ⟨i, i1, i2, i3⟩ := own_subZ p1 L t1 g1 g2
    refine ⟨own_DN r1, fun h => ?_, fun _ => ⟨⟨_, own_DZ r1, by omega, by omega⟩, own_DN p1, i, _, i1, own_DZ t1, i2, i3⟩⟩
    exfalso
    rw [h] at ha
    have : (0 : Int64).toInt = 0 := rfl
    omega
theorem own_UB8 : 8 * own_U ≤ own_B := by decide +kernel
theorem own_all {a b c L t : Int64} {w0 w1 w2 l : Nat} (ha : a.toInt = (w0 : Int)) (hb : b.toInt = (w1 : Int)) (hc : c.toInt = (w2 : Int)) (hL : L.toInt = (l : Int)) (ht : t.toInt = ((w0 + w1 + w2 : Nat) : Int))
    (h0 : w0 ≤ l) (h1 : w1 ≤ l) (h2 : w2 ≤ l) (hl : l < 2147483648) (hp : 0 < w0 + w1 + w2) :
    ∃ q0 q1 q2 s1 s2 s3 r0 r1 r2, ddiv (l2d a) (l2d L) = q0 ∧ ddiv (l2d b) (l2d L) = q1 ∧ ddiv (l2d c) (l2d L) = q2 ∧ dadd dconst0 q0 = s1 ∧ dadd s1 q1 = s2 ∧ dadd s2 q2 = s3 ∧ ddiv q0 s3 = r0 ∧ ddiv q1 s3 = r1 ∧ ddiv q2 s3 = r2 ∧
      Jvm.Free.Fl.NoNaN64 q0 ∧ Jvm.Free.Fl.NoNaN64 q1 ∧ Jvm.Free.Fl.NoNaN64 q2 ∧ Jvm.Free.Fl.NoNaN64 s1 ∧ Jvm.Free.Fl.NoNaN64 s2 ∧ Jvm.Free.Fl.NoNaN64 s3 ∧ Jvm.Free.Fl.NoNaN64 r0 ∧ Jvm.Free.Fl.NoNaN64 r1 ∧ Jvm.Free.Fl.NoNaN64 r2 ∧
      own_near r0 (l2d t) a ∧ own_near r1 (l2d t) b ∧ own_near r2 (l2d t) c := by
  have hl0 : 0 < l := by omega
  have dL := own_l2d hL (by omega)
  have dT := own_l2d ht (by omega)
  obtain ⟨q0, d0, a0, b0, v0, n0⟩ := own_q (own_l2d ha (by omega)) dL hl0 h0 hl
  obtain ⟨q1, d1, a1, b1, v1, n1⟩ := own_q (own_l2d hb (by omega)) dL hl0 h1 hl
  obtain ⟨q2, d2, a2, b2, v2, n2⟩ := own_q (own_l2d hc (by omega)) dL hl0 h2 hl
  obtain ⟨s1, e1, -, -, -, m1, m1'⟩ := own_s own_zero d0 (by omega) (Nat.le_trans (by omega) own_UB8)
  have m2 := m1' _ _ d0 (by omega)
  have hs1 : s1 = q0 := by omega
  subst hs1
  obtain ⟨s2, e2, s2a, s2b, k0, k1, -⟩ := own_s e1 d1 (by omega) (Nat.le_trans (by omega) own_UB8)
  obtain ⟨s3, e3, s3a, s3b, k2, k3, -⟩ := own_s e2 d2 (by omega) (Nat.le_trans (by omega) own_UB8)
  have hpos : 0 < s3 := by
    have u0 : 0 < own_U := Nat.two_pow_pos _
    rcases Nat.eq_zero_or_pos s3 with h | h
    · exfalso
      have z0 : s1 = 0 := by omega
      have z1 : q1 = 0 := by omega
      have z2 : q2 = 0 := by omega
      subst z0 z1 z2
      rw [Nat.zero_mul] at a0 a1 a2
      have : 0 < w0 * own_U ∨ 0 < w1 * own_U ∨ 0 < w2 * own_U := by
        rcases Nat.eq_zero_or_pos w0 with y | y
        · rcases Nat.eq_zero_or_pos w1 with x | x
          · exact Or.inr (Or.inr (Nat.mul_pos (by omega) u0))
          · exact Or.inr (Or.inl (Nat.mul_pos x u0))
        · exact Or.inl (Nat.mul_pos y u0)
      omega
    · exact h
  have E0 := own_each ha (by omega) dT d0 e3 a0 b0 a1 b1 a2 b2 s2a s2b s3a s3b a0 b0 v0 v1 v2 (by omega) hpos hl0 hl rfl (by omega) hp (by omega)
  have E1 := own_each hb (by omega) dT d1 e3 a0 b0 a1 b1 a2 b2 s2a s2b s3a s3b a1 b1 v0 v1 v2 (by omega) hpos hl0 hl rfl (by omega) hp (by omega)
  have E2 := own_each hc (by omega) dT d2 e3 a0 b0 a1 b1 a2 b2 s2a s2b s3a s3b a2 b2 v0 v1 v2 (by omega) hpos hl0 hl rfl (by omega) hp (by omega)
  exact ⟨_, _, _, _, _, _, _, _, _, rfl, rfl, rfl, rfl, rfl, rfl, rfl, rfl, rfl, own_DN d0, own_DN d1, own_DN d2, own_DN e1, own_DN e2, own_DN e3, E0.1, E1.1, E2.1, E0.2, E1.2, E2.2⟩
end Rnd
theorem own_cmg {i j : Int} (h : j < i) : (0 : Int32) < own_cm i j := by
  unfold own_cm
  rw [if_neg (by omega), if_neg (by omega)]; decide
theorem own_cml {i j : Int} (h : i ≤ j) : ¬ (0 : Int32) < own_cm i j := by
  unfold own_cm
  split
  · decide
  · split
    · decide
    · omega
theorem own_cme (i : Int) : own_cm i i = 0 := by
  unfold own_cm
  rw [if_neg (by omega), if_pos rfl]
theorem own_negF {x : UInt64} {i : Int} (h : own_Z x i) : own_Z (FP.dneg x) (-i) := by
  rw [show FP.dneg x = FP.Core.dneg x from FP.dneg_core ((FP.Core.notNaN_iff x).mpr h.1)]; exact own_negZ h
theorem own_z0 : own_Z FP.dconst0 0 := own_DZ own_zero
theorem own_z1 : own_Z FP.dconst1 (own_U : Int) := own_DZ own_one
theorem own_n0 : Jvm.Free.Fl.NoNaN64 FP.dconst0 := own_ZN own_z0
theorem own_d3_0 : decode method_3_code 0 = .ok (.lload_n 2, 1) := by decide +kernel
theorem own_d3_1 : decode method_3_code 1 = .ok (.lconst 0, 1) := by decide +kernel
theorem own_d3_2 : decode method_3_code 2 = .ok (.lcmp, 1) := by decide +kernel
theorem own_d3_3 : decode method_3_code 3 = .ok (.ifCond .ne 15, 3) := by decide +kernel
theorem own_d3_6 : decode method_3_code 6 = .ok (.dload_n 0, 1) := by decide +kernel
theorem own_d3_7 : decode method_3_code 7 = .ok (.dconst 0, 1) := by decide +kernel
theorem own_d3_8 : decode method_3_code 8 = .ok (.dcmp .l, 1) := by decide +kernel
theorem own_d3_9 : decode method_3_code 9 = .ok (.ifCond .ne 7, 3) := by decide +kernel
theorem own_d3_12 : decode method_3_code 12 = .ok (.iconst 1, 1) := by decide +kernel
theorem own_d3_13 : decode method_3_code 13 = .ok (.goto 4, 3) := by decide +kernel
theorem own_d3_17 : decode method_3_code 17 = .ok (.ireturn, 1) := by decide +kernel
theorem own_d3_18 : decode method_3_code 18 = .ok (.dload_n 0, 1) := by decide +kernel
theorem own_d3_19 : decode method_3_code 19 = .ok (.dconst 0, 1) := by decide +kernel
theorem own_d3_20 : decode method_3_code 20 = .ok (.dcmp .l, 1) := by decide +kernel
theorem own_d3_21 : decode method_3_code 21 = .ok (.ifCond .le 9, 3) := by decide +kernel
theorem own_d3_24 : decode method_3_code 24 = .ok (.dload_n 0, 1) := by decide +kernel
theorem own_d3_25 : decode method_3_code 25 = .ok (.dconst 1, 1) := by decide +kernel
theorem own_d3_26 : decode method_3_code 26 = .ok (.dcmp .g, 1) := by decide +kernel
theorem own_d3_27 : decode method_3_code 27 = .ok (.ifCond .le 5, 3) := by decide +kernel
theorem own_d3_32 : decode method_3_code 32 = .ok (.dload_n 0, 1) := by decide +kernel
theorem own_d3_33 : decode method_3_code 33 = .ok (.dload 4, 2) := by decide +kernel
theorem own_d3_35 : decode method_3_code 35 = .ok (.dmul, 1) := by decide +kernel
theorem own_d3_36 : decode method_3_code 36 = .ok (.lload_n 2, 1) := by decide +kernel
theorem own_d3_37 : decode method_3_code 37 = .ok (.l2d, 1) := by decide +kernel
theorem own_d3_38 : decode method_3_code 38 = .ok (.dsub, 1) := by decide +kernel
theorem own_d3_39 : decode method_3_code 39 = .ok (.dstore 6, 2) := by decide +kernel
theorem own_d3_41 : decode method_3_code 41 = .ok (.dload 4, 2) := by decide +kernel
theorem own_d3_43 : decode method_3_code 43 = .ok (.ldc2_w 20, 3) := by decide +kernel
theorem own_d3_46 : decode method_3_code 46 = .ok (.dmul, 1) := by decide +kernel
theorem own_d3_47 : decode method_3_code 47 = .ok (.dstore 8, 2) := by decide +kernel
theorem own_d3_49 : decode method_3_code 49 = .ok (.dload 6, 2) := by decide +kernel
theorem own_d3_51 : decode method_3_code 51 = .ok (.dload 8, 2) := by decide +kernel
theorem own_d3_53 : decode method_3_code 53 = .ok (.dcmp .g, 1) := by decide +kernel
theorem own_d3_54 : decode method_3_code 54 = .ok (.ifCond .gt 16, 3) := by decide +kernel
theorem own_d3_57 : decode method_3_code 57 = .ok (.dload 6, 2) := by decide +kernel
theorem own_d3_59 : decode method_3_code 59 = .ok (.dneg, 1) := by decide +kernel
theorem own_d3_60 : decode method_3_code 60 = .ok (.dload 8, 2) := by decide +kernel
theorem own_d3_62 : decode method_3_code 62 = .ok (.dcmp .g, 1) := by decide +kernel
theorem own_d3_63 : decode method_3_code 63 = .ok (.ifCond .gt 7, 3) := by decide +kernel
theorem own_d3_66 : decode method_3_code 66 = .ok (.iconst 1, 1) := by decide +kernel
theorem own_d3_67 : decode method_3_code 67 = .ok (.goto 4, 3) := by decide +kernel
theorem own_d3_71 : decode method_3_code 71 = .ok (.ireturn, 1) := by decide +kernel
theorem own_pn_com_example_eigenvote_eigenvote_rank_WeightsScaledToSumOnePinLaw : plainName "com/example/eigenvote/eigenvote/rank/WeightsScaledToSumOnePinLaw" = true := by first | (simp [plainName, overriddenIn]; done) | decide +kernel
theorem own_rm3_ef (m : MethodId) (rr : UInt64) (ww : Int64) (tt : UInt64) : entryFrame m #[(.double rr), (.long ww), (.double tt)] 10 = mkF m 0 #[.val (.double rr), .second, .val (.long ww), .second, .val (.double tt), .second, .unset, .unset, .unset, .unset] [] := by first | (simp [entryFrame, mkF, argsToLocals, Value.category]; done) | rfl
def own_Q3 (Z : State) (rr : UInt64) (ww : Int64) (tt : UInt64) (h0 : Heap) (n0 : Nat) (v_ : Option Value) (h : Heap) (L_ : List Loc) : Prop := v_ = some (.int (1 : Int32)) ∧ Fr n0 L_ ∧ (h = h0)
set_option maxRecDepth 65536 in
set_option maxHeartbeats 40000000 in
theorem own_rm3 (l : Launch) (Z : State) (a0 : Array Value) (hw : ∀ d ∈ tables_1, d.before a0 Z = true) (ws : List Jvm.Cond) (rr : UInt64) (ww : Int64) (tt : UInt64) (h0 : Heap) (n0 : Nat) (Z0 : n0 ≤ h0.size) (hn : own_near rr tt ww) :
    MetFree l (⟨"com/example/eigenvote/eigenvote/rank/WeightsScaledToSumOnePinLaw", "near", "(DJD)Z"⟩ : MethodName) (head1 (Jvm.Cond.code (⟨"com/example/eigenvote/eigenvote/rank/WeightsScaledToSumOnePinLaw", "near", "(DJD)Z"⟩ : MethodName) method_3_code 10 (some .boolean) :: ws) ({ frames := 0, cells := 0, slots := 0, locals := 0 } : Room)) (fun a_ U_ => a_ = #[(.double rr), (.long ww), (.double tt)] ∧ Z.Warmed39 U_.vm ∧ U_.heap = h0) (fun _ _ _ _ _ => True) (fun _ U_ o_ V_ => ∃ v_ L_, o_ = .returned v_ ∧ own_Q3 Z rr ww tt h0 n0 v_ V_.heap L_ ∧ FrameEnd U_ o_ V_ L_ ({ frames := 0, cells := 0, slots := 0, locals := 0 } : Room).cells ({ frames := 0, cells := 0, slots := 0, locals := 0 } : Room).slots) := by
  refine MetFree.of_bodySF (plainFor_of_name own_pn_com_example_eigenvote_eigenvote_rank_WeightsScaledToSumOnePinLaw) hisR ?_
  intro p e s m args below meth c s₁ Bd hml0 hP hK
  obtain ⟨rfl, hZ, hh⟩ := hP
  have hx := Bd.exec
  have hby := Bd.bytes
  have hml : c.maxLocals = 10 := hml0
  have hown : s.vm.findClass "com/example/eigenvote/eigenvote/rank/WeightsScaledToSumOnePinLaw" = some m.cls := findClass_of_methodNamed Bd.named
  have hnm := (name_of_methodNamed Bd.named Bd.method).1
  have X0 : Stand p l e ({ frames := 0, cells := 0, slots := 0, locals := 0 } : Room) s m #[(.double rr), (.long ww), (.double tt)] below meth c s₁ [] 0 0 := Stand.of_body Bd
  have e0 : s₁.heap = h0 := by rw [← hh, Bd.state]; rfl
  have N0 := Fr.nil n0
  show own_G p e below s (own_Q3 Z rr ww tt h0 n0) ({ frames := 0, cells := 0, slots := 0, locals := 0 } : Room).cells ({ frames := 0, cells := 0, slots := 0, locals := 0 } : Room).slots s₁ (entryFrame m #[(.double rr), (.long ww), (.double tt)] 10)
  rw [own_rm3_ef]
  refine own_w (T' := s₁) (g' := (mkF m 1 #[.val (.double rr), .second, .val (.long ww), .second, .val (.double tt), .second, .unset, .unset, .unset, .unset] [(.long ww)])) (fun _ k_ => XS.lloadN X0.here hx rfl (hb hby own_d3_0) rfl k_) ?_
  refine own_w (T' := s₁) (g' := (mkF m 2 #[.val (.double rr), .second, .val (.long ww), .second, .val (.double tt), .second, .unset, .unset, .unset, .unset] [(.long (0 : Int64)), (.long ww)])) (fun _ k_ => XS.lconst X0.here hx rfl (hb hby own_d3_1) k_) ?_
  refine own_w (T' := s₁) (g' := (mkF m 3 #[.val (.double rr), .second, .val (.long ww), .second, .val (.double tt), .second, .unset, .unset, .unset, .unset] [(.int (lcmpW ww (0 : Int64)))])) (fun _ k_ => XS.lcmp X0.here hx rfl (hb hby own_d3_2) rfl k_) ?_
  by_cases hc3 : ww = (0 : Int64)
  · refine own_w (T' := s₁) (g' := (mkF m 6 #[.val (.double rr), .second, .val (.long ww), .second, .val (.double tt), .second, .unset, .unset, .unset, .unset] [])) (fun _ k_ => XS.ifNo X0.here hx rfl (hb hby own_d3_3) rfl ((if0 _ _).trans (teq ((lw_eq _ _).mpr hc3)).2) k_) ?_
    refine own_w (T' := s₁) (g' := (mkF m 7 #[.val (.double rr), .second, .val (.long ww), .second, .val (.double tt), .second, .unset, .unset, .unset, .unset] [(.double rr)])) (fun _ k_ => XS.dloadN X0.here hx rfl (hb hby own_d3_6) rfl k_) ?_
    refine own_w (T' := s₁) (g' := (mkF m 8 #[.val (.double rr), .second, .val (.long ww), .second, .val (.double tt), .second, .unset, .unset, .unset, .unset] [(.double FP.dconst0), (.double rr)])) (fun _ k_ => XS.dconst0 X0.here hx rfl (hb hby own_d3_7) rfl k_) ?_
    refine own_w (T' := s₁) (g' := (mkF m 9 #[.val (.double rr), .second, .val (.long ww), .second, .val (.double tt), .second, .unset, .unset, .unset, .unset] [(.int (own_cm 0 0))])) (fun _ k_ => XS.dcmpS X0.here hx rfl (hb hby own_d3_8) rfl (own_cmp (hn.1 hc3) own_z0 _) k_) ?_
    refine own_w (T' := s₁) (g' := (mkF m 12 #[.val (.double rr), .second, .val (.long ww), .second, .val (.double tt), .second, .unset, .unset, .unset, .unset] [])) (fun _ k_ => XS.ifNo X0.here hx rfl (hb hby own_d3_9) rfl ((if0 _ _).trans (teq (own_cme 0)).2) k_) ?_
    refine own_w (T' := s₁) (g' := (mkF m 13 #[.val (.double rr), .second, .val (.long ww), .second, .val (.double tt), .second, .unset, .unset, .unset, .unset] [(.int (1 : Int32))])) (fun _ k_ => XS.iconst X0.here hx rfl (hb hby own_d3_12) k_) ?_
    refine own_w (T' := s₁) (g' := (mkF m 17 #[.val (.double rr), .second, .val (.long ww), .second, .val (.double tt), .second, .unset, .unset, .unset, .unset] [(.int (1 : Int32))])) (fun _ k_ => XS.goto X0.here hx rfl (pc0 := 13) (pc' := 17) rfl (hb hby own_d3_13) (by decide) (by decide) k_) ?_
    obtain ⟨fs, hr, hrun, hended, hW, hsame⟩ := X0.leave (v := some (.int (1 : Int32))) (fun h => by rw [Bd.returns] at h; cases h)
    exact ⟨_, _, retOut X0 hx Bd.returns rfl (Or.inl ⟨rfl, Or.inr (Or.inl rfl), _, rfl⟩) (hb hby own_d3_17) hr, hrun, hended, _, _, rfl, (by show own_Q3 Z rr ww tt h0 n0 _ s₁.heap _; rw [e0]; exact ⟨rfl, N0, rfl⟩), ⟨_, rfl⟩, hW, hsame.mono (by decide) (by decide)⟩
  · refine own_w (T' := s₁) (g' := (mkF m 18 #[.val (.double rr), .second, .val (.long ww), .second, .val (.double tt), .second, .unset, .unset, .unset, .unset] [])) (fun _ k_ => XS.ifYes X0.here hx rfl (pc0 := 3) (pc' := 18) rfl (hb hby own_d3_3) rfl ((if0 _ _).trans (feq (mt (lw_eq _ _).mp hc3)).2) (by decide) (by decide) k_) ?_
    obtain ⟨⟨z, z1, z2, z3⟩, n1, i, j, i1, j1, ij, ij'⟩ := hn.2 hc3
    refine own_w (T' := s₁) (g' := (mkF m 19 #[.val (.double rr), .second, .val (.long ww), .second, .val (.double tt), .second, .unset, .unset, .unset, .unset] [(.double rr)])) (fun _ k_ => XS.dloadN X0.here hx rfl (hb hby own_d3_18) rfl k_) ?_
    refine own_w (T' := s₁) (g' := (mkF m 20 #[.val (.double rr), .second, .val (.long ww), .second, .val (.double tt), .second, .unset, .unset, .unset, .unset] [(.double FP.dconst0), (.double rr)])) (fun _ k_ => XS.dconst0 X0.here hx rfl (hb hby own_d3_19) rfl k_) ?_
    refine own_w (T' := s₁) (g' := (mkF m 21 #[.val (.double rr), .second, .val (.long ww), .second, .val (.double tt), .second, .unset, .unset, .unset, .unset] [(.int (own_cm z 0))])) (fun _ k_ => XS.dcmpS X0.here hx rfl (hb hby own_d3_20) rfl (own_cmp z1 own_z0 _) k_) ?_
    refine own_w (T' := s₁) (g' := (mkF m 24 #[.val (.double rr), .second, .val (.long ww), .second, .val (.double tt), .second, .unset, .unset, .unset, .unset] [])) (fun _ k_ => XS.ifNo X0.here hx rfl (hb hby own_d3_21) rfl ((if0 _ _).trans (tlt (own_cmg z2)).2.2.2) k_) ?_
    refine own_w (T' := s₁) (g' := (mkF m 25 #[.val (.double rr), .second, .val (.long ww), .second, .val (.double tt), .second, .unset, .unset, .unset, .unset] [(.double rr)])) (fun _ k_ => XS.dloadN X0.here hx rfl (hb hby own_d3_24) rfl k_) ?_
    refine own_w (T' := s₁) (g' := (mkF m 26 #[.val (.double rr), .second, .val (.long ww), .second, .val (.double tt), .second, .unset, .unset, .unset, .unset] [(.double FP.dconst1), (.double rr)])) (fun _ k_ => XS.dconst1 X0.here hx rfl (hb hby own_d3_25) rfl k_) ?_
    refine own_w (T' := s₁) (g' := (mkF m 27 #[.val (.double rr), .second, .val (.long ww), .second, .val (.double tt), .second, .unset, .unset, .unset, .unset] [(.int (own_cm z (own_U : Int)))])) (fun _ k_ => XS.dcmpS X0.here hx rfl (hb hby own_d3_26) rfl (own_cmp z1 own_z1 _) k_) ?_
    refine own_w (T' := s₁) (g' := (mkF m 32 #[.val (.double rr), .second, .val (.long ww), .second, .val (.double tt), .second, .unset, .unset, .unset, .unset] [])) (fun _ k_ => XS.ifYes X0.here hx rfl (pc0 := 27) (pc' := 32) rfl (hb hby own_d3_27) rfl ((if0 _ _).trans (flt (own_cml z3)).2.2.2) (by decide) (by decide) k_) ?_
    refine own_w (T' := s₁) (g' := (mkF m 33 #[.val (.double rr), .second, .val (.long ww), .second, .val (.double tt), .second, .unset, .unset, .unset, .unset] [(.double rr)])) (fun _ k_ => XS.dloadN X0.here hx rfl (hb hby own_d3_32) rfl k_) ?_
    refine own_w (T' := s₁) (g' := (mkF m 35 #[.val (.double rr), .second, .val (.long ww), .second, .val (.double tt), .second, .unset, .unset, .unset, .unset] [(.double tt), (.double rr)])) (fun _ k_ => XS.dload X0.here hx rfl (hb hby own_d3_33) rfl k_) ?_
    refine own_w (T' := s₁) (g' := (mkF m 36 #[.val (.double rr), .second, .val (.long ww), .second, .val (.double tt), .second, .unset, .unset, .unset, .unset] [(.double (FP.dmul rr tt))])) (fun _ k_ => XS.dmulS X0.here hx rfl (hb hby own_d3_35) rfl n1 rfl k_) ?_
    refine own_w (T' := s₁) (g' := (mkF m 37 #[.val (.double rr), .second, .val (.long ww), .second, .val (.double tt), .second, .unset, .unset, .unset, .unset] [(.long ww), (.double (FP.dmul rr tt))])) (fun _ k_ => XS.lloadN X0.here hx rfl (hb hby own_d3_36) rfl k_) ?_
    refine own_w (T' := s₁) (g' := (mkF m 38 #[.val (.double rr), .second, .val (.long ww), .second, .val (.double tt), .second, .unset, .unset, .unset, .unset] [(.double (FP.l2d ww)), (.double (FP.dmul rr tt))])) (fun _ k_ => XS.l2dS X0.here hx rfl (hb hby own_d3_37) rfl rfl k_) ?_
    refine own_w (T' := s₁) (g' := (mkF m 39 #[.val (.double rr), .second, .val (.long ww), .second, .val (.double tt), .second, .unset, .unset, .unset, .unset] [(.double (FP.dsub (FP.dmul rr tt) (FP.l2d ww)))])) (fun _ k_ => XS.dsubS X0.here hx rfl (hb hby own_d3_38) rfl (own_ZN i1) rfl k_) ?_
    refine own_w (T' := s₁) (g' := (mkF m 41 #[.val (.double rr), .second, .val (.long ww), .second, .val (.double tt), .second, .val (.double (FP.dsub (FP.dmul rr tt) (FP.l2d ww))), .second, .unset, .unset] [])) (fun _ k_ => XS.dstore X0.here hx rfl (hb hby own_d3_39) rfl (l' := #[.val (.double rr), .second, .val (.long ww), .second, .val (.double tt), .second, .val (.double (FP.dsub (FP.dmul rr tt) (FP.l2d ww))), .second, .unset, .unset]) rfl k_) ?_
    refine own_w (T' := s₁) (g' := (mkF m 43 #[.val (.double rr), .second, .val (.long ww), .second, .val (.double tt), .second, .val (.double (FP.dsub (FP.dmul rr tt) (FP.l2d ww))), .second, .unset, .unset] [(.double tt)])) (fun _ k_ => XS.dload X0.here hx rfl (hb hby own_d3_41) rfl k_) ?_
    refine own_w (T' := s₁) (g' := (mkF m 46 #[.val (.double rr), .second, .val (.long ww), .second, .val (.double tt), .second, .val (.double (FP.dsub (FP.dmul rr tt) (FP.l2d ww))), .second, .unset, .unset] [(.double (4427486594234968593 : UInt64)), (.double tt)])) (X0.ldc2DoubleC hx hown (mvT hZ (hw _ (List.mem_of_getElem? (i := 14) rfl))) (g := (mkF m 43 #[.val (.double rr), .second, .val (.long ww), .second, .val (.double tt), .second, .val (.double (FP.dsub (FP.dmul rr tt) (FP.l2d ww))), .second, .unset, .unset] [(.double tt)])) rfl (hb hby own_d3_43)) ?_
    refine own_w (T' := s₁) (g' := (mkF m 47 #[.val (.double rr), .second, .val (.long ww), .second, .val (.double tt), .second, .val (.double (FP.dsub (FP.dmul rr tt) (FP.l2d ww))), .second, .unset, .unset] [(.double (FP.dmul tt (4427486594234968593 : UInt64)))])) (fun _ k_ => XS.dmulS X0.here hx rfl (hb hby own_d3_46) rfl (own_ZN j1) rfl k_) ?_
    refine own_w (T' := s₁) (g' := (mkF m 49 #[.val (.double rr), .second, .val (.long ww), .second, .val (.double tt), .second, .val (.double (FP.dsub (FP.dmul rr tt) (FP.l2d ww))), .second, .val (.double (FP.dmul tt (4427486594234968593 : UInt64))), .second] [])) (fun _ k_ => XS.dstore X0.here hx rfl (hb hby own_d3_47) rfl (l' := #[.val (.double rr), .second, .val (.long ww), .second, .val (.double tt), .second, .val (.double (FP.dsub (FP.dmul rr tt) (FP.l2d ww))), .second, .val (.double (FP.dmul tt (4427486594234968593 : UInt64))), .second]) rfl k_) ?_
    refine own_w (T' := s₁) (g' := (mkF m 51 #[.val (.double rr), .second, .val (.long ww), .second, .val (.double tt), .second, .val (.double (FP.dsub (FP.dmul rr tt) (FP.l2d ww))), .second, .val (.double (FP.dmul tt (4427486594234968593 : UInt64))), .second] [(.double (FP.dsub (FP.dmul rr tt) (FP.l2d ww)))])) (fun _ k_ => XS.dload X0.here hx rfl (hb hby own_d3_49) rfl k_) ?_
    refine own_w (T' := s₁) (g' := (mkF m 53 #[.val (.double rr), .second, .val (.long ww), .second, .val (.double tt), .second, .val (.double (FP.dsub (FP.dmul rr tt) (FP.l2d ww))), .second, .val (.double (FP.dmul tt (4427486594234968593 : UInt64))), .second] [(.double (FP.dmul tt (4427486594234968593 : UInt64))), (.double (FP.dsub (FP.dmul rr tt) (FP.l2d ww)))])) (fun _ k_ => XS.dload X0.here hx rfl (hb hby own_d3_51) rfl k_) ?_
    refine own_w (T' := s₁) (g' := (mkF m 54 #[.val (.double rr), .second, .val (.long ww), .second, .val (.double tt), .second, .val (.double (FP.dsub (FP.dmul rr tt) (FP.l2d ww))), .second, .val (.double (FP.dmul tt (4427486594234968593 : UInt64))), .second] [(.int (own_cm i j))])) (fun _ k_ => XS.dcmpS X0.here hx rfl (hb hby own_d3_53) rfl (own_cmp i1 j1 _) k_) ?_
    refine own_w (T' := s₁) (g' := (mkF m 57 #[.val (.double rr), .second, .val (.long ww), .second, .val (.double tt), .second, .val (.double (FP.dsub (FP.dmul rr tt) (FP.l2d ww))), .second, .val (.double (FP.dmul tt (4427486594234968593 : UInt64))), .second] [])) (fun _ k_ => XS.ifNo X0.here hx rfl (hb hby own_d3_54) rfl ((if0 _ _).trans (flt (own_cml ij)).2.2.1) k_) ?_
    refine own_w (T' := s₁) (g' := (mkF m 59 #[.val (.double rr), .second, .val (.long ww), .second, .val (.double tt), .second, .val (.double (FP.dsub (FP.dmul rr tt) (FP.l2d ww))), .second, .val (.double (FP.dmul tt (4427486594234968593 : UInt64))), .second] [(.double (FP.dsub (FP.dmul rr tt) (FP.l2d ww)))])) (fun _ k_ => XS.dload X0.here hx rfl (hb hby own_d3_57) rfl k_) ?_
    refine own_w (T' := s₁) (g' := (mkF m 60 #[.val (.double rr), .second, .val (.long ww), .second, .val (.double tt), .second, .val (.double (FP.dsub (FP.dmul rr tt) (FP.l2d ww))), .second, .val (.double (FP.dmul tt (4427486594234968593 : UInt64))), .second] [(.double (FP.dneg (FP.dsub (FP.dmul rr tt) (FP.l2d ww))))])) (fun _ k_ => XS.dnegS X0.here hx rfl (hb hby own_d3_59) rfl rfl k_) ?_
    refine own_w (T' := s₁) (g' := (mkF m 62 #[.val (.double rr), .second, .val (.long ww), .second, .val (.double tt), .second, .val (.double (FP.dsub (FP.dmul rr tt) (FP.l2d ww))), .second, .val (.double (FP.dmul tt (4427486594234968593 : UInt64))), .second] [(.double (FP.dmul tt (4427486594234968593 : UInt64))), (.double (FP.dneg (FP.dsub (FP.dmul rr tt) (FP.l2d ww))))])) (fun _ k_ => XS.dload X0.here hx rfl (hb hby own_d3_60) rfl k_) ?_
    refine own_w (T' := s₁) (g' := (mkF m 63 #[.val (.double rr), .second, .val (.long ww), .second, .val (.double tt), .second, .val (.double (FP.dsub (FP.dmul rr tt) (FP.l2d ww))), .second, .val (.double (FP.dmul tt (4427486594234968593 : UInt64))), .second] [(.int (own_cm (-i) j))])) (fun _ k_ => XS.dcmpS X0.here hx rfl (hb hby own_d3_62) rfl (own_cmp (own_negF i1) j1 _) k_) ?_
    refine own_w (T' := s₁) (g' := (mkF m 66 #[.val (.double rr), .second, .val (.long ww), .second, .val (.double tt), .second, .val (.double (FP.dsub (FP.dmul rr tt) (FP.l2d ww))), .second, .val (.double (FP.dmul tt (4427486594234968593 : UInt64))), .second] [])) (fun _ k_ => XS.ifNo X0.here hx rfl (hb hby own_d3_63) rfl ((if0 _ _).trans (flt (own_cml ij')).2.2.1) k_) ?_
    refine own_w (T' := s₁) (g' := (mkF m 67 #[.val (.double rr), .second, .val (.long ww), .second, .val (.double tt), .second, .val (.double (FP.dsub (FP.dmul rr tt) (FP.l2d ww))), .second, .val (.double (FP.dmul tt (4427486594234968593 : UInt64))), .second] [(.int (1 : Int32))])) (fun _ k_ => XS.iconst X0.here hx rfl (hb hby own_d3_66) k_) ?_
    refine own_w (T' := s₁) (g' := (mkF m 71 #[.val (.double rr), .second, .val (.long ww), .second, .val (.double tt), .second, .val (.double (FP.dsub (FP.dmul rr tt) (FP.l2d ww))), .second, .val (.double (FP.dmul tt (4427486594234968593 : UInt64))), .second] [(.int (1 : Int32))])) (fun _ k_ => XS.goto X0.here hx rfl (pc0 := 67) (pc' := 71) rfl (hb hby own_d3_67) (by decide) (by decide) k_) ?_
    obtain ⟨fs, hr, hrun, hended, hW, hsame⟩ := X0.leave (v := some (.int (1 : Int32))) (fun h => by rw [Bd.returns] at h; cases h)
    exact ⟨_, _, retOut X0 hx Bd.returns rfl (Or.inl ⟨rfl, Or.inr (Or.inl rfl), _, rfl⟩) (hb hby own_d3_71) hr, hrun, hended, _, _, rfl, (by show own_Q3 Z rr ww tt h0 n0 _ s₁.heap _; rw [e0]; exact ⟨rfl, N0, rfl⟩), ⟨_, rfl⟩, hW, hsame.mono (by decide) (by decide)⟩
theorem own_d1_0 : decode prog_49_method_3_code 0 = .ok (.dconst 0, 1) := by decide +kernel
theorem own_d1_1 : decode prog_49_method_3_code 1 = .ok (.dstore_n 1, 1) := by decide +kernel
theorem own_d1_2 : decode prog_49_method_3_code 2 = .ok (.aload_n 0, 1) := by decide +kernel
theorem own_d1_3 : decode prog_49_method_3_code 3 = .ok (.astore_n 3, 1) := by decide +kernel
theorem own_d1_4 : decode prog_49_method_3_code 4 = .ok (.aload_n 3, 1) := by decide +kernel
theorem own_d1_5 : decode prog_49_method_3_code 5 = .ok (.arraylength, 1) := by decide +kernel
theorem own_d1_6 : decode prog_49_method_3_code 6 = .ok (.istore 4, 2) := by decide +kernel
theorem own_d1_8 : decode prog_49_method_3_code 8 = .ok (.iconst 0, 1) := by decide +kernel
theorem own_d1_9 : decode prog_49_method_3_code 9 = .ok (.istore 5, 2) := by decide +kernel
theorem own_d1_11 : decode prog_49_method_3_code 11 = .ok (.iload 5, 2) := by decide +kernel
theorem own_d1_13 : decode prog_49_method_3_code 13 = .ok (.iload 4, 2) := by decide +kernel
theorem own_d1_15 : decode prog_49_method_3_code 15 = .ok (.if_icmp .ge 22, 3) := by decide +kernel
theorem own_d1_18 : decode prog_49_method_3_code 18 = .ok (.aload_n 3, 1) := by decide +kernel
theorem own_d1_19 : decode prog_49_method_3_code 19 = .ok (.iload 5, 2) := by decide +kernel
theorem own_d1_21 : decode prog_49_method_3_code 21 = .ok (.daload, 1) := by decide +kernel
theorem own_d1_22 : decode prog_49_method_3_code 22 = .ok (.dstore 6, 2) := by decide +kernel
theorem own_d1_24 : decode prog_49_method_3_code 24 = .ok (.dload_n 1, 1) := by decide +kernel
theorem own_d1_25 : decode prog_49_method_3_code 25 = .ok (.dload 6, 2) := by decide +kernel
theorem own_d1_27 : decode prog_49_method_3_code 27 = .ok (.invokestatic 60, 3) := by decide +kernel
theorem own_mxc : jdk_29_method_68_code = Jvm.Free.Fl.Abs.maxDCode := by decide +kernel
theorem own_pd0 : parseMethodDescriptor "(DD)D" = some ⟨[.double, .double], some .double⟩ := by decide +kernel
theorem own_d1_30 : decode prog_49_method_3_code 30 = .ok (.dstore_n 1, 1) := by decide +kernel
theorem own_d1_31 : decode prog_49_method_3_code 31 = .ok (.iinc 5 1, 3) := by decide +kernel
theorem own_d1_34 : decode prog_49_method_3_code 34 = .ok (.goto (-23), 3) := by decide +kernel
theorem own_d1_37 : decode prog_49_method_3_code 37 = .ok (.dconst 0, 1) := by decide +kernel
theorem own_d1_38 : decode prog_49_method_3_code 38 = .ok (.dstore_n 3, 1) := by decide +kernel
theorem own_d1_39 : decode prog_49_method_3_code 39 = .ok (.iconst 0, 1) := by decide +kernel
theorem own_d1_40 : decode prog_49_method_3_code 40 = .ok (.istore 5, 2) := by decide +kernel
theorem own_d1_42 : decode prog_49_method_3_code 42 = .ok (.iload 5, 2) := by decide +kernel
theorem own_d1_44 : decode prog_49_method_3_code 44 = .ok (.aload_n 0, 1) := by decide +kernel
theorem own_d1_45 : decode prog_49_method_3_code 45 = .ok (.arraylength, 1) := by decide +kernel
theorem own_d1_46 : decode prog_49_method_3_code 46 = .ok (.if_icmp .ge 24, 3) := by decide +kernel
theorem own_d1_49 : decode prog_49_method_3_code 49 = .ok (.aload_n 0, 1) := by decide +kernel
theorem own_d1_50 : decode prog_49_method_3_code 50 = .ok (.iload 5, 2) := by decide +kernel
theorem own_d1_52 : decode prog_49_method_3_code 52 = .ok (.dup2, 1) := by decide +kernel
theorem own_d1_53 : decode prog_49_method_3_code 53 = .ok (.daload, 1) := by decide +kernel
theorem own_d1_54 : decode prog_49_method_3_code 54 = .ok (.dload_n 1, 1) := by decide +kernel
theorem own_d1_55 : decode prog_49_method_3_code 55 = .ok (.ddiv, 1) := by decide +kernel
theorem own_d1_56 : decode prog_49_method_3_code 56 = .ok (.dastore, 1) := by decide +kernel
theorem own_d1_57 : decode prog_49_method_3_code 57 = .ok (.dload_n 3, 1) := by decide +kernel
theorem own_d1_58 : decode prog_49_method_3_code 58 = .ok (.aload_n 0, 1) := by decide +kernel
theorem own_d1_59 : decode prog_49_method_3_code 59 = .ok (.iload 5, 2) := by decide +kernel
theorem own_d1_61 : decode prog_49_method_3_code 61 = .ok (.daload, 1) := by decide +kernel
theorem own_d1_62 : decode prog_49_method_3_code 62 = .ok (.dadd, 1) := by decide +kernel
theorem own_d1_63 : decode prog_49_method_3_code 63 = .ok (.dstore_n 3, 1) := by decide +kernel
theorem own_d1_64 : decode prog_49_method_3_code 64 = .ok (.iinc 5 1, 3) := by decide +kernel
theorem own_d1_67 : decode prog_49_method_3_code 67 = .ok (.goto (-25), 3) := by decide +kernel
theorem own_d1_70 : decode prog_49_method_3_code 70 = .ok (.iconst 0, 1) := by decide +kernel
theorem own_d1_71 : decode prog_49_method_3_code 71 = .ok (.istore 5, 2) := by decide +kernel
theorem own_d1_73 : decode prog_49_method_3_code 73 = .ok (.iload 5, 2) := by decide +kernel
theorem own_d1_75 : decode prog_49_method_3_code 75 = .ok (.aload_n 0, 1) := by decide +kernel
theorem own_d1_76 : decode prog_49_method_3_code 76 = .ok (.arraylength, 1) := by decide +kernel
theorem own_d1_77 : decode prog_49_method_3_code 77 = .ok (.if_icmp .ge 17, 3) := by decide +kernel
theorem own_d1_80 : decode prog_49_method_3_code 80 = .ok (.aload_n 0, 1) := by decide +kernel
theorem own_d1_81 : decode prog_49_method_3_code 81 = .ok (.iload 5, 2) := by decide +kernel
theorem own_d1_83 : decode prog_49_method_3_code 83 = .ok (.dup2, 1) := by decide +kernel
theorem own_d1_84 : decode prog_49_method_3_code 84 = .ok (.daload, 1) := by decide +kernel
theorem own_d1_85 : decode prog_49_method_3_code 85 = .ok (.dload_n 3, 1) := by decide +kernel
theorem own_d1_86 : decode prog_49_method_3_code 86 = .ok (.ddiv, 1) := by decide +kernel
theorem own_d1_87 : decode prog_49_method_3_code 87 = .ok (.dastore, 1) := by decide +kernel
theorem own_d1_88 : decode prog_49_method_3_code 88 = .ok (.iinc 5 1, 3) := by decide +kernel
theorem own_d1_91 : decode prog_49_method_3_code 91 = .ok (.goto (-18), 3) := by decide +kernel
theorem own_d1_94 : decode prog_49_method_3_code 94 = .ok (.aload_n 0, 1) := by decide +kernel
theorem own_d1_95 : decode prog_49_method_3_code 95 = .ok (.areturn, 1) := by decide +kernel
theorem own_pn_com_example_eigenvote_eigenvote_rank_Weights : plainName "com/example/eigenvote/eigenvote/rank/Weights" = true := by first | (simp [plainName, overriddenIn]; done) | decide +kernel
theorem own_rm1_ef (m : MethodId) (ar : Addr) : entryFrame m #[(.ref ar)] 8 = mkF m 0 #[.val (.ref ar), .unset, .unset, .unset, .unset, .unset, .unset, .unset] [] := by first | (simp [entryFrame, mkF, argsToLocals, Value.category]; done) | rfl
def own_Q1 (Z : State) (ar : Addr) (x0 : UInt64) (x1 : UInt64) (x2 : UInt64) (m0 : UInt64) (m1 : UInt64) (m2 : UInt64) (q0 : UInt64) (q1 : UInt64) (q2 : UInt64) (s1 : UInt64) (s2 : UInt64) (s3 : UInt64) (r0 : UInt64) (r1 : UInt64) (r2 : UInt64) (h0 : Heap) (n0 : Nat) (v_ : Option Value) (h : Heap) (L_ : List Loc) : Prop := v_ = some (.ref ar) ∧ Fr n0 L_ ∧ (Keep h0 h [ar]) ∧ (own_ArD Z h ar [r0, r1, r2])
set_option maxRecDepth 65536 in
set_option maxHeartbeats 40000000 in
theorem own_rm1 (l : Launch) (Z : State) (a0 : Array Value) (hw : ∀ d ∈ tables_1, d.before a0 Z = true) (ws : List Jvm.Cond) (ar : Addr) (x0 : UInt64) (x1 : UInt64) (x2 : UInt64) (m0 : UInt64) (m1 : UInt64) (m2 : UInt64) (q0 : UInt64) (q1 : UInt64) (q2 : UInt64) (s1 : UInt64) (s2 : UInt64) (s3 : UInt64) (r0 : UInt64) (r1 : UInt64) (r2 : UInt64) (h0 : Heap) (n0 : Nat) (Z0 : n0 ≤ h0.size) (V : own_ArD Z h0 ar [x0, x1, x2]) (g_ar : n0 ≤ ar) (n_x0 : Jvm.Free.Fl.NoNaN64 x0) (n_x1 : Jvm.Free.Fl.NoNaN64 x1) (n_x2 : Jvm.Free.Fl.NoNaN64 x2) (n_m0 : Jvm.Free.Fl.NoNaN64 m0) (n_m1 : Jvm.Free.Fl.NoNaN64 m1) (n_m2 : Jvm.Free.Fl.NoNaN64 m2) (n_q0 : Jvm.Free.Fl.NoNaN64 q0) (n_q1 : Jvm.Free.Fl.NoNaN64 q1) (n_q2 : Jvm.Free.Fl.NoNaN64 q2) (n_s1 : Jvm.Free.Fl.NoNaN64 s1) (n_s2 : Jvm.Free.Fl.NoNaN64 s2) (n_s3 : Jvm.Free.Fl.NoNaN64 s3) (n_r0 : Jvm.Free.Fl.NoNaN64 r0) (n_r1 : Jvm.Free.Fl.NoNaN64 r1) (n_r2 : Jvm.Free.Fl.NoNaN64 r2) (em0 : Jvm.Native.java_lang_Math.nans.pick64 true FP.dconst0 x0 = m0) (em1 : Jvm.Native.java_lang_Math.nans.pick64 true m0 x1 = m1) (em2 : Jvm.Native.java_lang_Math.nans.pick64 true m1 x2 = m2) (eq0 : FP.ddiv x0 m2 = q0) (eq1 : FP.ddiv x1 m2 = q1) (eq2 : FP.ddiv x2 m2 = q2) (es1 : FP.dadd FP.dconst0 q0 = s1) (es2 : FP.dadd s1 q1 = s2) (es3 : FP.dadd s2 q2 = s3) (er0 : FP.ddiv q0 s3 = r0) (er1 : FP.ddiv q1 s3 = r1) (er2 : FP.ddiv q2 s3 = r2) :
    MetFree l (⟨"com/example/eigenvote/eigenvote/rank/Weights", "scaledToSumOne", "([D)[D"⟩ : MethodName) (head1 (Jvm.Cond.code (⟨"com/example/eigenvote/eigenvote/rank/Weights", "scaledToSumOne", "([D)[D"⟩ : MethodName) prog_49_method_3_code 8 (some (.array .double)) :: ws) ({ frames := 1, cells := 0, slots := 0, locals := 15 } : Room)) (fun a_ U_ => a_ = #[(.ref ar)] ∧ Z.Warmed39 U_.vm ∧ U_.heap = h0) (fun _ _ _ _ _ => True) (fun _ U_ o_ V_ => ∃ v_ L_, o_ = .returned v_ ∧ own_Q1 Z ar x0 x1 x2 m0 m1 m2 q0 q1 q2 s1 s2 s3 r0 r1 r2 h0 n0 v_ V_.heap L_ ∧ FrameEnd U_ o_ V_ L_ ({ frames := 1, cells := 0, slots := 0, locals := 15 } : Room).cells ({ frames := 1, cells := 0, slots := 0, locals := 15 } : Room).slots) := by
  refine MetFree.of_bodySF (plainFor_of_name own_pn_com_example_eigenvote_eigenvote_rank_Weights) hisR ?_
  intro p e s m args below meth c s₁ Bd hml0 hP hK
  obtain ⟨rfl, hZ, hh⟩ := hP
  have hx := Bd.exec
  have hby := Bd.bytes
  have hml : c.maxLocals = 8 := hml0
  have hown : s.vm.findClass "com/example/eigenvote/eigenvote/rank/Weights" = some m.cls := findClass_of_methodNamed Bd.named
  have hnm := (name_of_methodNamed Bd.named Bd.method).1
  have X0 : Stand p l e ({ frames := 1, cells := 0, slots := 0, locals := 15 } : Room) s m #[(.ref ar)] below meth c s₁ [] 0 0 := Stand.of_body Bd
  have e0 : s₁.heap = h0 := by rw [← hh, Bd.state]; rfl
  have N0 := Fr.nil n0
  show own_G p e below s (own_Q1 Z ar x0 x1 x2 m0 m1 m2 q0 q1 q2 s1 s2 s3 r0 r1 r2 h0 n0) ({ frames := 1, cells := 0, slots := 0, locals := 15 } : Room).cells ({ frames := 1, cells := 0, slots := 0, locals := 15 } : Room).slots s₁ (entryFrame m #[(.ref ar)] 8)
  rw [own_rm1_ef]
  refine own_w (T' := s₁) (g' := (mkF m 1 #[.val (.ref ar), .unset, .unset, .unset, .unset, .unset, .unset, .unset] [(.double FP.dconst0)])) (fun _ k_ => XS.dconst0 X0.here hx rfl (hb hby own_d1_0) rfl k_) ?_
  refine own_w (T' := s₁) (g' := (mkF m 2 #[.val (.ref ar), .val (.double FP.dconst0), .second, .unset, .unset, .unset, .unset, .unset] [])) (fun _ k_ => XS.dstoreN X0.here hx rfl (hb hby own_d1_1) rfl (l' := #[.val (.ref ar), .val (.double FP.dconst0), .second, .unset, .unset, .unset, .unset, .unset]) rfl k_) ?_
  refine own_w (T' := s₁) (g' := (mkF m 3 #[.val (.ref ar), .val (.double FP.dconst0), .second, .unset, .unset, .unset, .unset, .unset] [(.ref ar)])) (fun _ k_ => XS.aloadN X0.here hx rfl (hb hby own_d1_2) rfl rfl k_) ?_
  refine own_w (T' := s₁) (g' := (mkF m 4 #[.val (.ref ar), .val (.double FP.dconst0), .second, .val (.ref ar), .unset, .unset, .unset, .unset] [])) (fun _ k_ => XS.astoreN X0.here hx rfl (hb hby own_d1_3) rfl rfl (l' := #[.val (.ref ar), .val (.double FP.dconst0), .second, .val (.ref ar), .unset, .unset, .unset, .unset]) rfl k_) ?_
  refine own_w (T' := s₁) (g' := (mkF m 5 #[.val (.ref ar), .val (.double FP.dconst0), .second, .val (.ref ar), .unset, .unset, .unset, .unset] [(.ref ar)])) (fun _ k_ => XS.aloadN X0.here hx rfl (hb hby own_d1_4) rfl rfl k_) ?_
  obtain ⟨cl1, Ar1, hs1⟩ := id V
  have hl1 : cl1.slots.size.toInt32 = (3 : Int32) := by rw [hs1]; rfl
  refine own_w (T' := s₁) (g' := (mkF m 6 #[.val (.ref ar), .val (.double FP.dconst0), .second, .val (.ref ar), .unset, .unset, .unset, .unset] [(.int (3 : Int32))])) (fun t_ k_ => X0.arraylength hx (by rw [e0]; exact Ar1.1) (State.isArrayOf_alike hZ.alike Ar1.2.1) (g := (mkF m 5 #[.val (.ref ar), .val (.double FP.dconst0), .second, .val (.ref ar), .unset, .unset, .unset, .unset] [(.ref ar)])) rfl rfl (hb hby own_d1_5) t_ (by rw [hl1]; exact k_)) ?_
  refine own_w (T' := s₁) (g' := (mkF m 8 #[.val (.ref ar), .val (.double FP.dconst0), .second, .val (.ref ar), .val (.int (3 : Int32)), .unset, .unset, .unset] [])) (fun _ k_ => XS.istore X0.here hx rfl (hb hby own_d1_6) rfl (l' := #[.val (.ref ar), .val (.double FP.dconst0), .second, .val (.ref ar), .val (.int (3 : Int32)), .unset, .unset, .unset]) rfl k_) ?_
  refine own_w (T' := s₁) (g' := (mkF m 9 #[.val (.ref ar), .val (.double FP.dconst0), .second, .val (.ref ar), .val (.int (3 : Int32)), .unset, .unset, .unset] [(.int (0 : Int32))])) (fun _ k_ => XS.iconst X0.here hx rfl (hb hby own_d1_8) k_) ?_
  refine own_w (T' := s₁) (g' := (mkF m 11 #[.val (.ref ar), .val (.double FP.dconst0), .second, .val (.ref ar), .val (.int (3 : Int32)), .val (.int (0 : Int32)), .unset, .unset] [])) (fun _ k_ => XS.istore X0.here hx rfl (hb hby own_d1_9) rfl (l' := #[.val (.ref ar), .val (.double FP.dconst0), .second, .val (.ref ar), .val (.int (3 : Int32)), .val (.int (0 : Int32)), .unset, .unset]) rfl k_) ?_
  refine own_w (T' := s₁) (g' := (mkF m 13 #[.val (.ref ar), .val (.double FP.dconst0), .second, .val (.ref ar), .val (.int (3 : Int32)), .val (.int (0 : Int32)), .unset, .unset] [(.int (0 : Int32))])) (fun _ k_ => XS.iload X0.here hx rfl (hb hby own_d1_11) rfl k_) ?_
  refine own_w (T' := s₁) (g' := (mkF m 15 #[.val (.ref ar), .val (.double FP.dconst0), .second, .val (.ref ar), .val (.int (3 : Int32)), .val (.int (0 : Int32)), .unset, .unset] [(.int (3 : Int32)), (.int (0 : Int32))])) (fun _ k_ => XS.iload X0.here hx rfl (hb hby own_d1_13) rfl k_) ?_
  refine own_w (T' := s₁) (g' := (mkF m 18 #[.val (.ref ar), .val (.double FP.dconst0), .second, .val (.ref ar), .val (.int (3 : Int32)), .val (.int (0 : Int32)), .unset, .unset] [])) (fun _ k_ => XS.icmpNo X0.here hx rfl (hb hby own_d1_15) rfl (tlt (by decide)).2.1 k_) ?_
  refine own_w (T' := s₁) (g' := (mkF m 19 #[.val (.ref ar), .val (.double FP.dconst0), .second, .val (.ref ar), .val (.int (3 : Int32)), .val (.int (0 : Int32)), .unset, .unset] [(.ref ar)])) (fun _ k_ => XS.aloadN X0.here hx rfl (hb hby own_d1_18) rfl rfl k_) ?_
  refine own_w (T' := s₁) (g' := (mkF m 21 #[.val (.ref ar), .val (.double FP.dconst0), .second, .val (.ref ar), .val (.int (3 : Int32)), .val (.int (0 : Int32)), .unset, .unset] [(.int (0 : Int32)), (.ref ar)])) (fun _ k_ => XS.iload X0.here hx rfl (hb hby own_d1_19) rfl k_) ?_
  obtain ⟨cl2, Ar2, hs2⟩ := id V
  refine own_w (T' := s₁) (g' := (mkF m 22 #[.val (.ref ar), .val (.double FP.dconst0), .second, .val (.ref ar), .val (.int (3 : Int32)), .val (.int (0 : Int32)), .unset, .unset] [(.double x0)])) (fun t_ k_ => X0.daload hx (j := (0 : Int32)) (v := .double x0) (by rw [e0]; exact Ar2.1) (State.isArrayOf_alike hZ.alike Ar2.2.1) Ar2.2.2 (own_ArD_in (i := 0) hs2 (by decide) (by simp)) (own_ArD_at (i := 0) hs2 (by decide) (show _ = some x0 from rfl)) (g := (mkF m 21 #[.val (.ref ar), .val (.double FP.dconst0), .second, .val (.ref ar), .val (.int (3 : Int32)), .val (.int (0 : Int32)), .unset, .unset] [(.int (0 : Int32)), (.ref ar)])) rfl rfl (hb hby own_d1_21) t_ k_) ?_
  refine own_w (T' := s₁) (g' := (mkF m 24 #[.val (.ref ar), .val (.double FP.dconst0), .second, .val (.ref ar), .val (.int (3 : Int32)), .val (.int (0 : Int32)), .val (.double x0), .second] [])) (fun _ k_ => XS.dstore X0.here hx rfl (hb hby own_d1_22) rfl (l' := #[.val (.ref ar), .val (.double FP.dconst0), .second, .val (.ref ar), .val (.int (3 : Int32)), .val (.int (0 : Int32)), .val (.double x0), .second]) rfl k_) ?_
  refine own_w (T' := s₁) (g' := (mkF m 25 #[.val (.ref ar), .val (.double FP.dconst0), .second, .val (.ref ar), .val (.int (3 : Int32)), .val (.int (0 : Int32)), .val (.double x0), .second] [(.double FP.dconst0)])) (fun _ k_ => XS.dloadN X0.here hx rfl (hb hby own_d1_24) rfl k_) ?_
  refine own_w (T' := s₁) (g' := (mkF m 27 #[.val (.ref ar), .val (.double FP.dconst0), .second, .val (.ref ar), .val (.int (3 : Int32)), .val (.int (0 : Int32)), .val (.double x0), .second] [(.double x0), (.double FP.dconst0)])) (fun _ k_ => XS.dload X0.here hx rfl (hb hby own_d1_25) rfl k_) ?_
  have cw3 : (Cond.code Jvm.Free.Fl.Abs.maxDN Jvm.Free.Fl.Abs.maxDCode 4 (some .double)).before a0 Z = true := by rw [← own_mxc]; exact (hw _ (List.mem_of_getElem? (i := 9) rfl))
  obtain ⟨T3, X3, e3, st3⟩ := natS X0 hx hZ (y := Jvm.Free.Fl.Abs.maxDN) hown (hw _ (List.mem_of_getElem? (i := 6) rfl)) (hw _ (List.mem_of_getElem? (i := 7) rfl)) (hw _ (List.mem_of_getElem? (i := 8) rfl)) cw3 (by decide) e0 (W := 0) (fun c_ => Jvm.Free.Fl.Abs.maxD_pays FP.dconst0 x0 c_ (by decide) (by decide)) (g := (mkF m 27 #[.val (.ref ar), .val (.double FP.dconst0), .second, .val (.ref ar), .val (.int (3 : Int32)), .val (.int (0 : Int32)), .val (.double x0), .second] [(.double x0), (.double FP.dconst0)])) rfl (by rw [hml]; rfl) (argsL := [(.double FP.dconst0), (.double x0)]) (rest := []) (lenOf own_pd0 rfl) rfl (by show 2 * 0 + _ ≤ _; exact Nat.le_of_eq rfl) (hb hby own_d1_27) (by decide) (by decide) ⟨rfl, own_n0, n_x0⟩ (congrArg Value.double (show _ = m0 from em0))
  refine own_w (T' := T3) (g' := (mkF m 30 #[.val (.ref ar), .val (.double FP.dconst0), .second, .val (.ref ar), .val (.int (3 : Int32)), .val (.int (0 : Int32)), .val (.double x0), .second] [(.double m0)])) st3 ?_
  refine own_w (T' := T3) (g' := (mkF m 31 #[.val (.ref ar), .val (.double m0), .second, .val (.ref ar), .val (.int (3 : Int32)), .val (.int (0 : Int32)), .val (.double x0), .second] [])) (fun _ k_ => XS.dstoreN X3.here hx rfl (hb hby own_d1_30) rfl (l' := #[.val (.ref ar), .val (.double m0), .second, .val (.ref ar), .val (.int (3 : Int32)), .val (.int (0 : Int32)), .val (.double x0), .second]) rfl k_) ?_
  refine own_w (T' := T3) (g' := (mkF m 34 #[.val (.ref ar), .val (.double m0), .second, .val (.ref ar), .val (.int (3 : Int32)), .val (.int (1 : Int32)), .val (.double x0), .second] [])) (fun _ k_ => XS.iinc X3.here hx rfl (hb hby own_d1_31) rfl (l' := #[.val (.ref ar), .val (.double m0), .second, .val (.ref ar), .val (.int (3 : Int32)), .val (.int (1 : Int32)), .val (.double x0), .second]) rfl k_) ?_
  refine own_w (T' := T3) (g' := (mkF m 11 #[.val (.ref ar), .val (.double m0), .second, .val (.ref ar), .val (.int (3 : Int32)), .val (.int (1 : Int32)), .val (.double x0), .second] [])) (fun _ k_ => XS.goto X3.here hx rfl (pc0 := 34) (pc' := 11) rfl (hb hby own_d1_34) (by decide) (by decide) k_) ?_
  refine own_w (T' := T3) (g' := (mkF m 13 #[.val (.ref ar), .val (.double m0), .second, .val (.ref ar), .val (.int (3 : Int32)), .val (.int (1 : Int32)), .val (.double x0), .second] [(.int (1 : Int32))])) (fun _ k_ => XS.iload X3.here hx rfl (hb hby own_d1_11) rfl k_) ?_
  refine own_w (T' := T3) (g' := (mkF m 15 #[.val (.ref ar), .val (.double m0), .second, .val (.ref ar), .val (.int (3 : Int32)), .val (.int (1 : Int32)), .val (.double x0), .second] [(.int (3 : Int32)), (.int (1 : Int32))])) (fun _ k_ => XS.iload X3.here hx rfl (hb hby own_d1_13) rfl k_) ?_
  refine own_w (T' := T3) (g' := (mkF m 18 #[.val (.ref ar), .val (.double m0), .second, .val (.ref ar), .val (.int (3 : Int32)), .val (.int (1 : Int32)), .val (.double x0), .second] [])) (fun _ k_ => XS.icmpNo X3.here hx rfl (hb hby own_d1_15) rfl (tlt (by decide)).2.1 k_) ?_
  refine own_w (T' := T3) (g' := (mkF m 19 #[.val (.ref ar), .val (.double m0), .second, .val (.ref ar), .val (.int (3 : Int32)), .val (.int (1 : Int32)), .val (.double x0), .second] [(.ref ar)])) (fun _ k_ => XS.aloadN X3.here hx rfl (hb hby own_d1_18) rfl rfl k_) ?_
  refine own_w (T' := T3) (g' := (mkF m 21 #[.val (.ref ar), .val (.double m0), .second, .val (.ref ar), .val (.int (3 : Int32)), .val (.int (1 : Int32)), .val (.double x0), .second] [(.int (1 : Int32)), (.ref ar)])) (fun _ k_ => XS.iload X3.here hx rfl (hb hby own_d1_19) rfl k_) ?_
  obtain ⟨cl4, Ar4, hs4⟩ := id V
  refine own_w (T' := T3) (g' := (mkF m 22 #[.val (.ref ar), .val (.double m0), .second, .val (.ref ar), .val (.int (3 : Int32)), .val (.int (1 : Int32)), .val (.double x0), .second] [(.double x1)])) (fun t_ k_ => X3.daload hx (j := (1 : Int32)) (v := .double x1) (by rw [e3]; exact Ar4.1) (State.isArrayOf_alike hZ.alike Ar4.2.1) Ar4.2.2 (own_ArD_in (i := 1) hs4 (by decide) (by simp)) (own_ArD_at (i := 1) hs4 (by decide) (show _ = some x1 from rfl)) (g := (mkF m 21 #[.val (.ref ar), .val (.double m0), .second, .val (.ref ar), .val (.int (3 : Int32)), .val (.int (1 : Int32)), .val (.double x0), .second] [(.int (1 : Int32)), (.ref ar)])) rfl rfl (hb hby own_d1_21) t_ k_) ?_
  refine own_w (T' := T3) (g' := (mkF m 24 #[.val (.ref ar), .val (.double m0), .second, .val (.ref ar), .val (.int (3 : Int32)), .val (.int (1 : Int32)), .val (.double x1), .second] [])) (fun _ k_ => XS.dstore X3.here hx rfl (hb hby own_d1_22) rfl (l' := #[.val (.ref ar), .val (.double m0), .second, .val (.ref ar), .val (.int (3 : Int32)), .val (.int (1 : Int32)), .val (.double x1), .second]) rfl k_) ?_
  refine own_w (T' := T3) (g' := (mkF m 25 #[.val (.ref ar), .val (.double m0), .second, .val (.ref ar), .val (.int (3 : Int32)), .val (.int (1 : Int32)), .val (.double x1), .second] [(.double m0)])) (fun _ k_ => XS.dloadN X3.here hx rfl (hb hby own_d1_24) rfl k_) ?_
  refine own_w (T' := T3) (g' := (mkF m 27 #[.val (.ref ar), .val (.double m0), .second, .val (.ref ar), .val (.int (3 : Int32)), .val (.int (1 : Int32)), .val (.double x1), .second] [(.double x1), (.double m0)])) (fun _ k_ => XS.dload X3.here hx rfl (hb hby own_d1_25) rfl k_) ?_
  have cw5 : (Cond.code Jvm.Free.Fl.Abs.maxDN Jvm.Free.Fl.Abs.maxDCode 4 (some .double)).before a0 Z = true := by rw [← own_mxc]; exact (hw _ (List.mem_of_getElem? (i := 9) rfl))
  obtain ⟨T5, X5, e5, st5⟩ := natS X3 hx hZ (y := Jvm.Free.Fl.Abs.maxDN) hown (hw _ (List.mem_of_getElem? (i := 6) rfl)) (hw _ (List.mem_of_getElem? (i := 7) rfl)) (hw _ (List.mem_of_getElem? (i := 8) rfl)) cw5 (by decide) e3 (W := 0) (fun c_ => Jvm.Free.Fl.Abs.maxD_pays m0 x1 c_ (by decide) (by decide)) (g := (mkF m 27 #[.val (.ref ar), .val (.double m0), .second, .val (.ref ar), .val (.int (3 : Int32)), .val (.int (1 : Int32)), .val (.double x1), .second] [(.double x1), (.double m0)])) rfl (by rw [hml]; rfl) (argsL := [(.double m0), (.double x1)]) (rest := []) (lenOf own_pd0 rfl) rfl (by show 2 * 0 + _ ≤ _; exact Nat.le_of_eq rfl) (hb hby own_d1_27) (by decide) (by decide) ⟨rfl, n_m0, n_x1⟩ (congrArg Value.double (show _ = m1 from em1))
  refine own_w (T' := T5) (g' := (mkF m 30 #[.val (.ref ar), .val (.double m0), .second, .val (.ref ar), .val (.int (3 : Int32)), .val (.int (1 : Int32)), .val (.double x1), .second] [(.double m1)])) st5 ?_
  refine own_w (T' := T5) (g' := (mkF m 31 #[.val (.ref ar), .val (.double m1), .second, .val (.ref ar), .val (.int (3 : Int32)), .val (.int (1 : Int32)), .val (.double x1), .second] [])) (fun _ k_ => XS.dstoreN X5.here hx rfl (hb hby own_d1_30) rfl (l' := #[.val (.ref ar), .val (.double m1), .second, .val (.ref ar), .val (.int (3 : Int32)), .val (.int (1 : Int32)), .val (.double x1), .second]) rfl k_) ?_
  refine own_w (T' := T5) (g' := (mkF m 34 #[.val (.ref ar), .val (.double m1), .second, .val (.ref ar), .val (.int (3 : Int32)), .val (.int (2 : Int32)), .val (.double x1), .second] [])) (fun _ k_ => XS.iinc X5.here hx rfl (hb hby own_d1_31) rfl (l' := #[.val (.ref ar), .val (.double m1), .second, .val (.ref ar), .val (.int (3 : Int32)), .val (.int (2 : Int32)), .val (.double x1), .second]) rfl k_) ?_
  refine own_w (T' := T5) (g' := (mkF m 11 #[.val (.ref ar), .val (.double m1), .second, .val (.ref ar), .val (.int (3 : Int32)), .val (.int (2 : Int32)), .val (.double x1), .second] [])) (fun _ k_ => XS.goto X5.here hx rfl (pc0 := 34) (pc' := 11) rfl (hb hby own_d1_34) (by decide) (by decide) k_) ?_
  refine own_w (T' := T5) (g' := (mkF m 13 #[.val (.ref ar), .val (.double m1), .second, .val (.ref ar), .val (.int (3 : Int32)), .val (.int (2 : Int32)), .val (.double x1), .second] [(.int (2 : Int32))])) (fun _ k_ => XS.iload X5.here hx rfl (hb hby own_d1_11) rfl k_) ?_
  refine own_w (T' := T5) (g' := (mkF m 15 #[.val (.ref ar), .val (.double m1), .second, .val (.ref ar), .val (.int (3 : Int32)), .val (.int (2 : Int32)), .val (.double x1), .second] [(.int (3 : Int32)), (.int (2 : Int32))])) (fun _ k_ => XS.iload X5.here hx rfl (hb hby own_d1_13) rfl k_) ?_
  refine own_w (T' := T5) (g' := (mkF m 18 #[.val (.ref ar), .val (.double m1), .second, .val (.ref ar), .val (.int (3 : Int32)), .val (.int (2 : Int32)), .val (.double x1), .second] [])) (fun _ k_ => XS.icmpNo X5.here hx rfl (hb hby own_d1_15) rfl (tlt (by decide)).2.1 k_) ?_
  refine own_w (T' := T5) (g' := (mkF m 19 #[.val (.ref ar), .val (.double m1), .second, .val (.ref ar), .val (.int (3 : Int32)), .val (.int (2 : Int32)), .val (.double x1), .second] [(.ref ar)])) (fun _ k_ => XS.aloadN X5.here hx rfl (hb hby own_d1_18) rfl rfl k_) ?_
  refine own_w (T' := T5) (g' := (mkF m 21 #[.val (.ref ar), .val (.double m1), .second, .val (.ref ar), .val (.int (3 : Int32)), .val (.int (2 : Int32)), .val (.double x1), .second] [(.int (2 : Int32)), (.ref ar)])) (fun _ k_ => XS.iload X5.here hx rfl (hb hby own_d1_19) rfl k_) ?_
  obtain ⟨cl6, Ar6, hs6⟩ := id V
  refine own_w (T' := T5) (g' := (mkF m 22 #[.val (.ref ar), .val (.double m1), .second, .val (.ref ar), .val (.int (3 : Int32)), .val (.int (2 : Int32)), .val (.double x1), .second] [(.double x2)])) (fun t_ k_ => X5.daload hx (j := (2 : Int32)) (v := .double x2) (by rw [e5]; exact Ar6.1) (State.isArrayOf_alike hZ.alike Ar6.2.1) Ar6.2.2 (own_ArD_in (i := 2) hs6 (by decide) (by simp)) (own_ArD_at (i := 2) hs6 (by decide) (show _ = some x2 from rfl)) (g := (mkF m 21 #[.val (.ref ar), .val (.double m1), .second, .val (.ref ar), .val (.int (3 : Int32)), .val (.int (2 : Int32)), .val (.double x1), .second] [(.int (2 : Int32)), (.ref ar)])) rfl rfl (hb hby own_d1_21) t_ k_) ?_
  refine own_w (T' := T5) (g' := (mkF m 24 #[.val (.ref ar), .val (.double m1), .second, .val (.ref ar), .val (.int (3 : Int32)), .val (.int (2 : Int32)), .val (.double x2), .second] [])) (fun _ k_ => XS.dstore X5.here hx rfl (hb hby own_d1_22) rfl (l' := #[.val (.ref ar), .val (.double m1), .second, .val (.ref ar), .val (.int (3 : Int32)), .val (.int (2 : Int32)), .val (.double x2), .second]) rfl k_) ?_
  refine own_w (T' := T5) (g' := (mkF m 25 #[.val (.ref ar), .val (.double m1), .second, .val (.ref ar), .val (.int (3 : Int32)), .val (.int (2 : Int32)), .val (.double x2), .second] [(.double m1)])) (fun _ k_ => XS.dloadN X5.here hx rfl (hb hby own_d1_24) rfl k_) ?_
  refine own_w (T' := T5) (g' := (mkF m 27 #[.val (.ref ar), .val (.double m1), .second, .val (.ref ar), .val (.int (3 : Int32)), .val (.int (2 : Int32)), .val (.double x2), .second] [(.double x2), (.double m1)])) (fun _ k_ => XS.dload X5.here hx rfl (hb hby own_d1_25) rfl k_) ?_
  have cw7 : (Cond.code Jvm.Free.Fl.Abs.maxDN Jvm.Free.Fl.Abs.maxDCode 4 (some .double)).before a0 Z = true := by rw [← own_mxc]; exact (hw _ (List.mem_of_getElem? (i := 9) rfl))
  obtain ⟨T7, X7, e7, st7⟩ := natS X5 hx hZ (y := Jvm.Free.Fl.Abs.maxDN) hown (hw _ (List.mem_of_getElem? (i := 6) rfl)) (hw _ (List.mem_of_getElem? (i := 7) rfl)) (hw _ (List.mem_of_getElem? (i := 8) rfl)) cw7 (by decide) e5 (W := 0) (fun c_ => Jvm.Free.Fl.Abs.maxD_pays m1 x2 c_ (by decide) (by decide)) (g := (mkF m 27 #[.val (.ref ar), .val (.double m1), .second, .val (.ref ar), .val (.int (3 : Int32)), .val (.int (2 : Int32)), .val (.double x2), .second] [(.double x2), (.double m1)])) rfl (by rw [hml]; rfl) (argsL := [(.double m1), (.double x2)]) (rest := []) (lenOf own_pd0 rfl) rfl (by show 2 * 0 + _ ≤ _; exact Nat.le_of_eq rfl) (hb hby own_d1_27) (by decide) (by decide) ⟨rfl, n_m1, n_x2⟩ (congrArg Value.double (show _ = m2 from em2))
  refine own_w (T' := T7) (g' := (mkF m 30 #[.val (.ref ar), .val (.double m1), .second, .val (.ref ar), .val (.int (3 : Int32)), .val (.int (2 : Int32)), .val (.double x2), .second] [(.double m2)])) st7 ?_
  refine own_w (T' := T7) (g' := (mkF m 31 #[.val (.ref ar), .val (.double m2), .second, .val (.ref ar), .val (.int (3 : Int32)), .val (.int (2 : Int32)), .val (.double x2), .second] [])) (fun _ k_ => XS.dstoreN X7.here hx rfl (hb hby own_d1_30) rfl (l' := #[.val (.ref ar), .val (.double m2), .second, .val (.ref ar), .val (.int (3 : Int32)), .val (.int (2 : Int32)), .val (.double x2), .second]) rfl k_) ?_
  refine own_w (T' := T7) (g' := (mkF m 34 #[.val (.ref ar), .val (.double m2), .second, .val (.ref ar), .val (.int (3 : Int32)), .val (.int (3 : Int32)), .val (.double x2), .second] [])) (fun _ k_ => XS.iinc X7.here hx rfl (hb hby own_d1_31) rfl (l' := #[.val (.ref ar), .val (.double m2), .second, .val (.ref ar), .val (.int (3 : Int32)), .val (.int (3 : Int32)), .val (.double x2), .second]) rfl k_) ?_
  refine own_w (T' := T7) (g' := (mkF m 11 #[.val (.ref ar), .val (.double m2), .second, .val (.ref ar), .val (.int (3 : Int32)), .val (.int (3 : Int32)), .val (.double x2), .second] [])) (fun _ k_ => XS.goto X7.here hx rfl (pc0 := 34) (pc' := 11) rfl (hb hby own_d1_34) (by decide) (by decide) k_) ?_
  refine own_w (T' := T7) (g' := (mkF m 13 #[.val (.ref ar), .val (.double m2), .second, .val (.ref ar), .val (.int (3 : Int32)), .val (.int (3 : Int32)), .val (.double x2), .second] [(.int (3 : Int32))])) (fun _ k_ => XS.iload X7.here hx rfl (hb hby own_d1_11) rfl k_) ?_
  refine own_w (T' := T7) (g' := (mkF m 15 #[.val (.ref ar), .val (.double m2), .second, .val (.ref ar), .val (.int (3 : Int32)), .val (.int (3 : Int32)), .val (.double x2), .second] [(.int (3 : Int32)), (.int (3 : Int32))])) (fun _ k_ => XS.iload X7.here hx rfl (hb hby own_d1_13) rfl k_) ?_
  refine own_w (T' := T7) (g' := (mkF m 37 #[.val (.ref ar), .val (.double m2), .second, .val (.ref ar), .val (.int (3 : Int32)), .val (.int (3 : Int32)), .val (.double x2), .second] [])) (fun _ k_ => XS.icmpYes X7.here hx rfl (pc0 := 15) (pc' := 37) rfl (hb hby own_d1_15) rfl (flt (by decide)).2.1 (by decide) (by decide) k_) ?_
  refine own_w (T' := T7) (g' := (mkF m 38 #[.val (.ref ar), .val (.double m2), .second, .val (.ref ar), .val (.int (3 : Int32)), .val (.int (3 : Int32)), .val (.double x2), .second] [(.double FP.dconst0)])) (fun _ k_ => XS.dconst0 X7.here hx rfl (hb hby own_d1_37) rfl k_) ?_
  refine own_w (T' := T7) (g' := (mkF m 39 #[.val (.ref ar), .val (.double m2), .second, .val (.double FP.dconst0), .second, .val (.int (3 : Int32)), .val (.double x2), .second] [])) (fun _ k_ => XS.dstoreN X7.here hx rfl (hb hby own_d1_38) rfl (l' := #[.val (.ref ar), .val (.double m2), .second, .val (.double FP.dconst0), .second, .val (.int (3 : Int32)), .val (.double x2), .second]) rfl k_) ?_
  refine own_w (T' := T7) (g' := (mkF m 40 #[.val (.ref ar), .val (.double m2), .second, .val (.double FP.dconst0), .second, .val (.int (3 : Int32)), .val (.double x2), .second] [(.int (0 : Int32))])) (fun _ k_ => XS.iconst X7.here hx rfl (hb hby own_d1_39) k_) ?_
  refine own_w (T' := T7) (g' := (mkF m 42 #[.val (.ref ar), .val (.double m2), .second, .val (.double FP.dconst0), .second, .val (.int (0 : Int32)), .val (.double x2), .second] [])) (fun _ k_ => XS.istore X7.here hx rfl (hb hby own_d1_40) rfl (l' := #[.val (.ref ar), .val (.double m2), .second, .val (.double FP.dconst0), .second, .val (.int (0 : Int32)), .val (.double x2), .second]) rfl k_) ?_
  refine own_w (T' := T7) (g' := (mkF m 44 #[.val (.ref ar), .val (.double m2), .second, .val (.double FP.dconst0), .second, .val (.int (0 : Int32)), .val (.double x2), .second] [(.int (0 : Int32))])) (fun _ k_ => XS.iload X7.here hx rfl (hb hby own_d1_42) rfl k_) ?_
  refine own_w (T' := T7) (g' := (mkF m 45 #[.val (.ref ar), .val (.double m2), .second, .val (.double FP.dconst0), .second, .val (.int (0 : Int32)), .val (.double x2), .second] [(.ref ar), (.int (0 : Int32))])) (fun _ k_ => XS.aloadN X7.here hx rfl (hb hby own_d1_44) rfl rfl k_) ?_
  obtain ⟨cl8, Ar8, hs8⟩ := id V
  have hl8 : cl8.slots.size.toInt32 = (3 : Int32) := by rw [hs8]; rfl
  refine own_w (T' := T7) (g' := (mkF m 46 #[.val (.ref ar), .val (.double m2), .second, .val (.double FP.dconst0), .second, .val (.int (0 : Int32)), .val (.double x2), .second] [(.int (3 : Int32)), (.int (0 : Int32))])) (fun t_ k_ => X7.arraylength hx (by rw [e7]; exact Ar8.1) (State.isArrayOf_alike hZ.alike Ar8.2.1) (g := (mkF m 45 #[.val (.ref ar), .val (.double m2), .second, .val (.double FP.dconst0), .second, .val (.int (0 : Int32)), .val (.double x2), .second] [(.ref ar), (.int (0 : Int32))])) rfl rfl (hb hby own_d1_45) t_ (by rw [hl8]; exact k_)) ?_
  refine own_w (T' := T7) (g' := (mkF m 49 #[.val (.ref ar), .val (.double m2), .second, .val (.double FP.dconst0), .second, .val (.int (0 : Int32)), .val (.double x2), .second] [])) (fun _ k_ => XS.icmpNo X7.here hx rfl (hb hby own_d1_46) rfl (tlt (by decide)).2.1 k_) ?_
  refine own_w (T' := T7) (g' := (mkF m 50 #[.val (.ref ar), .val (.double m2), .second, .val (.double FP.dconst0), .second, .val (.int (0 : Int32)), .val (.double x2), .second] [(.ref ar)])) (fun _ k_ => XS.aloadN X7.here hx rfl (hb hby own_d1_49) rfl rfl k_) ?_
  refine own_w (T' := T7) (g' := (mkF m 52 #[.val (.ref ar), .val (.double m2), .second, .val (.double FP.dconst0), .second, .val (.int (0 : Int32)), .val (.double x2), .second] [(.int (0 : Int32)), (.ref ar)])) (fun _ k_ => XS.iload X7.here hx rfl (hb hby own_d1_50) rfl k_) ?_
  refine own_w (T' := T7) (g' := (mkF m 53 #[.val (.ref ar), .val (.double m2), .second, .val (.double FP.dconst0), .second, .val (.int (0 : Int32)), .val (.double x2), .second] [(.int (0 : Int32)), (.ref ar), (.int (0 : Int32)), (.ref ar)])) (fun _ k_ => XT.dup2 X7.here hx rfl (hb hby own_d1_52) rfl rfl rfl k_) ?_
  obtain ⟨cl9, Ar9, hs9⟩ := id V
  refine own_w (T' := T7) (g' := (mkF m 54 #[.val (.ref ar), .val (.double m2), .second, .val (.double FP.dconst0), .second, .val (.int (0 : Int32)), .val (.double x2), .second] [(.double x0), (.int (0 : Int32)), (.ref ar)])) (fun t_ k_ => X7.daload hx (j := (0 : Int32)) (v := .double x0) (by rw [e7]; exact Ar9.1) (State.isArrayOf_alike hZ.alike Ar9.2.1) Ar9.2.2 (own_ArD_in (i := 0) hs9 (by decide) (by simp)) (own_ArD_at (i := 0) hs9 (by decide) (show _ = some x0 from rfl)) (g := (mkF m 53 #[.val (.ref ar), .val (.double m2), .second, .val (.double FP.dconst0), .second, .val (.int (0 : Int32)), .val (.double x2), .second] [(.int (0 : Int32)), (.ref ar), (.int (0 : Int32)), (.ref ar)])) rfl rfl (hb hby own_d1_53) t_ k_) ?_
  refine own_w (T' := T7) (g' := (mkF m 55 #[.val (.ref ar), .val (.double m2), .second, .val (.double FP.dconst0), .second, .val (.int (0 : Int32)), .val (.double x2), .second] [(.double m2), (.double x0), (.int (0 : Int32)), (.ref ar)])) (fun _ k_ => XS.dloadN X7.here hx rfl (hb hby own_d1_54) rfl k_) ?_
  refine own_w (T' := T7) (g' := (mkF m 56 #[.val (.ref ar), .val (.double m2), .second, .val (.double FP.dconst0), .second, .val (.int (0 : Int32)), .val (.double x2), .second] [(.double q0), (.int (0 : Int32)), (.ref ar)])) (fun _ k_ => XS.ddivS X7.here hx rfl (hb hby own_d1_55) rfl (eq0.symm ▸ n_q0) eq0 k_) ?_
  obtain ⟨cl10, Ar10, hs10⟩ := id V
  obtain ⟨T10, h10, X10, e10, W10, st10⟩ := stD X7 hx hZ e7 Ar10 (j := (0 : Int32)) (own_ArD_in (i := 0) hs10 (by decide) (by simp)) (g := (mkF m 56 #[.val (.ref ar), .val (.double m2), .second, .val (.double FP.dconst0), .second, .val (.int (0 : Int32)), .val (.double x2), .second] [(.double q0), (.int (0 : Int32)), (.ref ar)])) rfl rfl (hb hby own_d1_56)
  have V10 := own_ArD_set (i := 0) V W10 (by decide)
  have N10 := Fr.snoc X10 N0 g_ar
  have Z10 : n0 ≤ h10.size := Nat.le_trans Z0 (Keep.of_wr W10).1
  refine own_w (T' := T10) (g' := (mkF m 57 #[.val (.ref ar), .val (.double m2), .second, .val (.double FP.dconst0), .second, .val (.int (0 : Int32)), .val (.double x2), .second] [])) st10 ?_
  have K10 := (Keep.refl h0 [ar]).wr W10 (Or.inl (List.mem_singleton.mpr rfl))
  refine own_w (T' := T10) (g' := (mkF m 58 #[.val (.ref ar), .val (.double m2), .second, .val (.double FP.dconst0), .second, .val (.int (0 : Int32)), .val (.double x2), .second] [(.double FP.dconst0)])) (fun _ k_ => XS.dloadN X10.here hx rfl (hb hby own_d1_57) rfl k_) ?_
  refine own_w (T' := T10) (g' := (mkF m 59 #[.val (.ref ar), .val (.double m2), .second, .val (.double FP.dconst0), .second, .val (.int (0 : Int32)), .val (.double x2), .second] [(.ref ar), (.double FP.dconst0)])) (fun _ k_ => XS.aloadN X10.here hx rfl (hb hby own_d1_58) rfl rfl k_) ?_
  refine own_w (T' := T10) (g' := (mkF m 61 #[.val (.ref ar), .val (.double m2), .second, .val (.double FP.dconst0), .second, .val (.int (0 : Int32)), .val (.double x2), .second] [(.int (0 : Int32)), (.ref ar), (.double FP.dconst0)])) (fun _ k_ => XS.iload X10.here hx rfl (hb hby own_d1_59) rfl k_) ?_
  obtain ⟨cl11, Ar11, hs11⟩ := id V10
  refine own_w (T' := T10) (g' := (mkF m 62 #[.val (.ref ar), .val (.double m2), .second, .val (.double FP.dconst0), .second, .val (.int (0 : Int32)), .val (.double x2), .second] [(.double q0), (.double FP.dconst0)])) (fun t_ k_ => X10.daload hx (j := (0 : Int32)) (v := .double q0) (by rw [e10]; exact Ar11.1) (State.isArrayOf_alike hZ.alike Ar11.2.1) Ar11.2.2 (own_ArD_in (i := 0) hs11 (by decide) (by simp)) (own_ArD_at (i := 0) hs11 (by decide) (show _ = some q0 from rfl)) (g := (mkF m 61 #[.val (.ref ar), .val (.double m2), .second, .val (.double FP.dconst0), .second, .val (.int (0 : Int32)), .val (.double x2), .second] [(.int (0 : Int32)), (.ref ar), (.double FP.dconst0)])) rfl rfl (hb hby own_d1_61) t_ k_) ?_
  refine own_w (T' := T10) (g' := (mkF m 63 #[.val (.ref ar), .val (.double m2), .second, .val (.double FP.dconst0), .second, .val (.int (0 : Int32)), .val (.double x2), .second] [(.double s1)])) (fun _ k_ => XS.daddS X10.here hx rfl (hb hby own_d1_62) rfl (es1.symm ▸ n_s1) es1 k_) ?_
  refine own_w (T' := T10) (g' := (mkF m 64 #[.val (.ref ar), .val (.double m2), .second, .val (.double s1), .second, .val (.int (0 : Int32)), .val (.double x2), .second] [])) (fun _ k_ => XS.dstoreN X10.here hx rfl (hb hby own_d1_63) rfl (l' := #[.val (.ref ar), .val (.double m2), .second, .val (.double s1), .second, .val (.int (0 : Int32)), .val (.double x2), .second]) rfl k_) ?_
  refine own_w (T' := T10) (g' := (mkF m 67 #[.val (.ref ar), .val (.double m2), .second, .val (.double s1), .second, .val (.int (1 : Int32)), .val (.double x2), .second] [])) (fun _ k_ => XS.iinc X10.here hx rfl (hb hby own_d1_64) rfl (l' := #[.val (.ref ar), .val (.double m2), .second, .val (.double s1), .second, .val (.int (1 : Int32)), .val (.double x2), .second]) rfl k_) ?_
  refine own_w (T' := T10) (g' := (mkF m 42 #[.val (.ref ar), .val (.double m2), .second, .val (.double s1), .second, .val (.int (1 : Int32)), .val (.double x2), .second] [])) (fun _ k_ => XS.goto X10.here hx rfl (pc0 := 67) (pc' := 42) rfl (hb hby own_d1_67) (by decide) (by decide) k_) ?_
  refine own_w (T' := T10) (g' := (mkF m 44 #[.val (.ref ar), .val (.double m2), .second, .val (.double s1), .second, .val (.int (1 : Int32)), .val (.double x2), .second] [(.int (1 : Int32))])) (fun _ k_ => XS.iload X10.here hx rfl (hb hby own_d1_42) rfl k_) ?_
  refine own_w (T' := T10) (g' := (mkF m 45 #[.val (.ref ar), .val (.double m2), .second, .val (.double s1), .second, .val (.int (1 : Int32)), .val (.double x2), .second] [(.ref ar), (.int (1 : Int32))])) (fun _ k_ => XS.aloadN X10.here hx rfl (hb hby own_d1_44) rfl rfl k_) ?_
  obtain ⟨cl12, Ar12, hs12⟩ := id V10
  have hl12 : cl12.slots.size.toInt32 = (3 : Int32) := by rw [hs12]; rfl
  refine own_w (T' := T10) (g' := (mkF m 46 #[.val (.ref ar), .val (.double m2), .second, .val (.double s1), .second, .val (.int (1 : Int32)), .val (.double x2), .second] [(.int (3 : Int32)), (.int (1 : Int32))])) (fun t_ k_ => X10.arraylength hx (by rw [e10]; exact Ar12.1) (State.isArrayOf_alike hZ.alike Ar12.2.1) (g := (mkF m 45 #[.val (.ref ar), .val (.double m2), .second, .val (.double s1), .second, .val (.int (1 : Int32)), .val (.double x2), .second] [(.ref ar), (.int (1 : Int32))])) rfl rfl (hb hby own_d1_45) t_ (by rw [hl12]; exact k_)) ?_
  refine own_w (T' := T10) (g' := (mkF m 49 #[.val (.ref ar), .val (.double m2), .second, .val (.double s1), .second, .val (.int (1 : Int32)), .val (.double x2), .second] [])) (fun _ k_ => XS.icmpNo X10.here hx rfl (hb hby own_d1_46) rfl (tlt (by decide)).2.1 k_) ?_
  refine own_w (T' := T10) (g' := (mkF m 50 #[.val (.ref ar), .val (.double m2), .second, .val (.double s1), .second, .val (.int (1 : Int32)), .val (.double x2), .second] [(.ref ar)])) (fun _ k_ => XS.aloadN X10.here hx rfl (hb hby own_d1_49) rfl rfl k_) ?_
  refine own_w (T' := T10) (g' := (mkF m 52 #[.val (.ref ar), .val (.double m2), .second, .val (.double s1), .second, .val (.int (1 : Int32)), .val (.double x2), .second] [(.int (1 : Int32)), (.ref ar)])) (fun _ k_ => XS.iload X10.here hx rfl (hb hby own_d1_50) rfl k_) ?_
  refine own_w (T' := T10) (g' := (mkF m 53 #[.val (.ref ar), .val (.double m2), .second, .val (.double s1), .second, .val (.int (1 : Int32)), .val (.double x2), .second] [(.int (1 : Int32)), (.ref ar), (.int (1 : Int32)), (.ref ar)])) (fun _ k_ => XT.dup2 X10.here hx rfl (hb hby own_d1_52) rfl rfl rfl k_) ?_
  obtain ⟨cl13, Ar13, hs13⟩ := id V10
  refine own_w (T' := T10) (g' := (mkF m 54 #[.val (.ref ar), .val (.double m2), .second, .val (.double s1), .second, .val (.int (1 : Int32)), .val (.double x2), .second] [(.double x1), (.int (1 : Int32)), (.ref ar)])) (fun t_ k_ => X10.daload hx (j := (1 : Int32)) (v := .double x1) (by rw [e10]; exact Ar13.1) (State.isArrayOf_alike hZ.alike Ar13.2.1) Ar13.2.2 (own_ArD_in (i := 1) hs13 (by decide) (by simp)) (own_ArD_at (i := 1) hs13 (by decide) (show _ = some x1 from rfl)) (g := (mkF m 53 #[.val (.ref ar), .val (.double m2), .second, .val (.double s1), .second, .val (.int (1 : Int32)), .val (.double x2), .second] [(.int (1 : Int32)), (.ref ar), (.int (1 : Int32)), (.ref ar)])) rfl rfl (hb hby own_d1_53) t_ k_) ?_
  refine own_w (T' := T10) (g' := (mkF m 55 #[.val (.ref ar), .val (.double m2), .second, .val (.double s1), .second, .val (.int (1 : Int32)), .val (.double x2), .second] [(.double m2), (.double x1), (.int (1 : Int32)), (.ref ar)])) (fun _ k_ => XS.dloadN X10.here hx rfl (hb hby own_d1_54) rfl k_) ?_
  refine own_w (T' := T10) (g' := (mkF m 56 #[.val (.ref ar), .val (.double m2), .second, .val (.double s1), .second, .val (.int (1 : Int32)), .val (.double x2), .second] [(.double q1), (.int (1 : Int32)), (.ref ar)])) (fun _ k_ => XS.ddivS X10.here hx rfl (hb hby own_d1_55) rfl (eq1.symm ▸ n_q1) eq1 k_) ?_
  obtain ⟨cl14, Ar14, hs14⟩ := id V10
  obtain ⟨T14, h14, X14, e14, W14, st14⟩ := stD X10 hx hZ e10 Ar14 (j := (1 : Int32)) (own_ArD_in (i := 1) hs14 (by decide) (by simp)) (g := (mkF m 56 #[.val (.ref ar), .val (.double m2), .second, .val (.double s1), .second, .val (.int (1 : Int32)), .val (.double x2), .second] [(.double q1), (.int (1 : Int32)), (.ref ar)])) rfl rfl (hb hby own_d1_56)
  have V14 := own_ArD_set (i := 1) V10 W14 (by decide)
  have N14 := Fr.snoc X14 N10 g_ar
  have Z14 : n0 ≤ h14.size := Nat.le_trans Z10 (Keep.of_wr W14).1
  refine own_w (T' := T14) (g' := (mkF m 57 #[.val (.ref ar), .val (.double m2), .second, .val (.double s1), .second, .val (.int (1 : Int32)), .val (.double x2), .second] [])) st14 ?_
  have K14 := K10.wr W14 (Or.inl (List.mem_singleton.mpr rfl))
  refine own_w (T' := T14) (g' := (mkF m 58 #[.val (.ref ar), .val (.double m2), .second, .val (.double s1), .second, .val (.int (1 : Int32)), .val (.double x2), .second] [(.double s1)])) (fun _ k_ => XS.dloadN X14.here hx rfl (hb hby own_d1_57) rfl k_) ?_
  refine own_w (T' := T14) (g' := (mkF m 59 #[.val (.ref ar), .val (.double m2), .second, .val (.double s1), .second, .val (.int (1 : Int32)), .val (.double x2), .second] [(.ref ar), (.double s1)])) (fun _ k_ => XS.aloadN X14.here hx rfl (hb hby own_d1_58) rfl rfl k_) ?_
  refine own_w (T' := T14) (g' := (mkF m 61 #[.val (.ref ar), .val (.double m2), .second, .val (.double s1), .second, .val (.int (1 : Int32)), .val (.double x2), .second] [(.int (1 : Int32)), (.ref ar), (.double s1)])) (fun _ k_ => XS.iload X14.here hx rfl (hb hby own_d1_59) rfl k_) ?_
  obtain ⟨cl15, Ar15, hs15⟩ := id V14
  refine own_w (T' := T14) (g' := (mkF m 62 #[.val (.ref ar), .val (.double m2), .second, .val (.double s1), .second, .val (.int (1 : Int32)), .val (.double x2), .second] [(.double q1), (.double s1)])) (fun t_ k_ => X14.daload hx (j := (1 : Int32)) (v := .double q1) (by rw [e14]; exact Ar15.1) (State.isArrayOf_alike hZ.alike Ar15.2.1) Ar15.2.2 (own_ArD_in (i := 1) hs15 (by decide) (by simp)) (own_ArD_at (i := 1) hs15 (by decide) (show _ = some q1 from rfl)) (g := (mkF m 61 #[.val (.ref ar), .val (.double m2), .second, .val (.double s1), .second, .val (.int (1 : Int32)), .val (.double x2), .second] [(.int (1 : Int32)), (.ref ar), (.double s1)])) rfl rfl (hb hby own_d1_61) t_ k_) ?_
  refine own_w (T' := T14) (g' := (mkF m 63 #[.val (.ref ar), .val (.double m2), .second, .val (.double s1), .second, .val (.int (1 : Int32)), .val (.double x2), .second] [(.double s2)])) (fun _ k_ => XS.daddS X14.here hx rfl (hb hby own_d1_62) rfl (es2.symm ▸ n_s2) es2 k_) ?_
  refine own_w (T' := T14) (g' := (mkF m 64 #[.val (.ref ar), .val (.double m2), .second, .val (.double s2), .second, .val (.int (1 : Int32)), .val (.double x2), .second] [])) (fun _ k_ => XS.dstoreN X14.here hx rfl (hb hby own_d1_63) rfl (l' := #[.val (.ref ar), .val (.double m2), .second, .val (.double s2), .second, .val (.int (1 : Int32)), .val (.double x2), .second]) rfl k_) ?_
  refine own_w (T' := T14) (g' := (mkF m 67 #[.val (.ref ar), .val (.double m2), .second, .val (.double s2), .second, .val (.int (2 : Int32)), .val (.double x2), .second] [])) (fun _ k_ => XS.iinc X14.here hx rfl (hb hby own_d1_64) rfl (l' := #[.val (.ref ar), .val (.double m2), .second, .val (.double s2), .second, .val (.int (2 : Int32)), .val (.double x2), .second]) rfl k_) ?_
  refine own_w (T' := T14) (g' := (mkF m 42 #[.val (.ref ar), .val (.double m2), .second, .val (.double s2), .second, .val (.int (2 : Int32)), .val (.double x2), .second] [])) (fun _ k_ => XS.goto X14.here hx rfl (pc0 := 67) (pc' := 42) rfl (hb hby own_d1_67) (by decide) (by decide) k_) ?_
  refine own_w (T' := T14) (g' := (mkF m 44 #[.val (.ref ar), .val (.double m2), .second, .val (.double s2), .second, .val (.int (2 : Int32)), .val (.double x2), .second] [(.int (2 : Int32))])) (fun _ k_ => XS.iload X14.here hx rfl (hb hby own_d1_42) rfl k_) ?_
  refine own_w (T' := T14) (g' := (mkF m 45 #[.val (.ref ar), .val (.double m2), .second, .val (.double s2), .second, .val (.int (2 : Int32)), .val (.double x2), .second] [(.ref ar), (.int (2 : Int32))])) (fun _ k_ => XS.aloadN X14.here hx rfl (hb hby own_d1_44) rfl rfl k_) ?_
  obtain ⟨cl16, Ar16, hs16⟩ := id V14
  have hl16 : cl16.slots.size.toInt32 = (3 : Int32) := by rw [hs16]; rfl
  refine own_w (T' := T14) (g' := (mkF m 46 #[.val (.ref ar), .val (.double m2), .second, .val (.double s2), .second, .val (.int (2 : Int32)), .val (.double x2), .second] [(.int (3 : Int32)), (.int (2 : Int32))])) (fun t_ k_ => X14.arraylength hx (by rw [e14]; exact Ar16.1) (State.isArrayOf_alike hZ.alike Ar16.2.1) (g := (mkF m 45 #[.val (.ref ar), .val (.double m2), .second, .val (.double s2), .second, .val (.int (2 : Int32)), .val (.double x2), .second] [(.ref ar), (.int (2 : Int32))])) rfl rfl (hb hby own_d1_45) t_ (by rw [hl16]; exact k_)) ?_
  refine own_w (T' := T14) (g' := (mkF m 49 #[.val (.ref ar), .val (.double m2), .second, .val (.double s2), .second, .val (.int (2 : Int32)), .val (.double x2), .second] [])) (fun _ k_ => XS.icmpNo X14.here hx rfl (hb hby own_d1_46) rfl (tlt (by decide)).2.1 k_) ?_
  refine own_w (T' := T14) (g' := (mkF m 50 #[.val (.ref ar), .val (.double m2), .second, .val (.double s2), .second, .val (.int (2 : Int32)), .val (.double x2), .second] [(.ref ar)])) (fun _ k_ => XS.aloadN X14.here hx rfl (hb hby own_d1_49) rfl rfl k_) ?_
  refine own_w (T' := T14) (g' := (mkF m 52 #[.val (.ref ar), .val (.double m2), .second, .val (.double s2), .second, .val (.int (2 : Int32)), .val (.double x2), .second] [(.int (2 : Int32)), (.ref ar)])) (fun _ k_ => XS.iload X14.here hx rfl (hb hby own_d1_50) rfl k_) ?_
  refine own_w (T' := T14) (g' := (mkF m 53 #[.val (.ref ar), .val (.double m2), .second, .val (.double s2), .second, .val (.int (2 : Int32)), .val (.double x2), .second] [(.int (2 : Int32)), (.ref ar), (.int (2 : Int32)), (.ref ar)])) (fun _ k_ => XT.dup2 X14.here hx rfl (hb hby own_d1_52) rfl rfl rfl k_) ?_
  obtain ⟨cl17, Ar17, hs17⟩ := id V14
  refine own_w (T' := T14) (g' := (mkF m 54 #[.val (.ref ar), .val (.double m2), .second, .val (.double s2), .second, .val (.int (2 : Int32)), .val (.double x2), .second] [(.double x2), (.int (2 : Int32)), (.ref ar)])) (fun t_ k_ => X14.daload hx (j := (2 : Int32)) (v := .double x2) (by rw [e14]; exact Ar17.1) (State.isArrayOf_alike hZ.alike Ar17.2.1) Ar17.2.2 (own_ArD_in (i := 2) hs17 (by decide) (by simp)) (own_ArD_at (i := 2) hs17 (by decide) (show _ = some x2 from rfl)) (g := (mkF m 53 #[.val (.ref ar), .val (.double m2), .second, .val (.double s2), .second, .val (.int (2 : Int32)), .val (.double x2), .second] [(.int (2 : Int32)), (.ref ar), (.int (2 : Int32)), (.ref ar)])) rfl rfl (hb hby own_d1_53) t_ k_) ?_
  refine own_w (T' := T14) (g' := (mkF m 55 #[.val (.ref ar), .val (.double m2), .second, .val (.double s2), .second, .val (.int (2 : Int32)), .val (.double x2), .second] [(.double m2), (.double x2), (.int (2 : Int32)), (.ref ar)])) (fun _ k_ => XS.dloadN X14.here hx rfl (hb hby own_d1_54) rfl k_) ?_
  refine own_w (T' := T14) (g' := (mkF m 56 #[.val (.ref ar), .val (.double m2), .second, .val (.double s2), .second, .val (.int (2 : Int32)), .val (.double x2), .second] [(.double q2), (.int (2 : Int32)), (.ref ar)])) (fun _ k_ => XS.ddivS X14.here hx rfl (hb hby own_d1_55) rfl (eq2.symm ▸ n_q2) eq2 k_) ?_
  obtain ⟨cl18, Ar18, hs18⟩ := id V14
  obtain ⟨T18, h18, X18, e18, W18, st18⟩ := stD X14 hx hZ e14 Ar18 (j := (2 : Int32)) (own_ArD_in (i := 2) hs18 (by decide) (by simp)) (g := (mkF m 56 #[.val (.ref ar), .val (.double m2), .second, .val (.double s2), .second, .val (.int (2 : Int32)), .val (.double x2), .second] [(.double q2), (.int (2 : Int32)), (.ref ar)])) rfl rfl (hb hby own_d1_56)
  have V18 := own_ArD_set (i := 2) V14 W18 (by decide)
  have N18 := Fr.snoc X18 N14 g_ar
  have Z18 : n0 ≤ h18.size := Nat.le_trans Z14 (Keep.of_wr W18).1
  refine own_w (T' := T18) (g' := (mkF m 57 #[.val (.ref ar), .val (.double m2), .second, .val (.double s2), .second, .val (.int (2 : Int32)), .val (.double x2), .second] [])) st18 ?_
  have K18 := K14.wr W18 (Or.inl (List.mem_singleton.mpr rfl))
  refine own_w (T' := T18) (g' := (mkF m 58 #[.val (.ref ar), .val (.double m2), .second, .val (.double s2), .second, .val (.int (2 : Int32)), .val (.double x2), .second] [(.double s2)])) (fun _ k_ => XS.dloadN X18.here hx rfl (hb hby own_d1_57) rfl k_) ?_
  refine own_w (T' := T18) (g' := (mkF m 59 #[.val (.ref ar), .val (.double m2), .second, .val (.double s2), .second, .val (.int (2 : Int32)), .val (.double x2), .second] [(.ref ar), (.double s2)])) (fun _ k_ => XS.aloadN X18.here hx rfl (hb hby own_d1_58) rfl rfl k_) ?_
  refine own_w (T' := T18) (g' := (mkF m 61 #[.val (.ref ar), .val (.double m2), .second, .val (.double s2), .second, .val (.int (2 : Int32)), .val (.double x2), .second] [(.int (2 : Int32)), (.ref ar), (.double s2)])) (fun _ k_ => XS.iload X18.here hx rfl (hb hby own_d1_59) rfl k_) ?_
  obtain ⟨cl19, Ar19, hs19⟩ := id V18
  refine own_w (T' := T18) (g' := (mkF m 62 #[.val (.ref ar), .val (.double m2), .second, .val (.double s2), .second, .val (.int (2 : Int32)), .val (.double x2), .second] [(.double q2), (.double s2)])) (fun t_ k_ => X18.daload hx (j := (2 : Int32)) (v := .double q2) (by rw [e18]; exact Ar19.1) (State.isArrayOf_alike hZ.alike Ar19.2.1) Ar19.2.2 (own_ArD_in (i := 2) hs19 (by decide) (by simp)) (own_ArD_at (i := 2) hs19 (by decide) (show _ = some q2 from rfl)) (g := (mkF m 61 #[.val (.ref ar), .val (.double m2), .second, .val (.double s2), .second, .val (.int (2 : Int32)), .val (.double x2), .second] [(.int (2 : Int32)), (.ref ar), (.double s2)])) rfl rfl (hb hby own_d1_61) t_ k_) ?_
  refine own_w (T' := T18) (g' := (mkF m 63 #[.val (.ref ar), .val (.double m2), .second, .val (.double s2), .second, .val (.int (2 : Int32)), .val (.double x2), .second] [(.double s3)])) (fun _ k_ => XS.daddS X18.here hx rfl (hb hby own_d1_62) rfl (es3.symm ▸ n_s3) es3 k_) ?_
  refine own_w (T' := T18) (g' := (mkF m 64 #[.val (.ref ar), .val (.double m2), .second, .val (.double s3), .second, .val (.int (2 : Int32)), .val (.double x2), .second] [])) (fun _ k_ => XS.dstoreN X18.here hx rfl (hb hby own_d1_63) rfl (l' := #[.val (.ref ar), .val (.double m2), .second, .val (.double s3), .second, .val (.int (2 : Int32)), .val (.double x2), .second]) rfl k_) ?_
  refine own_w (T' := T18) (g' := (mkF m 67 #[.val (.ref ar), .val (.double m2), .second, .val (.double s3), .second, .val (.int (3 : Int32)), .val (.double x2), .second] [])) (fun _ k_ => XS.iinc X18.here hx rfl (hb hby own_d1_64) rfl (l' := #[.val (.ref ar), .val (.double m2), .second, .val (.double s3), .second, .val (.int (3 : Int32)), .val (.double x2), .second]) rfl k_) ?_
  refine own_w (T' := T18) (g' := (mkF m 42 #[.val (.ref ar), .val (.double m2), .second, .val (.double s3), .second, .val (.int (3 : Int32)), .val (.double x2), .second] [])) (fun _ k_ => XS.goto X18.here hx rfl (pc0 := 67) (pc' := 42) rfl (hb hby own_d1_67) (by decide) (by decide) k_) ?_
  refine own_w (T' := T18) (g' := (mkF m 44 #[.val (.ref ar), .val (.double m2), .second, .val (.double s3), .second, .val (.int (3 : Int32)), .val (.double x2), .second] [(.int (3 : Int32))])) (fun _ k_ => XS.iload X18.here hx rfl (hb hby own_d1_42) rfl k_) ?_
  refine own_w (T' := T18) (g' := (mkF m 45 #[.val (.ref ar), .val (.double m2), .second, .val (.double s3), .second, .val (.int (3 : Int32)), .val (.double x2), .second] [(.ref ar), (.int (3 : Int32))])) (fun _ k_ => XS.aloadN X18.here hx rfl (hb hby own_d1_44) rfl rfl k_) ?_
  obtain ⟨cl20, Ar20, hs20⟩ := id V18
  have hl20 : cl20.slots.size.toInt32 = (3 : Int32) := by rw [hs20]; rfl
  refine own_w (T' := T18) (g' := (mkF m 46 #[.val (.ref ar), .val (.double m2), .second, .val (.double s3), .second, .val (.int (3 : Int32)), .val (.double x2), .second] [(.int (3 : Int32)), (.int (3 : Int32))])) (fun t_ k_ => X18.arraylength hx (by rw [e18]; exact Ar20.1) (State.isArrayOf_alike hZ.alike Ar20.2.1) (g := (mkF m 45 #[.val (.ref ar), .val (.double m2), .second, .val (.double s3), .second, .val (.int (3 : Int32)), .val (.double x2), .second] [(.ref ar), (.int (3 : Int32))])) rfl rfl (hb hby own_d1_45) t_ (by rw [hl20]; exact k_)) ?_
  refine own_w (T' := T18) (g' := (mkF m 70 #[.val (.ref ar), .val (.double m2), .second, .val (.double s3), .second, .val (.int (3 : Int32)), .val (.double x2), .second] [])) (fun _ k_ => XS.icmpYes X18.here hx rfl (pc0 := 46) (pc' := 70) rfl (hb hby own_d1_46) rfl (flt (by decide)).2.1 (by decide) (by decide) k_) ?_
  refine own_w (T' := T18) (g' := (mkF m 71 #[.val (.ref ar), .val (.double m2), .second, .val (.double s3), .second, .val (.int (3 : Int32)), .val (.double x2), .second] [(.int (0 : Int32))])) (fun _ k_ => XS.iconst X18.here hx rfl (hb hby own_d1_70) k_) ?_
  refine own_w (T' := T18) (g' := (mkF m 73 #[.val (.ref ar), .val (.double m2), .second, .val (.double s3), .second, .val (.int (0 : Int32)), .val (.double x2), .second] [])) (fun _ k_ => XS.istore X18.here hx rfl (hb hby own_d1_71) rfl (l' := #[.val (.ref ar), .val (.double m2), .second, .val (.double s3), .second, .val (.int (0 : Int32)), .val (.double x2), .second]) rfl k_) ?_
  refine own_w (T' := T18) (g' := (mkF m 75 #[.val (.ref ar), .val (.double m2), .second, .val (.double s3), .second, .val (.int (0 : Int32)), .val (.double x2), .second] [(.int (0 : Int32))])) (fun _ k_ => XS.iload X18.here hx rfl (hb hby own_d1_73) rfl k_) ?_
  refine own_w (T' := T18) (g' := (mkF m 76 #[.val (.ref ar), .val (.double m2), .second, .val (.double s3), .second, .val (.int (0 : Int32)), .val (.double x2), .second] [(.ref ar), (.int (0 : Int32))])) (fun _ k_ => XS.aloadN X18.here hx rfl (hb hby own_d1_75) rfl rfl k_) ?_
  obtain ⟨cl21, Ar21, hs21⟩ := id V18
  have hl21 : cl21.slots.size.toInt32 = (3 : Int32) := by rw [hs21]; rfl
  refine own_w (T' := T18) (g' := (mkF m 77 #[.val (.ref ar), .val (.double m2), .second, .val (.double s3), .second, .val (.int (0 : Int32)), .val (.double x2), .second] [(.int (3 : Int32)), (.int (0 : Int32))])) (fun t_ k_ => X18.arraylength hx (by rw [e18]; exact Ar21.1) (State.isArrayOf_alike hZ.alike Ar21.2.1) (g := (mkF m 76 #[.val (.ref ar), .val (.double m2), .second, .val (.double s3), .second, .val (.int (0 : Int32)), .val (.double x2), .second] [(.ref ar), (.int (0 : Int32))])) rfl rfl (hb hby own_d1_76) t_ (by rw [hl21]; exact k_)) ?_
  refine own_w (T' := T18) (g' := (mkF m 80 #[.val (.ref ar), .val (.double m2), .second, .val (.double s3), .second, .val (.int (0 : Int32)), .val (.double x2), .second] [])) (fun _ k_ => XS.icmpNo X18.here hx rfl (hb hby own_d1_77) rfl (tlt (by decide)).2.1 k_) ?_
  refine own_w (T' := T18) (g' := (mkF m 81 #[.val (.ref ar), .val (.double m2), .second, .val (.double s3), .second, .val (.int (0 : Int32)), .val (.double x2), .second] [(.ref ar)])) (fun _ k_ => XS.aloadN X18.here hx rfl (hb hby own_d1_80) rfl rfl k_) ?_
  refine own_w (T' := T18) (g' := (mkF m 83 #[.val (.ref ar), .val (.double m2), .second, .val (.double s3), .second, .val (.int (0 : Int32)), .val (.double x2), .second] [(.int (0 : Int32)), (.ref ar)])) (fun _ k_ => XS.iload X18.here hx rfl (hb hby own_d1_81) rfl k_) ?_
  refine own_w (T' := T18) (g' := (mkF m 84 #[.val (.ref ar), .val (.double m2), .second, .val (.double s3), .second, .val (.int (0 : Int32)), .val (.double x2), .second] [(.int (0 : Int32)), (.ref ar), (.int (0 : Int32)), (.ref ar)])) (fun _ k_ => XT.dup2 X18.here hx rfl (hb hby own_d1_83) rfl rfl rfl k_) ?_
  obtain ⟨cl22, Ar22, hs22⟩ := id V18
  refine own_w (T' := T18) (g' := (mkF m 85 #[.val (.ref ar), .val (.double m2), .second, .val (.double s3), .second, .val (.int (0 : Int32)), .val (.double x2), .second] [(.double q0), (.int (0 : Int32)), (.ref ar)])) (fun t_ k_ => X18.daload hx (j := (0 : Int32)) (v := .double q0) (by rw [e18]; exact Ar22.1) (State.isArrayOf_alike hZ.alike Ar22.2.1) Ar22.2.2 (own_ArD_in (i := 0) hs22 (by decide) (by simp)) (own_ArD_at (i := 0) hs22 (by decide) (show _ = some q0 from rfl)) (g := (mkF m 84 #[.val (.ref ar), .val (.double m2), .second, .val (.double s3), .second, .val (.int (0 : Int32)), .val (.double x2), .second] [(.int (0 : Int32)), (.ref ar), (.int (0 : Int32)), (.ref ar)])) rfl rfl (hb hby own_d1_84) t_ k_) ?_
  refine own_w (T' := T18) (g' := (mkF m 86 #[.val (.ref ar), .val (.double m2), .second, .val (.double s3), .second, .val (.int (0 : Int32)), .val (.double x2), .second] [(.double s3), (.double q0), (.int (0 : Int32)), (.ref ar)])) (fun _ k_ => XS.dloadN X18.here hx rfl (hb hby own_d1_85) rfl k_) ?_
  refine own_w (T' := T18) (g' := (mkF m 87 #[.val (.ref ar), .val (.double m2), .second, .val (.double s3), .second, .val (.int (0 : Int32)), .val (.double x2), .second] [(.double r0), (.int (0 : Int32)), (.ref ar)])) (fun _ k_ => XS.ddivS X18.here hx rfl (hb hby own_d1_86) rfl (er0.symm ▸ n_r0) er0 k_) ?_
  obtain ⟨cl23, Ar23, hs23⟩ := id V18
  obtain ⟨T23, h23, X23, e23, W23, st23⟩ := stD X18 hx hZ e18 Ar23 (j := (0 : Int32)) (own_ArD_in (i := 0) hs23 (by decide) (by simp)) (g := (mkF m 87 #[.val (.ref ar), .val (.double m2), .second, .val (.double s3), .second, .val (.int (0 : Int32)), .val (.double x2), .second] [(.double r0), (.int (0 : Int32)), (.ref ar)])) rfl rfl (hb hby own_d1_87)
  have V23 := own_ArD_set (i := 0) V18 W23 (by decide)
  have N23 := Fr.snoc X23 N18 g_ar
  have Z23 : n0 ≤ h23.size := Nat.le_trans Z18 (Keep.of_wr W23).1
  refine own_w (T' := T23) (g' := (mkF m 88 #[.val (.ref ar), .val (.double m2), .second, .val (.double s3), .second, .val (.int (0 : Int32)), .val (.double x2), .second] [])) st23 ?_
  have K23 := K18.wr W23 (Or.inl (List.mem_singleton.mpr rfl))
  refine own_w (T' := T23) (g' := (mkF m 91 #[.val (.ref ar), .val (.double m2), .second, .val (.double s3), .second, .val (.int (1 : Int32)), .val (.double x2), .second] [])) (fun _ k_ => XS.iinc X23.here hx rfl (hb hby own_d1_88) rfl (l' := #[.val (.ref ar), .val (.double m2), .second, .val (.double s3), .second, .val (.int (1 : Int32)), .val (.double x2), .second]) rfl k_) ?_
  refine own_w (T' := T23) (g' := (mkF m 73 #[.val (.ref ar), .val (.double m2), .second, .val (.double s3), .second, .val (.int (1 : Int32)), .val (.double x2), .second] [])) (fun _ k_ => XS.goto X23.here hx rfl (pc0 := 91) (pc' := 73) rfl (hb hby own_d1_91) (by decide) (by decide) k_) ?_
  refine own_w (T' := T23) (g' := (mkF m 75 #[.val (.ref ar), .val (.double m2), .second, .val (.double s3), .second, .val (.int (1 : Int32)), .val (.double x2), .second] [(.int (1 : Int32))])) (fun _ k_ => XS.iload X23.here hx rfl (hb hby own_d1_73) rfl k_) ?_
  refine own_w (T' := T23) (g' := (mkF m 76 #[.val (.ref ar), .val (.double m2), .second, .val (.double s3), .second, .val (.int (1 : Int32)), .val (.double x2), .second] [(.ref ar), (.int (1 : Int32))])) (fun _ k_ => XS.aloadN X23.here hx rfl (hb hby own_d1_75) rfl rfl k_) ?_
  obtain ⟨cl24, Ar24, hs24⟩ := id V23
  have hl24 : cl24.slots.size.toInt32 = (3 : Int32) := by rw [hs24]; rfl
  refine own_w (T' := T23) (g' := (mkF m 77 #[.val (.ref ar), .val (.double m2), .second, .val (.double s3), .second, .val (.int (1 : Int32)), .val (.double x2), .second] [(.int (3 : Int32)), (.int (1 : Int32))])) (fun t_ k_ => X23.arraylength hx (by rw [e23]; exact Ar24.1) (State.isArrayOf_alike hZ.alike Ar24.2.1) (g := (mkF m 76 #[.val (.ref ar), .val (.double m2), .second, .val (.double s3), .second, .val (.int (1 : Int32)), .val (.double x2), .second] [(.ref ar), (.int (1 : Int32))])) rfl rfl (hb hby own_d1_76) t_ (by rw [hl24]; exact k_)) ?_
  refine own_w (T' := T23) (g' := (mkF m 80 #[.val (.ref ar), .val (.double m2), .second, .val (.double s3), .second, .val (.int (1 : Int32)), .val (.double x2), .second] [])) (fun _ k_ => XS.icmpNo X23.here hx rfl (hb hby own_d1_77) rfl (tlt (by decide)).2.1 k_) ?_
  refine own_w (T' := T23) (g' := (mkF m 81 #[.val (.ref ar), .val (.double m2), .second, .val (.double s3), .second, .val (.int (1 : Int32)), .val (.double x2), .second] [(.ref ar)])) (fun _ k_ => XS.aloadN X23.here hx rfl (hb hby own_d1_80) rfl rfl k_) ?_
  refine own_w (T' := T23) (g' := (mkF m 83 #[.val (.ref ar), .val (.double m2), .second, .val (.double s3), .second, .val (.int (1 : Int32)), .val (.double x2), .second] [(.int (1 : Int32)), (.ref ar)])) (fun _ k_ => XS.iload X23.here hx rfl (hb hby own_d1_81) rfl k_) ?_
  refine own_w (T' := T23) (g' := (mkF m 84 #[.val (.ref ar), .val (.double m2), .second, .val (.double s3), .second, .val (.int (1 : Int32)), .val (.double x2), .second] [(.int (1 : Int32)), (.ref ar), (.int (1 : Int32)), (.ref ar)])) (fun _ k_ => XT.dup2 X23.here hx rfl (hb hby own_d1_83) rfl rfl rfl k_) ?_
  obtain ⟨cl25, Ar25, hs25⟩ := id V23
  refine own_w (T' := T23) (g' := (mkF m 85 #[.val (.ref ar), .val (.double m2), .second, .val (.double s3), .second, .val (.int (1 : Int32)), .val (.double x2), .second] [(.double q1), (.int (1 : Int32)), (.ref ar)])) (fun t_ k_ => X23.daload hx (j := (1 : Int32)) (v := .double q1) (by rw [e23]; exact Ar25.1) (State.isArrayOf_alike hZ.alike Ar25.2.1) Ar25.2.2 (own_ArD_in (i := 1) hs25 (by decide) (by simp)) (own_ArD_at (i := 1) hs25 (by decide) (show _ = some q1 from rfl)) (g := (mkF m 84 #[.val (.ref ar), .val (.double m2), .second, .val (.double s3), .second, .val (.int (1 : Int32)), .val (.double x2), .second] [(.int (1 : Int32)), (.ref ar), (.int (1 : Int32)), (.ref ar)])) rfl rfl (hb hby own_d1_84) t_ k_) ?_
  refine own_w (T' := T23) (g' := (mkF m 86 #[.val (.ref ar), .val (.double m2), .second, .val (.double s3), .second, .val (.int (1 : Int32)), .val (.double x2), .second] [(.double s3), (.double q1), (.int (1 : Int32)), (.ref ar)])) (fun _ k_ => XS.dloadN X23.here hx rfl (hb hby own_d1_85) rfl k_) ?_
  refine own_w (T' := T23) (g' := (mkF m 87 #[.val (.ref ar), .val (.double m2), .second, .val (.double s3), .second, .val (.int (1 : Int32)), .val (.double x2), .second] [(.double r1), (.int (1 : Int32)), (.ref ar)])) (fun _ k_ => XS.ddivS X23.here hx rfl (hb hby own_d1_86) rfl (er1.symm ▸ n_r1) er1 k_) ?_
  obtain ⟨cl26, Ar26, hs26⟩ := id V23
  obtain ⟨T26, h26, X26, e26, W26, st26⟩ := stD X23 hx hZ e23 Ar26 (j := (1 : Int32)) (own_ArD_in (i := 1) hs26 (by decide) (by simp)) (g := (mkF m 87 #[.val (.ref ar), .val (.double m2), .second, .val (.double s3), .second, .val (.int (1 : Int32)), .val (.double x2), .second] [(.double r1), (.int (1 : Int32)), (.ref ar)])) rfl rfl (hb hby own_d1_87)
  have V26 := own_ArD_set (i := 1) V23 W26 (by decide)
  have N26 := Fr.snoc X26 N23 g_ar
  have Z26 : n0 ≤ h26.size := Nat.le_trans Z23 (Keep.of_wr W26).1
  refine own_w (T' := T26) (g' := (mkF m 88 #[.val (.ref ar), .val (.double m2), .second, .val (.double s3), .second, .val (.int (1 : Int32)), .val (.double x2), .second] [])) st26 ?_
  have K26 := K23.wr W26 (Or.inl (List.mem_singleton.mpr rfl))
  refine own_w (T' := T26) (g' := (mkF m 91 #[.val (.ref ar), .val (.double m2), .second, .val (.double s3), .second, .val (.int (2 : Int32)), .val (.double x2), .second] [])) (fun _ k_ => XS.iinc X26.here hx rfl (hb hby own_d1_88) rfl (l' := #[.val (.ref ar), .val (.double m2), .second, .val (.double s3), .second, .val (.int (2 : Int32)), .val (.double x2), .second]) rfl k_) ?_
  refine own_w (T' := T26) (g' := (mkF m 73 #[.val (.ref ar), .val (.double m2), .second, .val (.double s3), .second, .val (.int (2 : Int32)), .val (.double x2), .second] [])) (fun _ k_ => XS.goto X26.here hx rfl (pc0 := 91) (pc' := 73) rfl (hb hby own_d1_91) (by decide) (by decide) k_) ?_
  refine own_w (T' := T26) (g' := (mkF m 75 #[.val (.ref ar), .val (.double m2), .second, .val (.double s3), .second, .val (.int (2 : Int32)), .val (.double x2), .second] [(.int (2 : Int32))])) (fun _ k_ => XS.iload X26.here hx rfl (hb hby own_d1_73) rfl k_) ?_
  refine own_w (T' := T26) (g' := (mkF m 76 #[.val (.ref ar), .val (.double m2), .second, .val (.double s3), .second, .val (.int (2 : Int32)), .val (.double x2), .second] [(.ref ar), (.int (2 : Int32))])) (fun _ k_ => XS.aloadN X26.here hx rfl (hb hby own_d1_75) rfl rfl k_) ?_
  obtain ⟨cl27, Ar27, hs27⟩ := id V26
  have hl27 : cl27.slots.size.toInt32 = (3 : Int32) := by rw [hs27]; rfl
  refine own_w (T' := T26) (g' := (mkF m 77 #[.val (.ref ar), .val (.double m2), .second, .val (.double s3), .second, .val (.int (2 : Int32)), .val (.double x2), .second] [(.int (3 : Int32)), (.int (2 : Int32))])) (fun t_ k_ => X26.arraylength hx (by rw [e26]; exact Ar27.1) (State.isArrayOf_alike hZ.alike Ar27.2.1) (g := (mkF m 76 #[.val (.ref ar), .val (.double m2), .second, .val (.double s3), .second, .val (.int (2 : Int32)), .val (.double x2), .second] [(.ref ar), (.int (2 : Int32))])) rfl rfl (hb hby own_d1_76) t_ (by rw [hl27]; exact k_)) ?_
  refine own_w (T' := T26) (g' := (mkF m 80 #[.val (.ref ar), .val (.double m2), .second, .val (.double s3), .second, .val (.int (2 : Int32)), .val (.double x2), .second] [])) (fun _ k_ => XS.icmpNo X26.here hx rfl (hb hby own_d1_77) rfl (tlt (by decide)).2.1 k_) ?_
  refine own_w (T' := T26) (g' := (mkF m 81 #[.val (.ref ar), .val (.double m2), .second, .val (.double s3), .second, .val (.int (2 : Int32)), .val (.double x2), .second] [(.ref ar)])) (fun _ k_ => XS.aloadN X26.here hx rfl (hb hby own_d1_80) rfl rfl k_) ?_
  refine own_w (T' := T26) (g' := (mkF m 83 #[.val (.ref ar), .val (.double m2), .second, .val (.double s3), .second, .val (.int (2 : Int32)), .val (.double x2), .second] [(.int (2 : Int32)), (.ref ar)])) (fun _ k_ => XS.iload X26.here hx rfl (hb hby own_d1_81) rfl k_) ?_
  refine own_w (T' := T26) (g' := (mkF m 84 #[.val (.ref ar), .val (.double m2), .second, .val (.double s3), .second, .val (.int (2 : Int32)), .val (.double x2), .second] [(.int (2 : Int32)), (.ref ar), (.int (2 : Int32)), (.ref ar)])) (fun _ k_ => XT.dup2 X26.here hx rfl (hb hby own_d1_83) rfl rfl rfl k_) ?_
  obtain ⟨cl28, Ar28, hs28⟩ := id V26
  refine own_w (T' := T26) (g' := (mkF m 85 #[.val (.ref ar), .val (.double m2), .second, .val (.double s3), .second, .val (.int (2 : Int32)), .val (.double x2), .second] [(.double q2), (.int (2 : Int32)), (.ref ar)])) (fun t_ k_ => X26.daload hx (j := (2 : Int32)) (v := .double q2) (by rw [e26]; exact Ar28.1) (State.isArrayOf_alike hZ.alike Ar28.2.1) Ar28.2.2 (own_ArD_in (i := 2) hs28 (by decide) (by simp)) (own_ArD_at (i := 2) hs28 (by decide) (show _ = some q2 from rfl)) (g := (mkF m 84 #[.val (.ref ar), .val (.double m2), .second, .val (.double s3), .second, .val (.int (2 : Int32)), .val (.double x2), .second] [(.int (2 : Int32)), (.ref ar), (.int (2 : Int32)), (.ref ar)])) rfl rfl (hb hby own_d1_84) t_ k_) ?_
  refine own_w (T' := T26) (g' := (mkF m 86 #[.val (.ref ar), .val (.double m2), .second, .val (.double s3), .second, .val (.int (2 : Int32)), .val (.double x2), .second] [(.double s3), (.double q2), (.int (2 : Int32)), (.ref ar)])) (fun _ k_ => XS.dloadN X26.here hx rfl (hb hby own_d1_85) rfl k_) ?_
  refine own_w (T' := T26) (g' := (mkF m 87 #[.val (.ref ar), .val (.double m2), .second, .val (.double s3), .second, .val (.int (2 : Int32)), .val (.double x2), .second] [(.double r2), (.int (2 : Int32)), (.ref ar)])) (fun _ k_ => XS.ddivS X26.here hx rfl (hb hby own_d1_86) rfl (er2.symm ▸ n_r2) er2 k_) ?_
  obtain ⟨cl29, Ar29, hs29⟩ := id V26
  obtain ⟨T29, h29, X29, e29, W29, st29⟩ := stD X26 hx hZ e26 Ar29 (j := (2 : Int32)) (own_ArD_in (i := 2) hs29 (by decide) (by simp)) (g := (mkF m 87 #[.val (.ref ar), .val (.double m2), .second, .val (.double s3), .second, .val (.int (2 : Int32)), .val (.double x2), .second] [(.double r2), (.int (2 : Int32)), (.ref ar)])) rfl rfl (hb hby own_d1_87)
  have V29 := own_ArD_set (i := 2) V26 W29 (by decide)
  have N29 := Fr.snoc X29 N26 g_ar
  have Z29 : n0 ≤ h29.size := Nat.le_trans Z26 (Keep.of_wr W29).1
  refine own_w (T' := T29) (g' := (mkF m 88 #[.val (.ref ar), .val (.double m2), .second, .val (.double s3), .second, .val (.int (2 : Int32)), .val (.double x2), .second] [])) st29 ?_
  have K29 := K26.wr W29 (Or.inl (List.mem_singleton.mpr rfl))
  refine own_w (T' := T29) (g' := (mkF m 91 #[.val (.ref ar), .val (.double m2), .second, .val (.double s3), .second, .val (.int (3 : Int32)), .val (.double x2), .second] [])) (fun _ k_ => XS.iinc X29.here hx rfl (hb hby own_d1_88) rfl (l' := #[.val (.ref ar), .val (.double m2), .second, .val (.double s3), .second, .val (.int (3 : Int32)), .val (.double x2), .second]) rfl k_) ?_
  refine own_w (T' := T29) (g' := (mkF m 73 #[.val (.ref ar), .val (.double m2), .second, .val (.double s3), .second, .val (.int (3 : Int32)), .val (.double x2), .second] [])) (fun _ k_ => XS.goto X29.here hx rfl (pc0 := 91) (pc' := 73) rfl (hb hby own_d1_91) (by decide) (by decide) k_) ?_
  refine own_w (T' := T29) (g' := (mkF m 75 #[.val (.ref ar), .val (.double m2), .second, .val (.double s3), .second, .val (.int (3 : Int32)), .val (.double x2), .second] [(.int (3 : Int32))])) (fun _ k_ => XS.iload X29.here hx rfl (hb hby own_d1_73) rfl k_) ?_
  refine own_w (T' := T29) (g' := (mkF m 76 #[.val (.ref ar), .val (.double m2), .second, .val (.double s3), .second, .val (.int (3 : Int32)), .val (.double x2), .second] [(.ref ar), (.int (3 : Int32))])) (fun _ k_ => XS.aloadN X29.here hx rfl (hb hby own_d1_75) rfl rfl k_) ?_
  obtain ⟨cl30, Ar30, hs30⟩ := id V29
  have hl30 : cl30.slots.size.toInt32 = (3 : Int32) := by rw [hs30]; rfl
  refine own_w (T' := T29) (g' := (mkF m 77 #[.val (.ref ar), .val (.double m2), .second, .val (.double s3), .second, .val (.int (3 : Int32)), .val (.double x2), .second] [(.int (3 : Int32)), (.int (3 : Int32))])) (fun t_ k_ => X29.arraylength hx (by rw [e29]; exact Ar30.1) (State.isArrayOf_alike hZ.alike Ar30.2.1) (g := (mkF m 76 #[.val (.ref ar), .val (.double m2), .second, .val (.double s3), .second, .val (.int (3 : Int32)), .val (.double x2), .second] [(.ref ar), (.int (3 : Int32))])) rfl rfl (hb hby own_d1_76) t_ (by rw [hl30]; exact k_)) ?_
  refine own_w (T' := T29) (g' := (mkF m 94 #[.val (.ref ar), .val (.double m2), .second, .val (.double s3), .second, .val (.int (3 : Int32)), .val (.double x2), .second] [])) (fun _ k_ => XS.icmpYes X29.here hx rfl (pc0 := 77) (pc' := 94) rfl (hb hby own_d1_77) rfl (flt (by decide)).2.1 (by decide) (by decide) k_) ?_
  refine own_w (T' := T29) (g' := (mkF m 95 #[.val (.ref ar), .val (.double m2), .second, .val (.double s3), .second, .val (.int (3 : Int32)), .val (.double x2), .second] [(.ref ar)])) (fun _ k_ => XS.aloadN X29.here hx rfl (hb hby own_d1_94) rfl rfl k_) ?_
  obtain ⟨fs, hr, hrun, hended, hW, hsame⟩ := X29.leave (v := some (.ref ar)) (fun h => by rw [Bd.returns] at h; cases h)
  exact ⟨_, _, retOut X29 hx Bd.returns rfl (Or.inr (Or.inr (Or.inr (Or.inr ⟨rfl, rfl, rfl⟩)))) (hb hby own_d1_95) hr, hrun, hended, _, _, rfl, (by show own_Q1 Z ar x0 x1 x2 m0 m1 m2 q0 q1 q2 s1 s2 s3 r0 r1 r2 h0 n0 _ T29.heap _; rw [e29]; exact ⟨rfl, N29, K29, V29⟩), ⟨_, rfl⟩, hW, hsame.mono (by decide) (by decide)⟩
def own_mx64 (a b : Int64) : Int64 := if a < b then b else a
theorem own_mx64n {a b : Int64} {m n : Nat} (ha : a.toInt = (m : Int)) (hb : b.toInt = (n : Int)) : (own_mx64 a b).toInt = ((max m n : Nat) : Int) := by
  unfold own_mx64
  by_cases h : a < b
  · rw [if_pos h, hb]; rw [Int64.lt_iff_toInt_lt, ha, hb] at h; omega
  · rw [if_neg h, ha]; rw [Int64.lt_iff_toInt_lt, ha, hb] at h; omega
theorem own_b53 {a : Int64} {m : Nat} (ha : a.toInt = (m : Int)) (h : m < 2147483648) : B53 a := ⟨by rw [ha]; omega, by rw [ha]; omega⟩
theorem own_pick {a b : Int64} {m n : Nat} (ha : a.toInt = (m : Int)) (hb : b.toInt = (n : Int)) (hm : m < 2147483648) (hn : n < 2147483648) : Jvm.Native.java_lang_Math.nans.pick64 true (FP.l2d a) (FP.l2d b) = FP.l2d (own_mx64 a b) := by
  unfold own_mx64
  by_cases h : a < b
  · rw [if_pos h]; exact max_l (own_b53 ha hm) (own_b53 hb hn) h
  · rw [if_neg h]; exact max_g (own_b53 ha hm) (own_b53 hb hn) h
theorem own_l0 : FP.dconst0 = FP.l2d 0 := by decide +kernel
theorem own_ln {a : Int64} {m : Nat} (ha : a.toInt = (m : Int)) (hm : m < 2147483648) : Jvm.Free.Fl.NoNaN64 (FP.l2d a) := own_DN (own_l2d ha (by omega))
theorem own_rg (x : Int32) : 0 ≤ ((x &&& (2147483647 : Int32)).toInt64).toInt ∧ ((x &&& (2147483647 : Int32)).toInt64).toInt < 2147483648 := by
  rw [Int32.toInt_toInt64]
  have := c_mask x 2147483647 31 (by decide) (by decide)
  omega
theorem own_sum3 {a b c : Int64} {l m n : Nat} (ha : a.toInt = (l : Int)) (hb : b.toInt = (m : Int)) (hc : c.toInt = (n : Int)) (h1 : l < 2147483648) (h2 : m < 2147483648) (h3 : n < 2147483648) : (a + b + c).toInt = ((l + m + n : Nat) : Int) := by
  have e1 := c_ladd a b
  have e2 := c_ladd (a + b) c
  have r1 := (a + b).toInt_lt; have r2 := (a + b).le_toInt; have r3 := (a + b + c).toInt_lt; have r4 := (a + b + c).le_toInt
  omega
theorem own_pd1 : parseMethodDescriptor "([D)[D" = some ⟨[(.array .double)], some (.array .double)⟩ := by decide +kernel
theorem own_pd2 : parseMethodDescriptor "(DJD)Z" = some ⟨[.double, .long, .double], some .boolean⟩ := by decide +kernel
theorem own_rm0_ef (m : MethodId) (px : Int32) (py : Int32) (pz : Int32) (pm : Int32) : entryFrame m #[(.int px), (.int py), (.int pz), (.int pm)] maxLocals = mkF m 0 #[.val (.int px), .val (.int py), .val (.int pz), .val (.int pm), .unset, .unset, .unset, .unset, .unset, .unset, .unset, .unset, .unset, .unset, .unset, .unset] [] := by first | (simp [entryFrame, mkF, argsToLocals, Value.category, maxLocals]; done) | rfl
def own_Q0 (Z : State) (px : Int32) (py : Int32) (pz : Int32) (pm : Int32) (h0 : Heap) (n0 : Nat) (v_ : Option Value) (h : Heap) (L_ : List Loc) : Prop := v_ = some (.int (1 : Int32)) ∧ Fr n0 L_
set_option maxRecDepth 65536 in
set_option maxHeartbeats 40000000 in
theorem own_rm0 (l : Launch) (Z : State) (a0 : Array Value) (hw : ∀ d ∈ tables_1, d.before a0 Z = true) (ws : List Jvm.Cond) (px : Int32) (py : Int32) (pz : Int32) (pm : Int32) (h0 : Heap) (n0 : Nat) (Z0 : n0 ≤ h0.size)  :
    MetFree l x (head1 (Jvm.Cond.code x code maxLocals ret :: ws) room_1) (fun a_ U_ => a_ = #[(.int px), (.int py), (.int pz), (.int pm)] ∧ Z.Warmed39 U_.vm ∧ U_.heap = h0) (fun _ _ _ _ _ => True) (fun _ U_ o_ V_ => ∃ v_ L_, o_ = .returned v_ ∧ own_Q0 Z px py pz pm h0 n0 v_ V_.heap L_ ∧ FrameEnd U_ o_ V_ L_ room_1.cells room_1.slots) := by
  refine MetFree.of_bodySF (plainFor_of_name own_pn_com_example_eigenvote_eigenvote_rank_WeightsScaledToSumOnePinLaw) hisR ?_
  intro p e s m args below meth c s₁ Bd hml0 hP hK
  obtain ⟨rfl, hZ, hh⟩ := hP
  have hx := Bd.exec
  have hby := Bd.bytes
  have hml : c.maxLocals = 16 := hml0
  have hown : s.vm.findClass "com/example/eigenvote/eigenvote/rank/WeightsScaledToSumOnePinLaw" = some m.cls := findClass_of_methodNamed Bd.named
  have hnm := (name_of_methodNamed Bd.named Bd.method).1
  have X0 : Stand p l e room_1 s m #[(.int px), (.int py), (.int pz), (.int pm)] below meth c s₁ [] 0 0 := Stand.of_body Bd
  have e0 : s₁.heap = h0 := by rw [← hh, Bd.state]; rfl
  have N0 := Fr.nil n0
  show own_G p e below s (own_Q0 Z px py pz pm h0 n0) room_1.cells room_1.slots s₁ (entryFrame m #[(.int px), (.int py), (.int pz), (.int pm)] maxLocals)
  rw [own_rm0_ef]
  have J15 : ∀ (TJ : State) (LJ : List Loc) (XJ : Stand p l e room_1 s m #[(.int px), (.int py), (.int pz), (.int pm)] below meth c TJ LJ 0 0) (eJ : TJ.heap = h0) (NJ : Fr n0 LJ) (av : Int64) (rav : 0 ≤ av.toInt ∧ av.toInt < 2147483648), own_G p e below s (own_Q0 Z px py pz pm h0 n0) room_1.cells room_1.slots TJ (mkF m 15 #[.val (.int px), .val (.int py), .val (.int pz), .val (.int pm), .unset, .unset, .unset, .unset, .unset, .unset, .unset, .unset, .unset, .unset, .unset, .unset] [(.long av)]) := by
    intro TJ LJ XJ eJ NJ av rav
    refine own_w (T' := TJ) (g' := (mkF m 17 #[.val (.int px), .val (.int py), .val (.int pz), .val (.int pm), .val (.long av), .second, .unset, .unset, .unset, .unset, .unset, .unset, .unset, .unset, .unset, .unset] [])) (fun _ k_ => XS.lstore XJ.here hx rfl (hb hby at_15) rfl (l' := #[.val (.int px), .val (.int py), .val (.int pz), .val (.int pm), .val (.long av), .second, .unset, .unset, .unset, .unset, .unset, .unset, .unset, .unset, .unset, .unset]) rfl k_) ?_
    have J32 : ∀ (TJ : State) (LJ : List Loc) (XJ : Stand p l e room_1 s m #[(.int px), (.int py), (.int pz), (.int pm)] below meth c TJ LJ 0 0) (eJ : TJ.heap = h0) (NJ : Fr n0 LJ) (bv : Int64) (rbv : 0 ≤ bv.toInt ∧ bv.toInt < 2147483648), own_G p e below s (own_Q0 Z px py pz pm h0 n0) room_1.cells room_1.slots TJ (mkF m 32 #[.val (.int px), .val (.int py), .val (.int pz), .val (.int pm), .val (.long av), .second, .unset, .unset, .unset, .unset, .unset, .unset, .unset, .unset, .unset, .unset] [(.long bv)]) := by
      intro TJ LJ XJ eJ NJ bv rbv
      refine own_w (T' := TJ) (g' := (mkF m 34 #[.val (.int px), .val (.int py), .val (.int pz), .val (.int pm), .val (.long av), .second, .val (.long bv), .second, .unset, .unset, .unset, .unset, .unset, .unset, .unset, .unset] [])) (fun _ k_ => XS.lstore XJ.here hx rfl (hb hby at_32) rfl (l' := #[.val (.int px), .val (.int py), .val (.int pz), .val (.int pm), .val (.long av), .second, .val (.long bv), .second, .unset, .unset, .unset, .unset, .unset, .unset, .unset, .unset]) rfl k_) ?_
      have J49 : ∀ (TJ : State) (LJ : List Loc) (XJ : Stand p l e room_1 s m #[(.int px), (.int py), (.int pz), (.int pm)] below meth c TJ LJ 0 0) (eJ : TJ.heap = h0) (NJ : Fr n0 LJ) (cv : Int64) (rcv : 0 ≤ cv.toInt ∧ cv.toInt < 2147483648), own_G p e below s (own_Q0 Z px py pz pm h0 n0) room_1.cells room_1.slots TJ (mkF m 49 #[.val (.int px), .val (.int py), .val (.int pz), .val (.int pm), .val (.long av), .second, .val (.long bv), .second, .unset, .unset, .unset, .unset, .unset, .unset, .unset, .unset] [(.long cv)]) := by
        intro TJ LJ XJ eJ NJ cv rcv
        refine own_w (T' := TJ) (g' := (mkF m 51 #[.val (.int px), .val (.int py), .val (.int pz), .val (.int pm), .val (.long av), .second, .val (.long bv), .second, .val (.long cv), .second, .unset, .unset, .unset, .unset, .unset, .unset] [])) (fun _ k_ => XS.lstore XJ.here hx rfl (hb hby at_49) rfl (l' := #[.val (.int px), .val (.int py), .val (.int pz), .val (.int pm), .val (.long av), .second, .val (.long bv), .second, .val (.long cv), .second, .unset, .unset, .unset, .unset, .unset, .unset]) rfl k_) ?_
        refine own_w (T' := TJ) (g' := (mkF m 53 #[.val (.int px), .val (.int py), .val (.int pz), .val (.int pm), .val (.long av), .second, .val (.long bv), .second, .val (.long cv), .second, .unset, .unset, .unset, .unset, .unset, .unset] [(.long av)])) (fun _ k_ => XS.lload XJ.here hx rfl (hb hby at_51) rfl k_) ?_
        refine own_w (T' := TJ) (g' := (mkF m 55 #[.val (.int px), .val (.int py), .val (.int pz), .val (.int pm), .val (.long av), .second, .val (.long bv), .second, .val (.long cv), .second, .unset, .unset, .unset, .unset, .unset, .unset] [(.long bv), (.long av)])) (fun _ k_ => XS.lload XJ.here hx rfl (hb hby at_53) rfl k_) ?_
        refine own_w (T' := TJ) (g' := (mkF m 56 #[.val (.int px), .val (.int py), .val (.int pz), .val (.int pm), .val (.long av), .second, .val (.long bv), .second, .val (.long cv), .second, .unset, .unset, .unset, .unset, .unset, .unset] [(.long (av + bv))])) (fun _ k_ => XS.ladd XJ.here hx rfl (hb hby at_55) rfl k_) ?_
        refine own_w (T' := TJ) (g' := (mkF m 58 #[.val (.int px), .val (.int py), .val (.int pz), .val (.int pm), .val (.long av), .second, .val (.long bv), .second, .val (.long cv), .second, .unset, .unset, .unset, .unset, .unset, .unset] [(.long cv), (.long (av + bv))])) (fun _ k_ => XS.lload XJ.here hx rfl (hb hby at_56) rfl k_) ?_
        refine own_w (T' := TJ) (g' := (mkF m 59 #[.val (.int px), .val (.int py), .val (.int pz), .val (.int pm), .val (.long av), .second, .val (.long bv), .second, .val (.long cv), .second, .unset, .unset, .unset, .unset, .unset, .unset] [(.long ((av + bv) + cv))])) (fun _ k_ => XS.ladd XJ.here hx rfl (hb hby at_58) rfl k_) ?_
        refine own_w (T' := TJ) (g' := (mkF m 61 #[.val (.int px), .val (.int py), .val (.int pz), .val (.int pm), .val (.long av), .second, .val (.long bv), .second, .val (.long cv), .second, .val (.long ((av + bv) + cv)), .second, .unset, .unset, .unset, .unset] [])) (fun _ k_ => XS.lstore XJ.here hx rfl (hb hby at_59) rfl (l' := #[.val (.int px), .val (.int py), .val (.int pz), .val (.int pm), .val (.long av), .second, .val (.long bv), .second, .val (.long cv), .second, .val (.long ((av + bv) + cv)), .second, .unset, .unset, .unset, .unset]) rfl k_) ?_
        refine own_w (T' := TJ) (g' := (mkF m 63 #[.val (.int px), .val (.int py), .val (.int pz), .val (.int pm), .val (.long av), .second, .val (.long bv), .second, .val (.long cv), .second, .val (.long ((av + bv) + cv)), .second, .unset, .unset, .unset, .unset] [(.long ((av + bv) + cv))])) (fun _ k_ => XS.lload XJ.here hx rfl (hb hby at_61) rfl k_) ?_
        refine own_w (T' := TJ) (g' := (mkF m 64 #[.val (.int px), .val (.int py), .val (.int pz), .val (.int pm), .val (.long av), .second, .val (.long bv), .second, .val (.long cv), .second, .val (.long ((av + bv) + cv)), .second, .unset, .unset, .unset, .unset] [(.long (0 : Int64)), (.long ((av + bv) + cv))])) (fun _ k_ => XS.lconst XJ.here hx rfl (hb hby at_63) k_) ?_
        refine own_w (T' := TJ) (g' := (mkF m 65 #[.val (.int px), .val (.int py), .val (.int pz), .val (.int pm), .val (.long av), .second, .val (.long bv), .second, .val (.long cv), .second, .val (.long ((av + bv) + cv)), .second, .unset, .unset, .unset, .unset] [(.int (lcmpW ((av + bv) + cv) (0 : Int64)))])) (fun _ k_ => XS.lcmp XJ.here hx rfl (hb hby at_64) rfl k_) ?_
        by_cases hc65 : ((av + bv) + cv) = (0 : Int64)
        · refine own_w (T' := TJ) (g' := (mkF m 68 #[.val (.int px), .val (.int py), .val (.int pz), .val (.int pm), .val (.long av), .second, .val (.long bv), .second, .val (.long cv), .second, .val (.long ((av + bv) + cv)), .second, .unset, .unset, .unset, .unset] [])) (fun _ k_ => XS.ifNo XJ.here hx rfl (hb hby at_65) rfl ((if0 _ _).trans (teq ((lw_eq _ _).mpr hc65)).2) k_) ?_
          refine own_w (T' := TJ) (g' := (mkF m 69 #[.val (.int px), .val (.int py), .val (.int pz), .val (.int pm), .val (.long av), .second, .val (.long bv), .second, .val (.long cv), .second, .val (.long ((av + bv) + cv)), .second, .unset, .unset, .unset, .unset] [(.int (1 : Int32))])) (fun _ k_ => XS.iconst XJ.here hx rfl (hb hby at_68) k_) ?_
          obtain ⟨fs, hr, hrun, hended, hW, hsame⟩ := XJ.leave (v := some (.int (1 : Int32))) (fun h => by rw [Bd.returns] at h; cases h)
          exact ⟨_, _, retOut XJ hx Bd.returns rfl (Or.inl ⟨rfl, Or.inr (Or.inl rfl), _, rfl⟩) (hb hby at_69) hr, hrun, hended, _, _, rfl, (by show own_Q0 Z px py pz pm h0 n0 _ TJ.heap _; rw [eJ]; exact ⟨rfl, NJ⟩), ⟨_, rfl⟩, hW, hsame.mono (by decide) (by decide)⟩
        · refine own_w (T' := TJ) (g' := (mkF m 70 #[.val (.int px), .val (.int py), .val (.int pz), .val (.int pm), .val (.long av), .second, .val (.long bv), .second, .val (.long cv), .second, .val (.long ((av + bv) + cv)), .second, .unset, .unset, .unset, .unset] [])) (fun _ k_ => XS.ifYes XJ.here hx rfl (pc0 := 65) (pc' := 70) rfl (hb hby at_65) rfl ((if0 _ _).trans (feq (mt (lw_eq _ _).mp hc65)).2) (by decide) (by decide) k_) ?_
          obtain ⟨w0, ew0⟩ : ∃ n : Nat, av.toInt = (n : Int) := ⟨av.toInt.toNat, by omega⟩
          obtain ⟨w1, ew1⟩ : ∃ n : Nat, bv.toInt = (n : Int) := ⟨bv.toInt.toNat, by omega⟩
          obtain ⟨w2, ew2⟩ : ∃ n : Nat, cv.toInt = (n : Int) := ⟨cv.toInt.toNat, by omega⟩
          have l0 : w0 < 2147483648 := by omega
          have l1 : w1 < 2147483648 := by omega
          have l2 : w2 < 2147483648 := by omega
          have et := own_sum3 ew0 ew1 ew2 l0 l1 l2
          have hp : 0 < w0 + w1 + w2 := by
            rcases Nat.eq_zero_or_pos (w0 + w1 + w2) with q | q
            · exact absurd (Int64.toInt_inj.mp (by rw [et, q]; rfl)) hc65
            · exact q
          have ez : (0 : Int64).toInt = ((0 : Nat) : Int) := rfl
          have eM0 := own_mx64n ez ew0
          have eM1 := own_mx64n eM0 ew1
          have eM2 := own_mx64n eM1 ew2
          have eM2' : (own_mx64 (own_mx64 (own_mx64 0 av) bv) cv).toInt = ((max (max w0 w1) w2 : Nat) : Int) := by rw [eM2]; simp
          obtain ⟨q0, q1, q2, s1, s2, s3, r0, r1, r2, eq0, eq1, eq2, es1, es2, es3, er0, er1, er2, n0_, n1_, n2_, n3_, n4_, n5_, n6_, n7_, n8_, nr0, nr1, nr2⟩ := own_all ew0 ew1 ew2 eM2' et (by omega) (by omega) (by omega) (by omega) hp
          refine own_w (T' := TJ) (g' := (mkF m 71 #[.val (.int px), .val (.int py), .val (.int pz), .val (.int pm), .val (.long av), .second, .val (.long bv), .second, .val (.long cv), .second, .val (.long ((av + bv) + cv)), .second, .unset, .unset, .unset, .unset] [(.int (3 : Int32))])) (fun _ k_ => XS.iconst XJ.here hx rfl (hb hby at_70) k_) ?_
          obtain ⟨T1, h1, k1, X1, e1, E1, A1, st1⟩ := newP XJ hx hZ (hw _ (List.mem_of_getElem? (i := 1) rfl)) eJ (g := (mkF m 71 #[.val (.int px), .val (.int py), .val (.int pz), .val (.int pm), .val (.long av), .second, .val (.long bv), .second, .val (.long cv), .second, .val (.long ((av + bv) + cv)), .second, .unset, .unset, .unset, .unset] [(.int (3 : Int32))])) rfl (hb hby at_71) rfl (by decide) (cap := 3) (by decide) (by decide) (by decide) (by decide)
          obtain ⟨b1, gq1⟩ : ∃ z, z = h0.size := ⟨_, rfl⟩
          rw [← gq1] at A1 st1
          have V_b1 := own_ArD_new A1 (k := 3) rfl
          have g_b1 : n0 ≤ b1 := Nat.le_trans Z0 (Nat.le_of_eq gq1.symm)
          have Z1 : n0 ≤ h1.size := Nat.le_trans Z0 E1.1
          refine own_w (T' := T1) (g' := (mkF m 73 #[.val (.int px), .val (.int py), .val (.int pz), .val (.int pm), .val (.long av), .second, .val (.long bv), .second, .val (.long cv), .second, .val (.long ((av + bv) + cv)), .second, .unset, .unset, .unset, .unset] [(.ref b1)])) st1 ?_
          refine own_w (T' := T1) (g' := (mkF m 75 #[.val (.int px), .val (.int py), .val (.int pz), .val (.int pm), .val (.long av), .second, .val (.long bv), .second, .val (.long cv), .second, .val (.long ((av + bv) + cv)), .second, .val (.ref b1), .unset, .unset, .unset] [])) (fun _ k_ => XS.astore X1.here hx rfl (hb hby at_73) rfl rfl (l' := #[.val (.int px), .val (.int py), .val (.int pz), .val (.int pm), .val (.long av), .second, .val (.long bv), .second, .val (.long cv), .second, .val (.long ((av + bv) + cv)), .second, .val (.ref b1), .unset, .unset, .unset]) rfl k_) ?_
          refine own_w (T' := T1) (g' := (mkF m 77 #[.val (.int px), .val (.int py), .val (.int pz), .val (.int pm), .val (.long av), .second, .val (.long bv), .second, .val (.long cv), .second, .val (.long ((av + bv) + cv)), .second, .val (.ref b1), .unset, .unset, .unset] [(.ref b1)])) (fun _ k_ => XS.aload X1.here hx rfl (hb hby at_75) rfl rfl k_) ?_
          refine own_w (T' := T1) (g' := (mkF m 78 #[.val (.int px), .val (.int py), .val (.int pz), .val (.int pm), .val (.long av), .second, .val (.long bv), .second, .val (.long cv), .second, .val (.long ((av + bv) + cv)), .second, .val (.ref b1), .unset, .unset, .unset] [(.int (0 : Int32)), (.ref b1)])) (fun _ k_ => XS.iconst X1.here hx rfl (hb hby at_77) k_) ?_
          refine own_w (T' := T1) (g' := (mkF m 80 #[.val (.int px), .val (.int py), .val (.int pz), .val (.int pm), .val (.long av), .second, .val (.long bv), .second, .val (.long cv), .second, .val (.long ((av + bv) + cv)), .second, .val (.ref b1), .unset, .unset, .unset] [(.long av), (.int (0 : Int32)), (.ref b1)])) (fun _ k_ => XS.lload X1.here hx rfl (hb hby at_78) rfl k_) ?_
          refine own_w (T' := T1) (g' := (mkF m 81 #[.val (.int px), .val (.int py), .val (.int pz), .val (.int pm), .val (.long av), .second, .val (.long bv), .second, .val (.long cv), .second, .val (.long ((av + bv) + cv)), .second, .val (.ref b1), .unset, .unset, .unset] [(.double (FP.l2d av)), (.int (0 : Int32)), (.ref b1)])) (fun _ k_ => XS.l2dS X1.here hx rfl (hb hby at_80) rfl rfl k_) ?_
          obtain ⟨cl2, Ar2, hs2⟩ := id V_b1
          obtain ⟨T2, h2, X2, e2, W2, st2⟩ := stD X1 hx hZ e1 Ar2 (j := (0 : Int32)) (own_ArD_in (i := 0) hs2 (by decide) (by simp)) (g := (mkF m 81 #[.val (.int px), .val (.int py), .val (.int pz), .val (.int pm), .val (.long av), .second, .val (.long bv), .second, .val (.long cv), .second, .val (.long ((av + bv) + cv)), .second, .val (.ref b1), .unset, .unset, .unset] [(.double (FP.l2d av)), (.int (0 : Int32)), (.ref b1)])) rfl rfl (hb hby at_81)
          have V2 := own_ArD_set (i := 0) V_b1 W2 (by decide)
          have N2 := Fr.snoc X2 NJ g_b1
          have Z2 : n0 ≤ h2.size := Nat.le_trans Z1 (Keep.of_wr W2).1
          refine own_w (T' := T2) (g' := (mkF m 82 #[.val (.int px), .val (.int py), .val (.int pz), .val (.int pm), .val (.long av), .second, .val (.long bv), .second, .val (.long cv), .second, .val (.long ((av + bv) + cv)), .second, .val (.ref b1), .unset, .unset, .unset] [])) st2 ?_
          refine own_w (T' := T2) (g' := (mkF m 84 #[.val (.int px), .val (.int py), .val (.int pz), .val (.int pm), .val (.long av), .second, .val (.long bv), .second, .val (.long cv), .second, .val (.long ((av + bv) + cv)), .second, .val (.ref b1), .unset, .unset, .unset] [(.ref b1)])) (fun _ k_ => XS.aload X2.here hx rfl (hb hby at_82) rfl rfl k_) ?_
          refine own_w (T' := T2) (g' := (mkF m 85 #[.val (.int px), .val (.int py), .val (.int pz), .val (.int pm), .val (.long av), .second, .val (.long bv), .second, .val (.long cv), .second, .val (.long ((av + bv) + cv)), .second, .val (.ref b1), .unset, .unset, .unset] [(.int (1 : Int32)), (.ref b1)])) (fun _ k_ => XS.iconst X2.here hx rfl (hb hby at_84) k_) ?_
          refine own_w (T' := T2) (g' := (mkF m 87 #[.val (.int px), .val (.int py), .val (.int pz), .val (.int pm), .val (.long av), .second, .val (.long bv), .second, .val (.long cv), .second, .val (.long ((av + bv) + cv)), .second, .val (.ref b1), .unset, .unset, .unset] [(.long bv), (.int (1 : Int32)), (.ref b1)])) (fun _ k_ => XS.lload X2.here hx rfl (hb hby at_85) rfl k_) ?_
          refine own_w (T' := T2) (g' := (mkF m 88 #[.val (.int px), .val (.int py), .val (.int pz), .val (.int pm), .val (.long av), .second, .val (.long bv), .second, .val (.long cv), .second, .val (.long ((av + bv) + cv)), .second, .val (.ref b1), .unset, .unset, .unset] [(.double (FP.l2d bv)), (.int (1 : Int32)), (.ref b1)])) (fun _ k_ => XS.l2dS X2.here hx rfl (hb hby at_87) rfl rfl k_) ?_
          obtain ⟨cl3, Ar3, hs3⟩ := id V2
          obtain ⟨T3, h3, X3, e3, W3, st3⟩ := stD X2 hx hZ e2 Ar3 (j := (1 : Int32)) (own_ArD_in (i := 1) hs3 (by decide) (by simp)) (g := (mkF m 88 #[.val (.int px), .val (.int py), .val (.int pz), .val (.int pm), .val (.long av), .second, .val (.long bv), .second, .val (.long cv), .second, .val (.long ((av + bv) + cv)), .second, .val (.ref b1), .unset, .unset, .unset] [(.double (FP.l2d bv)), (.int (1 : Int32)), (.ref b1)])) rfl rfl (hb hby at_88)
          have V3 := own_ArD_set (i := 1) V2 W3 (by decide)
          have N3 := Fr.snoc X3 N2 g_b1
          have Z3 : n0 ≤ h3.size := Nat.le_trans Z2 (Keep.of_wr W3).1
          refine own_w (T' := T3) (g' := (mkF m 89 #[.val (.int px), .val (.int py), .val (.int pz), .val (.int pm), .val (.long av), .second, .val (.long bv), .second, .val (.long cv), .second, .val (.long ((av + bv) + cv)), .second, .val (.ref b1), .unset, .unset, .unset] [])) st3 ?_
          refine own_w (T' := T3) (g' := (mkF m 91 #[.val (.int px), .val (.int py), .val (.int pz), .val (.int pm), .val (.long av), .second, .val (.long bv), .second, .val (.long cv), .second, .val (.long ((av + bv) + cv)), .second, .val (.ref b1), .unset, .unset, .unset] [(.ref b1)])) (fun _ k_ => XS.aload X3.here hx rfl (hb hby at_89) rfl rfl k_) ?_
          refine own_w (T' := T3) (g' := (mkF m 92 #[.val (.int px), .val (.int py), .val (.int pz), .val (.int pm), .val (.long av), .second, .val (.long bv), .second, .val (.long cv), .second, .val (.long ((av + bv) + cv)), .second, .val (.ref b1), .unset, .unset, .unset] [(.int (2 : Int32)), (.ref b1)])) (fun _ k_ => XS.iconst X3.here hx rfl (hb hby at_91) k_) ?_
          refine own_w (T' := T3) (g' := (mkF m 94 #[.val (.int px), .val (.int py), .val (.int pz), .val (.int pm), .val (.long av), .second, .val (.long bv), .second, .val (.long cv), .second, .val (.long ((av + bv) + cv)), .second, .val (.ref b1), .unset, .unset, .unset] [(.long cv), (.int (2 : Int32)), (.ref b1)])) (fun _ k_ => XS.lload X3.here hx rfl (hb hby at_92) rfl k_) ?_
          refine own_w (T' := T3) (g' := (mkF m 95 #[.val (.int px), .val (.int py), .val (.int pz), .val (.int pm), .val (.long av), .second, .val (.long bv), .second, .val (.long cv), .second, .val (.long ((av + bv) + cv)), .second, .val (.ref b1), .unset, .unset, .unset] [(.double (FP.l2d cv)), (.int (2 : Int32)), (.ref b1)])) (fun _ k_ => XS.l2dS X3.here hx rfl (hb hby at_94) rfl rfl k_) ?_
          obtain ⟨cl4, Ar4, hs4⟩ := id V3
          obtain ⟨T4, h4, X4, e4, W4, st4⟩ := stD X3 hx hZ e3 Ar4 (j := (2 : Int32)) (own_ArD_in (i := 2) hs4 (by decide) (by simp)) (g := (mkF m 95 #[.val (.int px), .val (.int py), .val (.int pz), .val (.int pm), .val (.long av), .second, .val (.long bv), .second, .val (.long cv), .second, .val (.long ((av + bv) + cv)), .second, .val (.ref b1), .unset, .unset, .unset] [(.double (FP.l2d cv)), (.int (2 : Int32)), (.ref b1)])) rfl rfl (hb hby at_95)
          have V4 := own_ArD_set (i := 2) V3 W4 (by decide)
          have N4 := Fr.snoc X4 N3 g_b1
          have Z4 : n0 ≤ h4.size := Nat.le_trans Z3 (Keep.of_wr W4).1
          refine own_w (T' := T4) (g' := (mkF m 96 #[.val (.int px), .val (.int py), .val (.int pz), .val (.int pm), .val (.long av), .second, .val (.long bv), .second, .val (.long cv), .second, .val (.long ((av + bv) + cv)), .second, .val (.ref b1), .unset, .unset, .unset] [])) st4 ?_
          refine own_w (T' := T4) (g' := (mkF m 98 #[.val (.int px), .val (.int py), .val (.int pz), .val (.int pm), .val (.long av), .second, .val (.long bv), .second, .val (.long cv), .second, .val (.long ((av + bv) + cv)), .second, .val (.ref b1), .unset, .unset, .unset] [(.ref b1)])) (fun _ k_ => XS.aload X4.here hx rfl (hb hby at_96) rfl rfl k_) ?_
          obtain ⟨_, _, ⟨T5, L5, k5, n5⟩, -, X5, ⟨Lc5, hQ5, l5, y5, z5⟩, st5⟩ := Jvm.LawKit.callS X4 hx (y := (⟨"com/example/eigenvote/eigenvote/rank/Weights", "scaledToSumOne", "([D)[D"⟩ : MethodName)) hown (mvT hZ (hw _ (List.mem_of_getElem? (i := 2) rfl))) (mvT hZ (hw _ (List.mem_of_getElem? (i := 3) rfl))) (mvT hZ (hw _ (List.mem_of_getElem? (i := 4) rfl))) (mvT hZ (hw _ (List.mem_of_getElem? (i := 5) rfl))) (by decide) (backOf (W := 0) (own_rm1 l Z a0 hw [] b1 (FP.l2d av) (FP.l2d bv) (FP.l2d cv) (FP.l2d (own_mx64 0 av)) (FP.l2d (own_mx64 (own_mx64 0 av) bv)) (FP.l2d (own_mx64 (own_mx64 (own_mx64 0 av) bv) cv)) q0 q1 q2 s1 s2 s3 r0 r1 r2 h4 n0 Z4 V4 g_b1 (own_ln ew0 l0) (own_ln ew1 l1) (own_ln ew2 l2) (own_ln eM0 (by omega)) (own_ln eM1 (by omega)) (own_ln eM2 (by omega)) n0_ n1_ n2_ n3_ n4_ n5_ n6_ n7_ n8_ (by rw [own_l0]; exact own_pick ez ew0 (by decide) l0) (own_pick eM0 ew1 (by omega) l1) (own_pick eM1 ew2 (by omega) l2) eq0 eq1 eq2 es1 es2 es3 er0 er1 er2) hZ (hw _ (List.mem_of_getElem? (i := 5) rfl)) (hw _ (List.mem_of_getElem? (i := 4) rfl)) (by decide) (by decide)) (g := (mkF m 98 #[.val (.int px), .val (.int py), .val (.int pz), .val (.int pm), .val (.long av), .second, .val (.long bv), .second, .val (.long cv), .second, .val (.long ((av + bv) + cv)), .second, .val (.ref b1), .unset, .unset, .unset] [(.ref b1)])) rfl (by rw [hml]; rfl) (argsL := [(.ref b1)]) (rest := []) (lenOf own_pd1 rfl) rfl (by show 2 * 0 + _ ≤ _; exact Nat.le_of_eq rfl) (hb hby at_98) (fun _ _ => ⟨rfl, e4, (by decide : 1 + 0 ≤ _), (by decide : 3 + 0 ≤ _)⟩)
          dsimp only [Pt.U, Pt.locs, Pt.cells, Pt.slots] at X5 l5 y5 z5 st5 hQ5
          subst l5 y5 z5
          obtain ⟨h5, e5⟩ : ∃ h, T5.heap = h := ⟨_, rfl⟩
          rw [e5] at hQ5
          obtain ⟨rfl, N5q, K5, V5⟩ := hQ5
          have N5 := Fr.app N4 N5q
          refine own_w (T' := T5) (g' := (mkF m 101 #[.val (.int px), .val (.int py), .val (.int pz), .val (.int pm), .val (.long av), .second, .val (.long bv), .second, .val (.long cv), .second, .val (.long ((av + bv) + cv)), .second, .val (.ref b1), .unset, .unset, .unset] [(.ref b1)])) st5 ?_
          have Z5 : n0 ≤ h5.size := Nat.le_trans Z4 K5.1
          refine own_w (T' := T5) (g' := (mkF m 103 #[.val (.int px), .val (.int py), .val (.int pz), .val (.int pm), .val (.long av), .second, .val (.long bv), .second, .val (.long cv), .second, .val (.long ((av + bv) + cv)), .second, .val (.ref b1), .val (.ref b1), .unset, .unset] [])) (fun _ k_ => XS.astore X5.here hx rfl (hb hby at_101) rfl rfl (l' := #[.val (.int px), .val (.int py), .val (.int pz), .val (.int pm), .val (.long av), .second, .val (.long bv), .second, .val (.long cv), .second, .val (.long ((av + bv) + cv)), .second, .val (.ref b1), .val (.ref b1), .unset, .unset]) rfl k_) ?_
          refine own_w (T' := T5) (g' := (mkF m 105 #[.val (.int px), .val (.int py), .val (.int pz), .val (.int pm), .val (.long av), .second, .val (.long bv), .second, .val (.long cv), .second, .val (.long ((av + bv) + cv)), .second, .val (.ref b1), .val (.ref b1), .unset, .unset] [(.ref b1)])) (fun _ k_ => XS.aload X5.here hx rfl (hb hby at_103) rfl rfl k_) ?_
          refine own_w (T' := T5) (g' := (mkF m 107 #[.val (.int px), .val (.int py), .val (.int pz), .val (.int pm), .val (.long av), .second, .val (.long bv), .second, .val (.long cv), .second, .val (.long ((av + bv) + cv)), .second, .val (.ref b1), .val (.ref b1), .unset, .unset] [(.ref b1), (.ref b1)])) (fun _ k_ => XS.aload X5.here hx rfl (hb hby at_105) rfl rfl k_) ?_
          refine own_w (T' := T5) (g' := (mkF m 112 #[.val (.int px), .val (.int py), .val (.int pz), .val (.int pm), .val (.long av), .second, .val (.long bv), .second, .val (.long cv), .second, .val (.long ((av + bv) + cv)), .second, .val (.ref b1), .val (.ref b1), .unset, .unset] [])) (fun _ k_ => Jvm.RoadKit.acmp (g := (mkF m 107 #[.val (.int px), .val (.int py), .val (.int pz), .val (.int pm), .val (.long av), .second, .val (.long bv), .second, .val (.long cv), .second, .val (.long ((av + bv) + cv)), .second, .val (.ref b1), .val (.ref b1), .unset, .unset] [(.ref b1), (.ref b1)])) X5 hx rfl rfl rfl (pc0 := 107) (pc' := 112) (same := true) rfl (hb hby at_107) rfl (decide_eq_true (congrArg Value.ref rfl)) (by decide) (by decide) k_) ?_
          refine own_w (T' := T5) (g' := (mkF m 114 #[.val (.int px), .val (.int py), .val (.int pz), .val (.int pm), .val (.long av), .second, .val (.long bv), .second, .val (.long cv), .second, .val (.long ((av + bv) + cv)), .second, .val (.ref b1), .val (.ref b1), .unset, .unset] [(.long ((av + bv) + cv))])) (fun _ k_ => XS.lload X5.here hx rfl (hb hby at_112) rfl k_) ?_
          refine own_w (T' := T5) (g' := (mkF m 115 #[.val (.int px), .val (.int py), .val (.int pz), .val (.int pm), .val (.long av), .second, .val (.long bv), .second, .val (.long cv), .second, .val (.long ((av + bv) + cv)), .second, .val (.ref b1), .val (.ref b1), .unset, .unset] [(.double (FP.l2d ((av + bv) + cv)))])) (fun _ k_ => XS.l2dS X5.here hx rfl (hb hby at_114) rfl rfl k_) ?_
          refine own_w (T' := T5) (g' := (mkF m 117 #[.val (.int px), .val (.int py), .val (.int pz), .val (.int pm), .val (.long av), .second, .val (.long bv), .second, .val (.long cv), .second, .val (.long ((av + bv) + cv)), .second, .val (.ref b1), .val (.ref b1), .val (.double (FP.l2d ((av + bv) + cv))), .second] [])) (fun _ k_ => XS.dstore X5.here hx rfl (hb hby at_115) rfl (l' := #[.val (.int px), .val (.int py), .val (.int pz), .val (.int pm), .val (.long av), .second, .val (.long bv), .second, .val (.long cv), .second, .val (.long ((av + bv) + cv)), .second, .val (.ref b1), .val (.ref b1), .val (.double (FP.l2d ((av + bv) + cv))), .second]) rfl k_) ?_
          refine own_w (T' := T5) (g' := (mkF m 119 #[.val (.int px), .val (.int py), .val (.int pz), .val (.int pm), .val (.long av), .second, .val (.long bv), .second, .val (.long cv), .second, .val (.long ((av + bv) + cv)), .second, .val (.ref b1), .val (.ref b1), .val (.double (FP.l2d ((av + bv) + cv))), .second] [(.ref b1)])) (fun _ k_ => XS.aload X5.here hx rfl (hb hby at_117) rfl rfl k_) ?_
          refine own_w (T' := T5) (g' := (mkF m 120 #[.val (.int px), .val (.int py), .val (.int pz), .val (.int pm), .val (.long av), .second, .val (.long bv), .second, .val (.long cv), .second, .val (.long ((av + bv) + cv)), .second, .val (.ref b1), .val (.ref b1), .val (.double (FP.l2d ((av + bv) + cv))), .second] [(.int (0 : Int32)), (.ref b1)])) (fun _ k_ => XS.iconst X5.here hx rfl (hb hby at_119) k_) ?_
          obtain ⟨cl6, Ar6, hs6⟩ := id V5
          refine own_w (T' := T5) (g' := (mkF m 121 #[.val (.int px), .val (.int py), .val (.int pz), .val (.int pm), .val (.long av), .second, .val (.long bv), .second, .val (.long cv), .second, .val (.long ((av + bv) + cv)), .second, .val (.ref b1), .val (.ref b1), .val (.double (FP.l2d ((av + bv) + cv))), .second] [(.double r0)])) (fun t_ k_ => X5.daload hx (j := (0 : Int32)) (v := .double r0) (by rw [e5]; exact Ar6.1) (State.isArrayOf_alike hZ.alike Ar6.2.1) Ar6.2.2 (own_ArD_in (i := 0) hs6 (by decide) (by simp)) (own_ArD_at (i := 0) hs6 (by decide) (show _ = some r0 from rfl)) (g := (mkF m 120 #[.val (.int px), .val (.int py), .val (.int pz), .val (.int pm), .val (.long av), .second, .val (.long bv), .second, .val (.long cv), .second, .val (.long ((av + bv) + cv)), .second, .val (.ref b1), .val (.ref b1), .val (.double (FP.l2d ((av + bv) + cv))), .second] [(.int (0 : Int32)), (.ref b1)])) rfl rfl (hb hby at_120) t_ k_) ?_
          refine own_w (T' := T5) (g' := (mkF m 123 #[.val (.int px), .val (.int py), .val (.int pz), .val (.int pm), .val (.long av), .second, .val (.long bv), .second, .val (.long cv), .second, .val (.long ((av + bv) + cv)), .second, .val (.ref b1), .val (.ref b1), .val (.double (FP.l2d ((av + bv) + cv))), .second] [(.long av), (.double r0)])) (fun _ k_ => XS.lload X5.here hx rfl (hb hby at_121) rfl k_) ?_
          refine own_w (T' := T5) (g' := (mkF m 125 #[.val (.int px), .val (.int py), .val (.int pz), .val (.int pm), .val (.long av), .second, .val (.long bv), .second, .val (.long cv), .second, .val (.long ((av + bv) + cv)), .second, .val (.ref b1), .val (.ref b1), .val (.double (FP.l2d ((av + bv) + cv))), .second] [(.double (FP.l2d ((av + bv) + cv))), (.long av), (.double r0)])) (fun _ k_ => XS.dload X5.here hx rfl (hb hby at_123) rfl k_) ?_
          obtain ⟨_, _, ⟨T7, L7, k7, n7⟩, -, X7, ⟨Lc7, hQ7, l7, y7, z7⟩, st7⟩ := Jvm.LawKit.callS X5 hx (y := (⟨"com/example/eigenvote/eigenvote/rank/WeightsScaledToSumOnePinLaw", "near", "(DJD)Z"⟩ : MethodName)) hown (mvT hZ (hw _ (List.mem_of_getElem? (i := 10) rfl))) (mvT hZ (hw _ (List.mem_of_getElem? (i := 11) rfl))) (mvT hZ (hw _ (List.mem_of_getElem? (i := 12) rfl))) (mvT hZ (hw _ (List.mem_of_getElem? (i := 13) rfl))) (by decide) (backOf (W := 0) (own_rm3 l Z a0 hw [] r0 av (FP.l2d ((av + bv) + cv))  h5 n0 Z5 nr0) hZ (hw _ (List.mem_of_getElem? (i := 13) rfl)) (hw _ (List.mem_of_getElem? (i := 12) rfl)) (by decide) (by decide)) (g := (mkF m 125 #[.val (.int px), .val (.int py), .val (.int pz), .val (.int pm), .val (.long av), .second, .val (.long bv), .second, .val (.long cv), .second, .val (.long ((av + bv) + cv)), .second, .val (.ref b1), .val (.ref b1), .val (.double (FP.l2d ((av + bv) + cv))), .second] [(.double (FP.l2d ((av + bv) + cv))), (.long av), (.double r0)])) rfl (by rw [hml]; rfl) (argsL := [(.double r0), (.long av), (.double (FP.l2d ((av + bv) + cv)))]) (rest := []) (lenOf own_pd2 rfl) rfl (by show 2 * 0 + _ ≤ _; exact Nat.le_of_eq rfl) (hb hby at_125) (fun _ _ => ⟨rfl, e5, (by decide : 1 + 0 ≤ _), (by decide : 3 + 0 ≤ _)⟩)
          dsimp only [Pt.U, Pt.locs, Pt.cells, Pt.slots] at X7 l7 y7 z7 st7 hQ7
          subst l7 y7 z7
          obtain ⟨rfl, N7q, e7⟩ := hQ7
          have N7 := Fr.app N5 N7q
          refine own_w (T' := T7) (g' := (mkF m 128 #[.val (.int px), .val (.int py), .val (.int pz), .val (.int pm), .val (.long av), .second, .val (.long bv), .second, .val (.long cv), .second, .val (.long ((av + bv) + cv)), .second, .val (.ref b1), .val (.ref b1), .val (.double (FP.l2d ((av + bv) + cv))), .second] [(.int (1 : Int32))])) st7 ?_
          refine own_w (T' := T7) (g' := (mkF m 131 #[.val (.int px), .val (.int py), .val (.int pz), .val (.int pm), .val (.long av), .second, .val (.long bv), .second, .val (.long cv), .second, .val (.long ((av + bv) + cv)), .second, .val (.ref b1), .val (.ref b1), .val (.double (FP.l2d ((av + bv) + cv))), .second] [])) (fun _ k_ => XS.ifNo X7.here hx rfl (hb hby at_128) rfl ((if0 _ _).trans (feq (by decide)).1) k_) ?_
          refine own_w (T' := T7) (g' := (mkF m 133 #[.val (.int px), .val (.int py), .val (.int pz), .val (.int pm), .val (.long av), .second, .val (.long bv), .second, .val (.long cv), .second, .val (.long ((av + bv) + cv)), .second, .val (.ref b1), .val (.ref b1), .val (.double (FP.l2d ((av + bv) + cv))), .second] [(.ref b1)])) (fun _ k_ => XS.aload X7.here hx rfl (hb hby at_131) rfl rfl k_) ?_
          refine own_w (T' := T7) (g' := (mkF m 134 #[.val (.int px), .val (.int py), .val (.int pz), .val (.int pm), .val (.long av), .second, .val (.long bv), .second, .val (.long cv), .second, .val (.long ((av + bv) + cv)), .second, .val (.ref b1), .val (.ref b1), .val (.double (FP.l2d ((av + bv) + cv))), .second] [(.int (1 : Int32)), (.ref b1)])) (fun _ k_ => XS.iconst X7.here hx rfl (hb hby at_133) k_) ?_
          obtain ⟨cl8, Ar8, hs8⟩ := id V5
          refine own_w (T' := T7) (g' := (mkF m 135 #[.val (.int px), .val (.int py), .val (.int pz), .val (.int pm), .val (.long av), .second, .val (.long bv), .second, .val (.long cv), .second, .val (.long ((av + bv) + cv)), .second, .val (.ref b1), .val (.ref b1), .val (.double (FP.l2d ((av + bv) + cv))), .second] [(.double r1)])) (fun t_ k_ => X7.daload hx (j := (1 : Int32)) (v := .double r1) (by rw [e7]; exact Ar8.1) (State.isArrayOf_alike hZ.alike Ar8.2.1) Ar8.2.2 (own_ArD_in (i := 1) hs8 (by decide) (by simp)) (own_ArD_at (i := 1) hs8 (by decide) (show _ = some r1 from rfl)) (g := (mkF m 134 #[.val (.int px), .val (.int py), .val (.int pz), .val (.int pm), .val (.long av), .second, .val (.long bv), .second, .val (.long cv), .second, .val (.long ((av + bv) + cv)), .second, .val (.ref b1), .val (.ref b1), .val (.double (FP.l2d ((av + bv) + cv))), .second] [(.int (1 : Int32)), (.ref b1)])) rfl rfl (hb hby at_134) t_ k_) ?_
          refine own_w (T' := T7) (g' := (mkF m 137 #[.val (.int px), .val (.int py), .val (.int pz), .val (.int pm), .val (.long av), .second, .val (.long bv), .second, .val (.long cv), .second, .val (.long ((av + bv) + cv)), .second, .val (.ref b1), .val (.ref b1), .val (.double (FP.l2d ((av + bv) + cv))), .second] [(.long bv), (.double r1)])) (fun _ k_ => XS.lload X7.here hx rfl (hb hby at_135) rfl k_) ?_
          refine own_w (T' := T7) (g' := (mkF m 139 #[.val (.int px), .val (.int py), .val (.int pz), .val (.int pm), .val (.long av), .second, .val (.long bv), .second, .val (.long cv), .second, .val (.long ((av + bv) + cv)), .second, .val (.ref b1), .val (.ref b1), .val (.double (FP.l2d ((av + bv) + cv))), .second] [(.double (FP.l2d ((av + bv) + cv))), (.long bv), (.double r1)])) (fun _ k_ => XS.dload X7.here hx rfl (hb hby at_137) rfl k_) ?_
          obtain ⟨_, _, ⟨T9, L9, k9, n9⟩, -, X9, ⟨Lc9, hQ9, l9, y9, z9⟩, st9⟩ := Jvm.LawKit.callS X7 hx (y := (⟨"com/example/eigenvote/eigenvote/rank/WeightsScaledToSumOnePinLaw", "near", "(DJD)Z"⟩ : MethodName)) hown (mvT hZ (hw _ (List.mem_of_getElem? (i := 10) rfl))) (mvT hZ (hw _ (List.mem_of_getElem? (i := 11) rfl))) (mvT hZ (hw _ (List.mem_of_getElem? (i := 12) rfl))) (mvT hZ (hw _ (List.mem_of_getElem? (i := 13) rfl))) (by decide) (backOf (W := 0) (own_rm3 l Z a0 hw [] r1 bv (FP.l2d ((av + bv) + cv))  h5 n0 Z5 nr1) hZ (hw _ (List.mem_of_getElem? (i := 13) rfl)) (hw _ (List.mem_of_getElem? (i := 12) rfl)) (by decide) (by decide)) (g := (mkF m 139 #[.val (.int px), .val (.int py), .val (.int pz), .val (.int pm), .val (.long av), .second, .val (.long bv), .second, .val (.long cv), .second, .val (.long ((av + bv) + cv)), .second, .val (.ref b1), .val (.ref b1), .val (.double (FP.l2d ((av + bv) + cv))), .second] [(.double (FP.l2d ((av + bv) + cv))), (.long bv), (.double r1)])) rfl (by rw [hml]; rfl) (argsL := [(.double r1), (.long bv), (.double (FP.l2d ((av + bv) + cv)))]) (rest := []) (lenOf own_pd2 rfl) rfl (by show 2 * 0 + _ ≤ _; exact Nat.le_of_eq rfl) (hb hby at_139) (fun _ _ => ⟨rfl, e7, (by decide : 1 + 0 ≤ _), (by decide : 3 + 0 ≤ _)⟩)
          dsimp only [Pt.U, Pt.locs, Pt.cells, Pt.slots] at X9 l9 y9 z9 st9 hQ9
          subst l9 y9 z9
          obtain ⟨rfl, N9q, e9⟩ := hQ9
          have N9 := Fr.app N7 N9q
          refine own_w (T' := T9) (g' := (mkF m 142 #[.val (.int px), .val (.int py), .val (.int pz), .val (.int pm), .val (.long av), .second, .val (.long bv), .second, .val (.long cv), .second, .val (.long ((av + bv) + cv)), .second, .val (.ref b1), .val (.ref b1), .val (.double (FP.l2d ((av + bv) + cv))), .second] [(.int (1 : Int32))])) st9 ?_
          refine own_w (T' := T9) (g' := (mkF m 145 #[.val (.int px), .val (.int py), .val (.int pz), .val (.int pm), .val (.long av), .second, .val (.long bv), .second, .val (.long cv), .second, .val (.long ((av + bv) + cv)), .second, .val (.ref b1), .val (.ref b1), .val (.double (FP.l2d ((av + bv) + cv))), .second] [])) (fun _ k_ => XS.ifNo X9.here hx rfl (hb hby at_142) rfl ((if0 _ _).trans (feq (by decide)).1) k_) ?_
          refine own_w (T' := T9) (g' := (mkF m 147 #[.val (.int px), .val (.int py), .val (.int pz), .val (.int pm), .val (.long av), .second, .val (.long bv), .second, .val (.long cv), .second, .val (.long ((av + bv) + cv)), .second, .val (.ref b1), .val (.ref b1), .val (.double (FP.l2d ((av + bv) + cv))), .second] [(.ref b1)])) (fun _ k_ => XS.aload X9.here hx rfl (hb hby at_145) rfl rfl k_) ?_
          refine own_w (T' := T9) (g' := (mkF m 148 #[.val (.int px), .val (.int py), .val (.int pz), .val (.int pm), .val (.long av), .second, .val (.long bv), .second, .val (.long cv), .second, .val (.long ((av + bv) + cv)), .second, .val (.ref b1), .val (.ref b1), .val (.double (FP.l2d ((av + bv) + cv))), .second] [(.int (2 : Int32)), (.ref b1)])) (fun _ k_ => XS.iconst X9.here hx rfl (hb hby at_147) k_) ?_
          obtain ⟨cl10, Ar10, hs10⟩ := id V5
          refine own_w (T' := T9) (g' := (mkF m 149 #[.val (.int px), .val (.int py), .val (.int pz), .val (.int pm), .val (.long av), .second, .val (.long bv), .second, .val (.long cv), .second, .val (.long ((av + bv) + cv)), .second, .val (.ref b1), .val (.ref b1), .val (.double (FP.l2d ((av + bv) + cv))), .second] [(.double r2)])) (fun t_ k_ => X9.daload hx (j := (2 : Int32)) (v := .double r2) (by rw [e9]; exact Ar10.1) (State.isArrayOf_alike hZ.alike Ar10.2.1) Ar10.2.2 (own_ArD_in (i := 2) hs10 (by decide) (by simp)) (own_ArD_at (i := 2) hs10 (by decide) (show _ = some r2 from rfl)) (g := (mkF m 148 #[.val (.int px), .val (.int py), .val (.int pz), .val (.int pm), .val (.long av), .second, .val (.long bv), .second, .val (.long cv), .second, .val (.long ((av + bv) + cv)), .second, .val (.ref b1), .val (.ref b1), .val (.double (FP.l2d ((av + bv) + cv))), .second] [(.int (2 : Int32)), (.ref b1)])) rfl rfl (hb hby at_148) t_ k_) ?_
          refine own_w (T' := T9) (g' := (mkF m 151 #[.val (.int px), .val (.int py), .val (.int pz), .val (.int pm), .val (.long av), .second, .val (.long bv), .second, .val (.long cv), .second, .val (.long ((av + bv) + cv)), .second, .val (.ref b1), .val (.ref b1), .val (.double (FP.l2d ((av + bv) + cv))), .second] [(.long cv), (.double r2)])) (fun _ k_ => XS.lload X9.here hx rfl (hb hby at_149) rfl k_) ?_
          refine own_w (T' := T9) (g' := (mkF m 153 #[.val (.int px), .val (.int py), .val (.int pz), .val (.int pm), .val (.long av), .second, .val (.long bv), .second, .val (.long cv), .second, .val (.long ((av + bv) + cv)), .second, .val (.ref b1), .val (.ref b1), .val (.double (FP.l2d ((av + bv) + cv))), .second] [(.double (FP.l2d ((av + bv) + cv))), (.long cv), (.double r2)])) (fun _ k_ => XS.dload X9.here hx rfl (hb hby at_151) rfl k_) ?_
          obtain ⟨_, _, ⟨T11, L11, k11, n11⟩, -, X11, ⟨Lc11, hQ11, l11, y11, z11⟩, st11⟩ := Jvm.LawKit.callS X9 hx (y := (⟨"com/example/eigenvote/eigenvote/rank/WeightsScaledToSumOnePinLaw", "near", "(DJD)Z"⟩ : MethodName)) hown (mvT hZ (hw _ (List.mem_of_getElem? (i := 10) rfl))) (mvT hZ (hw _ (List.mem_of_getElem? (i := 11) rfl))) (mvT hZ (hw _ (List.mem_of_getElem? (i := 12) rfl))) (mvT hZ (hw _ (List.mem_of_getElem? (i := 13) rfl))) (by decide) (backOf (W := 0) (own_rm3 l Z a0 hw [] r2 cv (FP.l2d ((av + bv) + cv))  h5 n0 Z5 nr2) hZ (hw _ (List.mem_of_getElem? (i := 13) rfl)) (hw _ (List.mem_of_getElem? (i := 12) rfl)) (by decide) (by decide)) (g := (mkF m 153 #[.val (.int px), .val (.int py), .val (.int pz), .val (.int pm), .val (.long av), .second, .val (.long bv), .second, .val (.long cv), .second, .val (.long ((av + bv) + cv)), .second, .val (.ref b1), .val (.ref b1), .val (.double (FP.l2d ((av + bv) + cv))), .second] [(.double (FP.l2d ((av + bv) + cv))), (.long cv), (.double r2)])) rfl (by rw [hml]; rfl) (argsL := [(.double r2), (.long cv), (.double (FP.l2d ((av + bv) + cv)))]) (rest := []) (lenOf own_pd2 rfl) rfl (by show 2 * 0 + _ ≤ _; exact Nat.le_of_eq rfl) (hb hby at_153) (fun _ _ => ⟨rfl, e9, (by decide : 1 + 0 ≤ _), (by decide : 3 + 0 ≤ _)⟩)
          dsimp only [Pt.U, Pt.locs, Pt.cells, Pt.slots] at X11 l11 y11 z11 st11 hQ11
          subst l11 y11 z11
          obtain ⟨rfl, N11q, e11⟩ := hQ11
          have N11 := Fr.app N9 N11q
          refine own_w (T' := T11) (g' := (mkF m 156 #[.val (.int px), .val (.int py), .val (.int pz), .val (.int pm), .val (.long av), .second, .val (.long bv), .second, .val (.long cv), .second, .val (.long ((av + bv) + cv)), .second, .val (.ref b1), .val (.ref b1), .val (.double (FP.l2d ((av + bv) + cv))), .second] [(.int (1 : Int32))])) st11 ?_
          refine own_w (T' := T11) (g' := (mkF m 159 #[.val (.int px), .val (.int py), .val (.int pz), .val (.int pm), .val (.long av), .second, .val (.long bv), .second, .val (.long cv), .second, .val (.long ((av + bv) + cv)), .second, .val (.ref b1), .val (.ref b1), .val (.double (FP.l2d ((av + bv) + cv))), .second] [])) (fun _ k_ => XS.ifNo X11.here hx rfl (hb hby at_156) rfl ((if0 _ _).trans (feq (by decide)).1) k_) ?_
          refine own_w (T' := T11) (g' := (mkF m 160 #[.val (.int px), .val (.int py), .val (.int pz), .val (.int pm), .val (.long av), .second, .val (.long bv), .second, .val (.long cv), .second, .val (.long ((av + bv) + cv)), .second, .val (.ref b1), .val (.ref b1), .val (.double (FP.l2d ((av + bv) + cv))), .second] [(.int (1 : Int32))])) (fun _ k_ => XS.iconst X11.here hx rfl (hb hby at_159) k_) ?_
          refine own_w (T' := T11) (g' := (mkF m 164 #[.val (.int px), .val (.int py), .val (.int pz), .val (.int pm), .val (.long av), .second, .val (.long bv), .second, .val (.long cv), .second, .val (.long ((av + bv) + cv)), .second, .val (.ref b1), .val (.ref b1), .val (.double (FP.l2d ((av + bv) + cv))), .second] [(.int (1 : Int32))])) (fun _ k_ => XS.goto X11.here hx rfl (pc0 := 160) (pc' := 164) rfl (hb hby at_160) (by decide) (by decide) k_) ?_
          obtain ⟨fs, hr, hrun, hended, hW, hsame⟩ := X11.leave (v := some (.int (1 : Int32))) (fun h => by rw [Bd.returns] at h; cases h)
          exact ⟨_, _, retOut X11 hx Bd.returns rfl (Or.inl ⟨rfl, Or.inr (Or.inl rfl), _, rfl⟩) (hb hby at_164) hr, hrun, hended, _, _, rfl, (by show own_Q0 Z px py pz pm h0 n0 _ T11.heap _; rw [e11]; exact ⟨rfl, N11⟩), ⟨_, rfl⟩, hW, hsame.mono (by decide) (by decide)⟩
      refine own_w (T' := TJ) (g' := (mkF m 35 #[.val (.int px), .val (.int py), .val (.int pz), .val (.int pm), .val (.long av), .second, .val (.long bv), .second, .unset, .unset, .unset, .unset, .unset, .unset, .unset, .unset] [(.int pm)])) (fun _ k_ => XS.iloadN XJ.here hx rfl (hb hby at_34) rfl k_) ?_
      refine own_w (T' := TJ) (g' := (mkF m 36 #[.val (.int px), .val (.int py), .val (.int pz), .val (.int pm), .val (.long av), .second, .val (.long bv), .second, .unset, .unset, .unset, .unset, .unset, .unset, .unset, .unset] [(.int (4 : Int32)), (.int pm)])) (fun _ k_ => XS.iconst XJ.here hx rfl (hb hby at_35) k_) ?_
      refine own_w (T' := TJ) (g' := (mkF m 37 #[.val (.int px), .val (.int py), .val (.int pz), .val (.int pm), .val (.long av), .second, .val (.long bv), .second, .unset, .unset, .unset, .unset, .unset, .unset, .unset, .unset] [(.int (pm &&& (4 : Int32)))])) (fun _ k_ => XS.iand XJ.here hx rfl (hb hby at_36) rfl k_) ?_
      by_cases hc37 : (pm &&& (4 : Int32)) = (0 : Int32)
      · refine own_w (T' := TJ) (g' := (mkF m 44 #[.val (.int px), .val (.int py), .val (.int pz), .val (.int pm), .val (.long av), .second, .val (.long bv), .second, .unset, .unset, .unset, .unset, .unset, .unset, .unset, .unset] [])) (fun _ k_ => XS.ifYes XJ.here hx rfl (pc0 := 37) (pc' := 44) rfl (hb hby at_37) rfl ((if0 _ _).trans (teq hc37).1) (by decide) (by decide) k_) ?_
        refine own_w (T' := TJ) (g' := (mkF m 45 #[.val (.int px), .val (.int py), .val (.int pz), .val (.int pm), .val (.long av), .second, .val (.long bv), .second, .unset, .unset, .unset, .unset, .unset, .unset, .unset, .unset] [(.int pz)])) (fun _ k_ => XS.iloadN XJ.here hx rfl (hb hby at_44) rfl k_) ?_
        refine own_w (T' := TJ) (g' := (mkF m 47 #[.val (.int px), .val (.int py), .val (.int pz), .val (.int pm), .val (.long av), .second, .val (.long bv), .second, .unset, .unset, .unset, .unset, .unset, .unset, .unset, .unset] [(.int (2147483647 : Int32)), (.int pz)])) (XJ.ldcInt hx hown (mvT hZ (hw _ (List.mem_of_getElem? (i := 0) rfl))) (g := (mkF m 45 #[.val (.int px), .val (.int py), .val (.int pz), .val (.int pm), .val (.long av), .second, .val (.long bv), .second, .unset, .unset, .unset, .unset, .unset, .unset, .unset, .unset] [(.int pz)])) rfl (hb hby at_45)) ?_
        refine own_w (T' := TJ) (g' := (mkF m 48 #[.val (.int px), .val (.int py), .val (.int pz), .val (.int pm), .val (.long av), .second, .val (.long bv), .second, .unset, .unset, .unset, .unset, .unset, .unset, .unset, .unset] [(.int (pz &&& (2147483647 : Int32)))])) (fun _ k_ => XS.iand XJ.here hx rfl (hb hby at_47) rfl k_) ?_
        refine own_w (T' := TJ) (g' := (mkF m 49 #[.val (.int px), .val (.int py), .val (.int pz), .val (.int pm), .val (.long av), .second, .val (.long bv), .second, .unset, .unset, .unset, .unset, .unset, .unset, .unset, .unset] [(.long ((pz &&& (2147483647 : Int32)).toInt64))])) (fun _ k_ => XS.i2l XJ.here hx rfl (hb hby at_48) rfl k_) ?_
        exact J49 _ _ XJ eJ NJ ((pz &&& (2147483647 : Int32)).toInt64) (own_rg pz)
      · refine own_w (T' := TJ) (g' := (mkF m 40 #[.val (.int px), .val (.int py), .val (.int pz), .val (.int pm), .val (.long av), .second, .val (.long bv), .second, .unset, .unset, .unset, .unset, .unset, .unset, .unset, .unset] [])) (fun _ k_ => XS.ifNo XJ.here hx rfl (hb hby at_37) rfl ((if0 _ _).trans (feq hc37).1) k_) ?_
        refine own_w (T' := TJ) (g' := (mkF m 41 #[.val (.int px), .val (.int py), .val (.int pz), .val (.int pm), .val (.long av), .second, .val (.long bv), .second, .unset, .unset, .unset, .unset, .unset, .unset, .unset, .unset] [(.long (0 : Int64))])) (fun _ k_ => XS.lconst XJ.here hx rfl (hb hby at_40) k_) ?_
        refine own_w (T' := TJ) (g' := (mkF m 49 #[.val (.int px), .val (.int py), .val (.int pz), .val (.int pm), .val (.long av), .second, .val (.long bv), .second, .unset, .unset, .unset, .unset, .unset, .unset, .unset, .unset] [(.long (0 : Int64))])) (fun _ k_ => XS.goto XJ.here hx rfl (pc0 := 41) (pc' := 49) rfl (hb hby at_41) (by decide) (by decide) k_) ?_
        exact J49 _ _ XJ eJ NJ (0 : Int64) (by decide)
    refine own_w (T' := TJ) (g' := (mkF m 18 #[.val (.int px), .val (.int py), .val (.int pz), .val (.int pm), .val (.long av), .second, .unset, .unset, .unset, .unset, .unset, .unset, .unset, .unset, .unset, .unset] [(.int pm)])) (fun _ k_ => XS.iloadN XJ.here hx rfl (hb hby at_17) rfl k_) ?_
    refine own_w (T' := TJ) (g' := (mkF m 19 #[.val (.int px), .val (.int py), .val (.int pz), .val (.int pm), .val (.long av), .second, .unset, .unset, .unset, .unset, .unset, .unset, .unset, .unset, .unset, .unset] [(.int (2 : Int32)), (.int pm)])) (fun _ k_ => XS.iconst XJ.here hx rfl (hb hby at_18) k_) ?_
    refine own_w (T' := TJ) (g' := (mkF m 20 #[.val (.int px), .val (.int py), .val (.int pz), .val (.int pm), .val (.long av), .second, .unset, .unset, .unset, .unset, .unset, .unset, .unset, .unset, .unset, .unset] [(.int (pm &&& (2 : Int32)))])) (fun _ k_ => XS.iand XJ.here hx rfl (hb hby at_19) rfl k_) ?_
    by_cases hc20 : (pm &&& (2 : Int32)) = (0 : Int32)
    · refine own_w (T' := TJ) (g' := (mkF m 27 #[.val (.int px), .val (.int py), .val (.int pz), .val (.int pm), .val (.long av), .second, .unset, .unset, .unset, .unset, .unset, .unset, .unset, .unset, .unset, .unset] [])) (fun _ k_ => XS.ifYes XJ.here hx rfl (pc0 := 20) (pc' := 27) rfl (hb hby at_20) rfl ((if0 _ _).trans (teq hc20).1) (by decide) (by decide) k_) ?_
      refine own_w (T' := TJ) (g' := (mkF m 28 #[.val (.int px), .val (.int py), .val (.int pz), .val (.int pm), .val (.long av), .second, .unset, .unset, .unset, .unset, .unset, .unset, .unset, .unset, .unset, .unset] [(.int py)])) (fun _ k_ => XS.iloadN XJ.here hx rfl (hb hby at_27) rfl k_) ?_
      refine own_w (T' := TJ) (g' := (mkF m 30 #[.val (.int px), .val (.int py), .val (.int pz), .val (.int pm), .val (.long av), .second, .unset, .unset, .unset, .unset, .unset, .unset, .unset, .unset, .unset, .unset] [(.int (2147483647 : Int32)), (.int py)])) (XJ.ldcInt hx hown (mvT hZ (hw _ (List.mem_of_getElem? (i := 0) rfl))) (g := (mkF m 28 #[.val (.int px), .val (.int py), .val (.int pz), .val (.int pm), .val (.long av), .second, .unset, .unset, .unset, .unset, .unset, .unset, .unset, .unset, .unset, .unset] [(.int py)])) rfl (hb hby at_28)) ?_
      refine own_w (T' := TJ) (g' := (mkF m 31 #[.val (.int px), .val (.int py), .val (.int pz), .val (.int pm), .val (.long av), .second, .unset, .unset, .unset, .unset, .unset, .unset, .unset, .unset, .unset, .unset] [(.int (py &&& (2147483647 : Int32)))])) (fun _ k_ => XS.iand XJ.here hx rfl (hb hby at_30) rfl k_) ?_
      refine own_w (T' := TJ) (g' := (mkF m 32 #[.val (.int px), .val (.int py), .val (.int pz), .val (.int pm), .val (.long av), .second, .unset, .unset, .unset, .unset, .unset, .unset, .unset, .unset, .unset, .unset] [(.long ((py &&& (2147483647 : Int32)).toInt64))])) (fun _ k_ => XS.i2l XJ.here hx rfl (hb hby at_31) rfl k_) ?_
      exact J32 _ _ XJ eJ NJ ((py &&& (2147483647 : Int32)).toInt64) (own_rg py)
    · refine own_w (T' := TJ) (g' := (mkF m 23 #[.val (.int px), .val (.int py), .val (.int pz), .val (.int pm), .val (.long av), .second, .unset, .unset, .unset, .unset, .unset, .unset, .unset, .unset, .unset, .unset] [])) (fun _ k_ => XS.ifNo XJ.here hx rfl (hb hby at_20) rfl ((if0 _ _).trans (feq hc20).1) k_) ?_
      refine own_w (T' := TJ) (g' := (mkF m 24 #[.val (.int px), .val (.int py), .val (.int pz), .val (.int pm), .val (.long av), .second, .unset, .unset, .unset, .unset, .unset, .unset, .unset, .unset, .unset, .unset] [(.long (0 : Int64))])) (fun _ k_ => XS.lconst XJ.here hx rfl (hb hby at_23) k_) ?_
      refine own_w (T' := TJ) (g' := (mkF m 32 #[.val (.int px), .val (.int py), .val (.int pz), .val (.int pm), .val (.long av), .second, .unset, .unset, .unset, .unset, .unset, .unset, .unset, .unset, .unset, .unset] [(.long (0 : Int64))])) (fun _ k_ => XS.goto XJ.here hx rfl (pc0 := 24) (pc' := 32) rfl (hb hby at_24) (by decide) (by decide) k_) ?_
      exact J32 _ _ XJ eJ NJ (0 : Int64) (by decide)
  refine own_w (T' := s₁) (g' := (mkF m 1 #[.val (.int px), .val (.int py), .val (.int pz), .val (.int pm), .unset, .unset, .unset, .unset, .unset, .unset, .unset, .unset, .unset, .unset, .unset, .unset] [(.int pm)])) (fun _ k_ => XS.iloadN X0.here hx rfl (hb hby at_0) rfl k_) ?_
  refine own_w (T' := s₁) (g' := (mkF m 2 #[.val (.int px), .val (.int py), .val (.int pz), .val (.int pm), .unset, .unset, .unset, .unset, .unset, .unset, .unset, .unset, .unset, .unset, .unset, .unset] [(.int (1 : Int32)), (.int pm)])) (fun _ k_ => XS.iconst X0.here hx rfl (hb hby at_1) k_) ?_
  refine own_w (T' := s₁) (g' := (mkF m 3 #[.val (.int px), .val (.int py), .val (.int pz), .val (.int pm), .unset, .unset, .unset, .unset, .unset, .unset, .unset, .unset, .unset, .unset, .unset, .unset] [(.int (pm &&& (1 : Int32)))])) (fun _ k_ => XS.iand X0.here hx rfl (hb hby at_2) rfl k_) ?_
  by_cases hc3 : (pm &&& (1 : Int32)) = (0 : Int32)
  · refine own_w (T' := s₁) (g' := (mkF m 10 #[.val (.int px), .val (.int py), .val (.int pz), .val (.int pm), .unset, .unset, .unset, .unset, .unset, .unset, .unset, .unset, .unset, .unset, .unset, .unset] [])) (fun _ k_ => XS.ifYes X0.here hx rfl (pc0 := 3) (pc' := 10) rfl (hb hby at_3) rfl ((if0 _ _).trans (teq hc3).1) (by decide) (by decide) k_) ?_
    refine own_w (T' := s₁) (g' := (mkF m 11 #[.val (.int px), .val (.int py), .val (.int pz), .val (.int pm), .unset, .unset, .unset, .unset, .unset, .unset, .unset, .unset, .unset, .unset, .unset, .unset] [(.int px)])) (fun _ k_ => XS.iloadN X0.here hx rfl (hb hby at_10) rfl k_) ?_
    refine own_w (T' := s₁) (g' := (mkF m 13 #[.val (.int px), .val (.int py), .val (.int pz), .val (.int pm), .unset, .unset, .unset, .unset, .unset, .unset, .unset, .unset, .unset, .unset, .unset, .unset] [(.int (2147483647 : Int32)), (.int px)])) (X0.ldcInt hx hown (mvT hZ (hw _ (List.mem_of_getElem? (i := 0) rfl))) (g := (mkF m 11 #[.val (.int px), .val (.int py), .val (.int pz), .val (.int pm), .unset, .unset, .unset, .unset, .unset, .unset, .unset, .unset, .unset, .unset, .unset, .unset] [(.int px)])) rfl (hb hby at_11)) ?_
    refine own_w (T' := s₁) (g' := (mkF m 14 #[.val (.int px), .val (.int py), .val (.int pz), .val (.int pm), .unset, .unset, .unset, .unset, .unset, .unset, .unset, .unset, .unset, .unset, .unset, .unset] [(.int (px &&& (2147483647 : Int32)))])) (fun _ k_ => XS.iand X0.here hx rfl (hb hby at_13) rfl k_) ?_
    refine own_w (T' := s₁) (g' := (mkF m 15 #[.val (.int px), .val (.int py), .val (.int pz), .val (.int pm), .unset, .unset, .unset, .unset, .unset, .unset, .unset, .unset, .unset, .unset, .unset, .unset] [(.long ((px &&& (2147483647 : Int32)).toInt64))])) (fun _ k_ => XS.i2l X0.here hx rfl (hb hby at_14) rfl k_) ?_
    exact J15 _ _ X0 e0 N0 ((px &&& (2147483647 : Int32)).toInt64) (own_rg px)
  · refine own_w (T' := s₁) (g' := (mkF m 6 #[.val (.int px), .val (.int py), .val (.int pz), .val (.int pm), .unset, .unset, .unset, .unset, .unset, .unset, .unset, .unset, .unset, .unset, .unset, .unset] [])) (fun _ k_ => XS.ifNo X0.here hx rfl (hb hby at_3) rfl ((if0 _ _).trans (feq hc3).1) k_) ?_
    refine own_w (T' := s₁) (g' := (mkF m 7 #[.val (.int px), .val (.int py), .val (.int pz), .val (.int pm), .unset, .unset, .unset, .unset, .unset, .unset, .unset, .unset, .unset, .unset, .unset, .unset] [(.long (0 : Int64))])) (fun _ k_ => XS.lconst X0.here hx rfl (hb hby at_6) k_) ?_
    refine own_w (T' := s₁) (g' := (mkF m 15 #[.val (.int px), .val (.int py), .val (.int pz), .val (.int pm), .unset, .unset, .unset, .unset, .unset, .unset, .unset, .unset, .unset, .unset, .unset, .unset] [(.long (0 : Int64))])) (fun _ k_ => XS.goto X0.here hx rfl (pc0 := 7) (pc' := 15) rfl (hb hby at_7) (by decide) (by decide) k_) ?_
    exact J15 _ _ X0 e0 N0 (0 : Int64) (by decide)
set_option maxRecDepth 65536 in
set_option maxHeartbeats 40000000 in
theorem comes_1 {Post : Tables → Env → Array Value → State → Outcome → State → Prop} (hpost : ∀ tb e args s v u, (limb_1_1.after args s (.returned v) u = true ∧ limb_1_2.after args s (.returned v) u = true ∧ True) → FrameEnd s (.returned v) u (Jvm.fieldLocs frame_1_writes args s ++ Jvm.arrayLocs frame_1_arrays args s ++ Jvm.staticLocs frame_1_statics s) 16 128 → Post tb e args s (.returned v) u) :
    ArmFor flags0 classFile x code maxLocals ret World_1 tables_1 room_1 Calls_1 rest_1 Pre_1 Post := by
  intro l hfl _ _ p e ha hc hk s m args below hf hA hF happ hP
  obtain ⟨hcalls, hrest, hpre⟩ := hP
  obtain ⟨-, -, -, hnamed, -, -, -, hat⟩ := (Spec.applies_iff hf).mp happ
  obtain ⟨hg, hn⟩ := and_e (Cond.before_iff.mp (show (Jvm.Cond.and given_1 narrow_1).before args s = true from hpre))
  obtain ⟨hcount, hr0⟩ := and_e hg
  obtain ⟨ga0, hr1⟩ := and_e hr0
  obtain ⟨ga1, hr2⟩ := and_e hr1
  obtain ⟨ga2, hr3⟩ := and_e hr2
  have ga3 := hr3
  obtain ⟨w0, w1, w2, w3, rfl⟩ : ∃ w0 w1 w2 w3 : Value, args = #[w0, w1, w2, w3] := by
    have hs : args.size = 4 := by simpa [Cond.value, given_1] using hcount
    obtain ⟨L⟩ := args
    match L, hs with
    | [w0, w1, w2, w3], _ => exact ⟨w0, w1, w2, w3, rfl⟩
  have hw := fun d (hd : d ∈ tables_1) => atoms_spec (ws := Jvm.Cond.code x code maxLocals ret :: tables_1) hat d (List.mem_cons_of_mem _ hd)
  obtain ⟨i0, ei0⟩ := is_v ga0
  obtain rfl : w0 = (.int i0) := Option.some.inj ei0
  obtain ⟨i1, ei1⟩ := is_v ga1
  obtain rfl : w1 = (.int i1) := Option.some.inj ei1
  obtain ⟨i2, ei2⟩ := is_v ga2
  obtain rfl : w2 = (.int i2) := Option.some.inj ei2
  obtain ⟨i3, ei3⟩ := is_v ga3
  obtain rfl : w3 = (.int i3) := Option.some.inj ei3
  obtain ⟨n, o, h1, h2, h3, _, L, rfl, ⟨rfl, N⟩, hq⟩ := own_rm0 l s _ hw tables_1 i0 i1 i2 i3 s.heap s.heap.size (Nat.le_refl _) p e ha hc hk s m _ below hf ((Spec.applies_iff_loose hf).mp happ).1 ⟨rfl, State.Warmed39.refl s, rfl⟩ trivial
  refine ⟨n, _, h1, h2, h3, hpost _ _ _ _ _ _ ⟨Cond.after_iff.mpr rfl, Cond.after_iff.mpr (eq_i res_at (Term.int_eval (1)) rfl), trivial⟩ ⟨hq.1, hq.2.1, (hq.2.2.sift fun y hy => Or.inr (N y hy)).mono (by decide) (by decide)⟩⟩
theorem main_1_1 : Claimed_1_1 := comes_1 fun _ _ _ _ _ _ h hF => ⟨h.1, hF⟩
theorem main_1_2 : Claimed_1_2 := comes_1 fun _ _ _ _ _ _ h hF => ⟨h.2.1, hF⟩
end Jvm.Pilot.@@N@@
namespace Jvm.Pilot.@@N@@
open Jvm Jvm.ClassFile Sem Op Lib Jvm.Free Jvm.Stand Jvm.Pilot.@@N@@.Jvm.D
/-! MADE BY PROGRAM (witnessworld.py) out of the Statement's table words and the real class files: 12 classes; the members and pool entries that the words name. The judged class is class 1, her method 1. -/
namespace start1
open Jvm.ClassFile
def u (s : String) : CpInfo := .utf8 (stringToUtf16 s)
/-- a pool by its gaps: so many unusable entries, then the entry; so many at the end -/
def gap : Nat → List CpInfo → List CpInfo
  | 0, r => r
  | n + 1, r => .unusable :: gap n r
def poolList (es : List (Nat × CpInfo)) (last : Nat) : List CpInfo := es.foldr (fun e r => gap e.1 (e.2 :: r)) (gap last [])
def pool (es : List (Nat × CpInfo)) (last : Nat) : Array CpInfo := ⟨poolList es last⟩
def fileOf (pool : Array CpInfo) (this : Nat) (attrs : Array Attribute := #[]) (ms : Array MethodInfo := #[]) (fl : Nat := 33) (sup : Nat := 0) (ifs : Array Nat := #[]) (fds : Array FieldInfo := #[]) : ClassFile where
  minorVersion := 0
  majorVersion := 65
  constantPool := pool
  accessFlags := fl
  thisClass := this
  superClass := sup
  interfaces := ifs
  fields := fds
  methods := ms
  attributes := attrs
def plain (name : String) (sup : Option ClassId) : Class where
  name := name
  kind := .ordinary
  loader := none
  accessFlags := 33
  super := sup
  interfaces := #[]
  cf := none
  fields := #[]
  methods := #[]
  instanceTypes := #[]
  staticTypes := #[]
  resolved := #[]
  callSites := []
  init := .initialized
  statics := none
  mirror := none

def pool0 : Array CpInfo := pool [(5, u "<init>"), (0, u "()V"), (1, .class_ 10), (1, u "java/lang/Object")] 113

def k0m0 : Method := { name := "<init>", desc := "()V", sig := { parameters := [], returnType := none }, accessFlags := 1, code := none }
/-- java/lang/Object -/
def k0 : Class := { plain "java/lang/Object" none with
  accessFlags := 33
  interfaces := #[]
  cf := some (fileOf pool0 8 #[] #[{ accessFlags := 1, nameIndex := 5, descriptorIndex := 6, attributes := #[] }] 33 0 #[] #[])
  fields := #[]
  methods := #[k0m0]
  instanceTypes := #[]
  staticTypes := #[]
  resolved := Array.replicate 124 none
  statics := none }

def pool1 : Array CpInfo := pool [(2, .class_ 4), (1, u "java/lang/Object"), (0, u "<init>"), (0, u "()V"), (0, .integer 2147483647), (0, .methodref 9 10), (0, .class_ 11), (0, .nameAndType 12 13), (0, u "com/example/eigenvote/eigenvote/rank/Weights"), (0, u "scaledToSumOne"), (0, u "([D)[D"), (0, .methodref 15 16), (0, .class_ 17), (0, .nameAndType 18 19), (0, u "com/example/eigenvote/eigenvote/rank/WeightsScaledToSumOnePinLaw"), (0, u "near"), (0, u "(DJD)Z"), (0, .double 4427486594234968593), (3, u "law"), (0, u "(IIII)Z")] 5

def k1m0 : Method := { name := "<init>", desc := "()V", sig := { parameters := [], returnType := none }, accessFlags := 1, code := none }
def k1c1 : Code := { maxStack := 6, maxLocals := 16, code := code, exceptionTable := #[], attributes := #[] }
def k1m1 : Method := { name := "law", desc := "(IIII)Z", sig := { parameters := [.int, .int, .int, .int], returnType := some .boolean }, accessFlags := 9, code := some k1c1 }
def k1c2 : Code := { maxStack := 4, maxLocals := 10, code := method_3_code, exceptionTable := #[], attributes := #[] }
def k1m2 : Method := { name := "near", desc := "(DJD)Z", sig := { parameters := [.double, .long, .double], returnType := some .boolean }, accessFlags := 10, code := some k1c2 }
/-- com/example/eigenvote/eigenvote/rank/WeightsScaledToSumOnePinLaw -/
def k1 : Class := { plain "com/example/eigenvote/eigenvote/rank/WeightsScaledToSumOnePinLaw" (some 0) with
  accessFlags := 49
  interfaces := #[]
  cf := some (fileOf pool1 15 #[] #[{ accessFlags := 1, nameIndex := 5, descriptorIndex := 6, attributes := #[] }, { accessFlags := 9, nameIndex := 24, descriptorIndex := 25, attributes := #[] }, { accessFlags := 10, nameIndex := 18, descriptorIndex := 19, attributes := #[] }] 49 2 #[] #[])
  fields := #[]
  methods := #[k1m0, k1m1, k1m2]
  instanceTypes := #[]
  staticTypes := #[]
  resolved := Array.replicate 31 none
  statics := none }

def pool2 : Array CpInfo := pool [(2, .class_ 4), (1, u "java/lang/Object"), (0, u "<init>"), (0, u "()V"), (53, .methodref 61 62), (0, .class_ 63), (0, .nameAndType 64 65), (0, u "java/lang/Math"), (0, u "max"), (0, u "(DD)D"), (0, .class_ 67), (0, u "com/example/eigenvote/eigenvote/rank/Weights"), (7, u "scaledToSumOne"), (0, u "([D)[D")] 20

def k2m0 : Method := { name := "<init>", desc := "()V", sig := { parameters := [], returnType := none }, accessFlags := 2, code := none }
def k2c1 : Code := { maxStack := 6, maxLocals := 8, code := prog_49_method_3_code, exceptionTable := #[], attributes := #[] }
def k2m1 : Method := { name := "scaledToSumOne", desc := "([D)[D", sig := { parameters := [(.array .double)], returnType := some (.array .double) }, accessFlags := 8, code := some k2c1 }
/-- com/example/eigenvote/eigenvote/rank/Weights -/
def k2 : Class := { plain "com/example/eigenvote/eigenvote/rank/Weights" (some 0) with
  accessFlags := 32
  interfaces := #[]
  cf := some (fileOf pool2 66 #[] #[{ accessFlags := 2, nameIndex := 5, descriptorIndex := 6, attributes := #[] }, { accessFlags := 8, nameIndex := 75, descriptorIndex := 76, attributes := #[] }] 32 2 #[] #[])
  fields := #[]
  methods := #[k2m0, k2m1]
  instanceTypes := #[]
  staticTypes := #[]
  resolved := Array.replicate 97 none
  statics := none }

def pool3 : Array CpInfo := pool [(1, .class_ 2), (0, u "java/lang/Math"), (1, .class_ 6), (1, u "java/lang/Object"), (0, u "<init>"), (0, u "()V"), (43, u "(DD)D"), (45, .class_ 100), (1, u "java/lang/Math$RandomNumberGeneratorHolder"), (71, u "negativeZeroFloatBits"), (0, u "J"), (2, u "negativeZeroDoubleBits"), (21, u "max"), (46, u "$assertionsDisabled"), (0, u "Z"), (91, u "twoToTheDoubleScaleDown"), (0, u "D"), (4, u "twoToTheDoubleScaleUp"), (9, u "E"), (3, u "PI"), (2, u "TAU"), (2, u "DEGREES_TO_RADIANS"), (0, u "RADIANS_TO_DEGREES")] 94

def k3m0 : Method := { name := "<init>", desc := "()V", sig := { parameters := [], returnType := none }, accessFlags := 2, code := none }
def k3c1 : Code := { maxStack := 4, maxLocals := 4, code := jdk_29_method_68_code, exceptionTable := #[], attributes := #[] }
def k3m1 : Method := { name := "max", desc := "(DD)D", sig := { parameters := [.double, .double], returnType := some .double }, accessFlags := 9, code := some k3c1 }
/-- java/lang/Math -/
def k3 : Class := { plain "java/lang/Math" (some 0) with
  accessFlags := 49
  interfaces := #[]
  cf := some (fileOf pool3 1 #[.nestMembers #[98]] #[{ accessFlags := 2, nameIndex := 7, descriptorIndex := 8, attributes := #[] }, { accessFlags := 9, nameIndex := 198, descriptorIndex := 52, attributes := #[] }] 49 4 #[] #[{ accessFlags := 25, nameIndex := 354, descriptorIndex := 339, attributes := #[] }, { accessFlags := 25, nameIndex := 358, descriptorIndex := 339, attributes := #[] }, { accessFlags := 25, nameIndex := 361, descriptorIndex := 339, attributes := #[] }, { accessFlags := 26, nameIndex := 364, descriptorIndex := 339, attributes := #[] }, { accessFlags := 26, nameIndex := 365, descriptorIndex := 339, attributes := #[] }, { accessFlags := 26, nameIndex := 172, descriptorIndex := 173, attributes := #[] }, { accessFlags := 26, nameIndex := 176, descriptorIndex := 173, attributes := #[] }, { accessFlags := 8, nameIndex := 344, descriptorIndex := 339, attributes := #[] }, { accessFlags := 8, nameIndex := 338, descriptorIndex := 339, attributes := #[] }, { accessFlags := 4120, nameIndex := 245, descriptorIndex := 246, attributes := #[] }])
  fields := #[{ name := "E", type := .double, accessFlags := 25, slot := 0, constantValue := 0 }, { name := "PI", type := .double, accessFlags := 25, slot := 1, constantValue := 0 }, { name := "TAU", type := .double, accessFlags := 25, slot := 2, constantValue := 0 }, { name := "DEGREES_TO_RADIANS", type := .double, accessFlags := 26, slot := 3, constantValue := 0 }, { name := "RADIANS_TO_DEGREES", type := .double, accessFlags := 26, slot := 4, constantValue := 0 }, { name := "negativeZeroFloatBits", type := .long, accessFlags := 26, slot := 5, constantValue := 0 }, { name := "negativeZeroDoubleBits", type := .long, accessFlags := 26, slot := 6, constantValue := 0 }, { name := "twoToTheDoubleScaleUp", type := .double, accessFlags := 8, slot := 7, constantValue := 0 }, { name := "twoToTheDoubleScaleDown", type := .double, accessFlags := 8, slot := 8, constantValue := 0 }, { name := "$assertionsDisabled", type := .boolean, accessFlags := 4120, slot := 9, constantValue := 0 }]
  methods := #[k3m0, k3m1]
  instanceTypes := #[]
  staticTypes := #[.double, .double, .double, .double, .double, .long, .long, .double, .double, .boolean]
  resolved := Array.replicate 460 none
  statics := none }

def pool4 : Array CpInfo := pool [(1, u "java/lang/Cloneable"), (0, .class_ 1), (0, u "java/lang/Object"), (0, .class_ 3)] 3

/-- java/lang/Cloneable -/
def k4 : Class := { plain "java/lang/Cloneable" (some 0) with
  accessFlags := 1537
  interfaces := #[]
  cf := some (fileOf pool4 2 #[] #[] 1537 4 #[] #[])
  fields := #[]
  methods := #[]
  instanceTypes := #[]
  staticTypes := #[]
  resolved := Array.replicate 8 none
  statics := none }

def pool5 : Array CpInfo := pool [(1, u "java/io/Serializable"), (0, .class_ 1), (0, u "java/lang/Object"), (0, .class_ 3)] 3

/-- java/io/Serializable -/
def k5 : Class := { plain "java/io/Serializable" (some 0) with
  accessFlags := 1537
  interfaces := #[]
  cf := some (fileOf pool5 2 #[] #[] 1537 4 #[] #[])
  fields := #[]
  methods := #[]
  instanceTypes := #[]
  staticTypes := #[]
  resolved := Array.replicate 8 none
  statics := none }

/-- the primitive byte -/
def k6 : Class := { plain "byte" none with kind := .primitive 'B', accessFlags := 0x411 }
/-- [B -/
def k7 : Class := { plain "[B" (some 0) with kind := .array 6 .byte, interfaces := #[4, 5], accessFlags := 1041 }

/-- the primitive double -/
def k8 : Class := { plain "double" none with kind := .primitive 'D', accessFlags := 0x411 }
/-- [D -/
def k9 : Class := { plain "[D" (some 0) with kind := .array 8 .double, interfaces := #[4, 5], accessFlags := 1041 }

/-- the primitive int -/
def k10 : Class := { plain "int" none with kind := .primitive 'I', accessFlags := 0x411 }
/-- [I -/
def k11 : Class := { plain "[I" (some 0) with kind := .array 10 .int, interfaces := #[4, 5], accessFlags := 1041 }

def heap : Heap := #[]
def classes : Array Class := #[k0, k1, k2, k3, k4, k5, k6, k7, k8, k9, k10, k11]
def interned : List (Array UInt16 × Addr) := []
def slotsUsed : Nat := 0
def theMethod : MethodId := ⟨1, 1⟩
def args0 : Array Value := #[.int 1, .int 2, .int 3, .int 0]
def aboutOver (below : List Frame) : State where
  vm := { classes := classes, interned := interned.toArray }
  heap := heap
  slotsUsed := slotsUsed
  threads := #[{ frames := .invoking theMethod args0 :: below }]
def below0 : List Frame := [.native { method := ⟨0, 0⟩, args := #[] }]
def about1 : State := aboutOver below0
def p0 : Program := .bare "" "" ""
def e0 : Env := launch0.env 0 0 0
theorem w_frames : about1.frames = Frame.invoking theMethod args0 :: below0 := rfl
set_option maxRecDepth 65536 in
theorem w_args : argsFit about1.vm theMethod args0 = true := by decide +kernel
set_option maxRecDepth 65536 in
theorem w_heap : heapFits about1 = true := by decide +kernel
set_option maxRecDepth 65536 in
theorem w_runnable : about1.curStatus? = some .runnable := by decide +kernel
set_option maxRecDepth 65536 in
theorem w_alone : about1.alone = true := by decide +kernel
set_option maxRecDepth 65536 in
theorem w_named : about1.methodNamed? x = some theMethod := by decide +kernel
set_option maxRecDepth 65536 in
theorem w_hears : about1.hears theMethod below0 = true := by decide +kernel
set_option maxRecDepth 65536 in
theorem w_ripe : about1.ripe theMethod args0 below0 = true := by decide +kernel
theorem w_running : about1.status = .running := rfl
set_option maxRecDepth 65536 in
theorem w_room : about1.hasRoom e0.platform room_1 = true :=
  launch0.hasRoom_least _ room_1 (by decide +kernel) (by decide +kernel) (by decide +kernel) (by decide +kernel) (by decide +kernel) (by decide +kernel)
theorem allAtoms_all (ts : List Jvm.Cond) (a : Array Jvm.Value) (st : Jvm.State) : (allAtoms ts).before a st = ts.all (fun c => c.before a st) := by
  induction ts with
  | nil => rfl
  | cons c t ih =>
    show (Jvm.Cond.and c (allAtoms t)).before a st = _
    rw [Jvm.Cond.before_and, ih, List.all_cons]
def words1 : List Jvm.Cond := Jvm.Cond.code x code maxLocals ret :: tables_1
/-- a 'code' word, met by the world's own term for the bytes: nothing is compared byte by byte -/
theorem code_word {y : MethodName} {bytes : ByteArray} {mx : Nat} {rt : Option FieldType} {a : Array Value} {s : State} {m : MethodId} {meth : Method} {c : Code} (h1 : s.methodNamed? y = some m) (h2 : s.vm.method? m = some meth) (h3 : meth.code = some c) (h4 : c.code = bytes)
    (h5 : (c.maxLocals == mx && c.exceptionTable.isEmpty && decide (c.maxStack ≤ mostOperands) && decide (meth.sig.returnType = rt) && !meth.locks && decide (parseMethodDescriptor y.desc = some meth.sig)) = true) : (Jvm.Cond.code y bytes mx rt).before a s = true := by
  simp only [Bool.and_eq_true, beq_iff_eq, Bool.not_eq_true', decide_eq_true_eq] at h5
  obtain ⟨⟨⟨⟨⟨g1, g2⟩, g3⟩, g4⟩, g5⟩, g6⟩ := h5
  simp [Cond.before, Cond.holds, Cond.value, h1, h2, h3, h4, g1, g2, g3, g4, g5, g6]
def isCode : Jvm.Cond → Bool
  | .code _ _ _ _ => true
  | _ => false
theorem all_split {L : List Jvm.Cond} {P : Jvm.Cond → Bool} (h1 : L.all (fun c => isCode c || P c) = true) (h2 : ∀ c ∈ L.filter isCode, P c = true) : L.all P = true := by
  refine List.all_eq_true.mpr fun c hc => ?_
  have h := List.all_eq_true.mp h1 c hc
  rcases Bool.eq_false_or_eq_true (isCode c) with hi | hi
  · exact h2 c (List.mem_filter.mpr ⟨hc, hi⟩)
  · simpa [hi] using h
set_option maxRecDepth 65536 in
theorem w_c0 : (Jvm.Cond.code x code maxLocals ret).before args0 about1 = true := code_word (m := ⟨1, 1⟩) (meth := k1m1) (c := k1c1) (by decide +kernel) rfl rfl rfl (by decide +kernel)
set_option maxRecDepth 65536 in
theorem w_c1 : (Jvm.Cond.code ({ cls := "com/example/eigenvote/eigenvote/rank/Weights", name := "scaledToSumOne", desc := "([D)[D" } : Jvm.MethodName) prog_49_method_3_code (8 : Nat) (Option.some (Jvm.ClassFile.FieldType.array Jvm.ClassFile.FieldType.double))).before args0 about1 = true := code_word (m := ⟨2, 1⟩) (meth := k2m1) (c := k2c1) (by decide +kernel) rfl rfl rfl (by decide +kernel)
set_option maxRecDepth 65536 in
theorem w_c2 : (Jvm.Cond.code ({ cls := "java/lang/Math", name := "max", desc := "(DD)D" } : Jvm.MethodName) jdk_29_method_68_code (4 : Nat) (Option.some Jvm.ClassFile.FieldType.double)).before args0 about1 = true := code_word (m := ⟨3, 1⟩) (meth := k3m1) (c := k3c1) (by decide +kernel) rfl rfl rfl (by decide +kernel)
set_option maxRecDepth 65536 in
theorem w_c3 : (Jvm.Cond.code ({ cls := "com/example/eigenvote/eigenvote/rank/WeightsScaledToSumOnePinLaw", name := "near", desc := "(DJD)Z" } : Jvm.MethodName) method_3_code (10 : Nat) (Option.some Jvm.ClassFile.FieldType.boolean)).before args0 about1 = true := code_word (m := ⟨1, 2⟩) (meth := k1m2) (c := k1c2) (by decide +kernel) rfl rfl rfl (by decide +kernel)
def codes1 : List Jvm.Cond := [Jvm.Cond.code x code maxLocals ret, Jvm.Cond.code ({ cls := "com/example/eigenvote/eigenvote/rank/Weights", name := "scaledToSumOne", desc := "([D)[D" } : Jvm.MethodName) prog_49_method_3_code (8 : Nat) (Option.some (Jvm.ClassFile.FieldType.array Jvm.ClassFile.FieldType.double)), Jvm.Cond.code ({ cls := "java/lang/Math", name := "max", desc := "(DD)D" } : Jvm.MethodName) jdk_29_method_68_code (4 : Nat) (Option.some Jvm.ClassFile.FieldType.double), Jvm.Cond.code ({ cls := "com/example/eigenvote/eigenvote/rank/WeightsScaledToSumOnePinLaw", name := "near", desc := "(DJD)Z" } : Jvm.MethodName) method_3_code (10 : Nat) (Option.some Jvm.ClassFile.FieldType.boolean)]
set_option maxRecDepth 65536 in
theorem codes_eq : words1.filter isCode = codes1 := rfl
theorem w_codes : ∀ c ∈ words1.filter isCode, c.before args0 about1 = true := by
  rw [codes_eq]
  intro c hc
  simp only [codes1, List.mem_cons, List.not_mem_nil, or_false] at hc
  rcases hc with rfl | rfl | rfl | rfl
  · exact w_c0
  · exact w_c1
  · exact w_c2
  · exact w_c3
set_option maxRecDepth 65536 in
theorem w_t1 : words1.all (fun c => isCode c || c.before args0 about1) = true := by decide +kernel
theorem w_tables : (allAtoms (Jvm.Cond.code x code maxLocals ret :: tables_1)).before args0 about1 = true := by
  rw [allAtoms_all]
  show words1.all (fun c => c.before args0 about1) = true
  refine all_split ?_ w_codes
  rw [w_t1]
set_option maxRecDepth 65536 in
theorem w_case : (Jvm.Cond.and given_1 narrow_1).before args0 about1 = true := by decide +kernel
theorem w_applies : (headSpec (Jvm.Cond.code x code maxLocals ret :: tables_1) room_1).applies x e0.platform about1 = true :=
  (Spec.applies_iff w_frames).mpr ⟨w_running, w_runnable, w_alone, w_named, w_hears, w_ripe, w_room, w_tables⟩
theorem atStart : AtStart classFile x code maxLocals ret World_1 tables_1 room_1 Calls_1 rest_1 Pre_1 launch0 p0 e0 about1 theMethod args0 below0 :=
  ⟨lists_1, trivial, launch0.admits_env _ _ _, launch0.least_env, fairChoices_fair.cas, fairChoices_fair.clock, w_frames, w_args, w_heap, w_applies, trivial, trivial, w_case⟩
end start1
theorem witness_1 : WitnessClaimed_1 := ⟨start1.p0, start1.e0, start1.about1, start1.theMethod, start1.args0, start1.below0, start1.atStart⟩
end Jvm.Pilot.@@N@@
